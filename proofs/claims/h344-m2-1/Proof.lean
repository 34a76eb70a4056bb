import JvmDerived
import JvmDerived.Pilot.@@N@@Statement
import JvmDerived.Pilot.@@N@@Code
set_option linter.unusedVariables false
set_option linter.unusedSimpArgs false
namespace Jvm.Pilot.@@N@@
open Jvm Jvm.ClassFile Sem Op Lib Jvm.Free Jvm.Stand Jvm.LawKit Jvm.RoadKit Bundle Jvm.Pilot.@@N@@.Jvm.D
section OwnKit
variable {p : Program} {l : Launch} {e : Env} {R : Room} {s : State} {m : MethodId} {args : Array Value} {below : List Frame} {meth : Method} {c : Code} {T : State} {locs : List Loc} {cells slots ck sk : Nat} {S S' t : State} {Q : Option Value → Heap → List Loc → Prop}
/-- from S the run comes to a return of which Q is said -/
def Go (p : Program) (e : Env) (below : List Frame) (s : State) (Q : Option Value → Heap → List Loc → Prop) (ck sk : Nat) (S : State) : Prop :=
  ∃ s₂ o, Steps p.tables e below S s₂ ∧ s₂.status = .running ∧ Ended s₂ below o ∧ ∃ v L, o = .returned v ∧ Q v s₂.heap L ∧ FrameEnd s o s₂ L ck sk
theorem Go.st (h : ∀ t, Steps p.tables e below S' t → Steps p.tables e below S t) (k : Go p e below s Q ck sk S') : Go p e below s Q ck sk S := by
  obtain ⟨s₂, o, h1, r⟩ := k
  exact ⟨s₂, o, h _ h1, r⟩
theorem Go.tr (h : Steps p.tables e below S S') (k : Go p e below s Q ck sk S') : Go p e below s Q ck sk S := Go.st (fun _ q => h.trans q) k
theorem via (h : Steps p.tables e below S' t → Steps p.tables e below S t) (k : Steps p.tables e below S' t) : Steps p.tables e below S t := h k
theorem Go.retW (X : Stand p l e R s m args below meth c T locs cells slots) (hx : p.tables.exec = Jvm.exec) (hlk : meth.locks = false) {pc : Nat} {Ls : Array Slot} {w : Value} {ty : FieldType} {i : Instr} {rest : List Value} (hret : meth.sig.returnType = some ty) (hn : narrow ty w = w)
    (hi : (i = .ireturn ∧ (ty = .int ∨ ty = .boolean ∨ ty = .byte ∨ ty = .char ∨ ty = .short) ∧ ∃ z, w = .int z) ∨ (i = .lreturn ∧ ty = .long ∧ ∃ z, w = .long z) ∨ (i = .dreturn ∧ ty = .double ∧ ∃ z, w = .double z) ∨ (i = .freturn ∧ ty = .float ∧ ∃ z, w = .float z) ∨ (i = .areturn ∧ ty.isReference = true ∧ w.isRef = true))
    (hd : decode c.code pc = .ok (i, 1)) (hQ : Q (some w) T.heap locs) (hc : cells ≤ ck) (hs : slots ≤ sk) : Go p e below s Q ck sk (T.setTop (mkF m pc Ls (w :: rest))) := by
  obtain ⟨fs, hr, hrun, hended, hW, hsame⟩ := X.leave (v := some w) (fun h => by rw [hret] at h; cases h)
  exact ⟨_, _, retOut X hx hret hn hi hd hr, hrun, hended, _, _, rfl, hQ, ⟨_, rfl⟩, hW, hsame.mono hc hs⟩
theorem Go.retI (X : Stand p l e R s m args below meth c T locs cells slots) (hx : p.tables.exec = Jvm.exec) (hlk : meth.locks = false) {pc : Nat} {Ls : Array Slot} {z : Int32} {rest : List Value} (hret : meth.sig.returnType = some .int) (hd : decode c.code pc = .ok (.ireturn, 1)) (hQ : Q (some (.int z)) T.heap locs) (hc : cells ≤ ck) (hs : slots ≤ sk) : Go p e below s Q ck sk (T.setTop (mkF m pc Ls (.int z :: rest))) :=
  Go.retW X hx hlk hret rfl (Or.inl ⟨rfl, Or.inl rfl, _, rfl⟩) hd hQ hc hs
theorem Go.retJ (X : Stand p l e R s m args below meth c T locs cells slots) (hx : p.tables.exec = Jvm.exec) (hlk : meth.locks = false) {pc : Nat} {Ls : Array Slot} {z : Int64} {rest : List Value} (hret : meth.sig.returnType = some .long) (hd : decode c.code pc = .ok (.lreturn, 1)) (hQ : Q (some (.long z)) T.heap locs) (hc : cells ≤ ck) (hs : slots ≤ sk) : Go p e below s Q ck sk (T.setTop (mkF m pc Ls (.long z :: rest))) :=
  Go.retW X hx hlk hret rfl (Or.inr (Or.inl ⟨rfl, rfl, _, rfl⟩)) hd hQ hc hs
theorem Go.retA (X : Stand p l e R s m args below meth c T locs cells slots) (hx : p.tables.exec = Jvm.exec) (hlk : meth.locks = false) {pc : Nat} {Ls : Array Slot} {w : Value} {ty : FieldType} {rest : List Value} (hret : meth.sig.returnType = some ty) (ht : ty.isReference = true) (hw : w.isRef = true) (hd : decode c.code pc = .ok (.areturn, 1)) (hQ : Q (some w) T.heap locs) (hc : cells ≤ ck) (hs : slots ≤ sk) : Go p e below s Q ck sk (T.setTop (mkF m pc Ls (w :: rest))) :=
  Go.retW X hx hlk hret (by cases ty <;> first | (cases ht; done) | (cases w <;> first | rfl | cases hw)) (Or.inr (Or.inr (Or.inr (Or.inr ⟨rfl, ht, hw⟩)))) hd hQ hc hs
theorem Go.retN (X : Stand p l e R s m args below meth c T locs cells slots) (hx : p.tables.exec = Jvm.exec) (hlk : meth.locks = false) {pc : Nat} {Ls : Array Slot} {z : Int32} {t : FieldType} {rest : List Value} (hret : meth.sig.returnType = some t) (ht : t = .boolean ∨ t = .byte ∨ t = .char ∨ t = .short) (hd : decode c.code pc = .ok (.ireturn, 1)) (hQ : Q (some (.int (nar t z))) T.heap locs) (hc : cells ≤ ck) (hs : slots ≤ sk) : Go p e below s Q ck sk (T.setTop (mkF m pc Ls (.int z :: rest))) := by
  obtain ⟨fs, hr, hrun, hended, hW, hsame⟩ := X.leave (v := some (.int (nar t z))) (fun h => by rw [hret] at h; cases h)
  exact ⟨_, _, Jvm.RoadKit.retN X hx hret ht hd hr, hrun, hended, _, _, rfl, hQ, ⟨_, rfl⟩, hW, hsame.mono hc hs⟩
theorem Go.ret0 (X : Stand p l e R s m args below meth c T locs cells slots) (hx : p.tables.exec = Jvm.exec) (hlk : meth.locks = false) {pc : Nat} {Ls : Array Slot} (hret : meth.sig.returnType = none) (hd : decode c.code pc = .ok (.return_, 1)) (hQ : Q none T.heap locs) (hc : cells ≤ ck) (hs : slots ≤ sk) : Go p e below s Q ck sk (T.setTop (mkF m pc Ls [])) := by
  obtain ⟨fs, hr, hrun, hended, hW, hsame⟩ := X.leave (v := none) (fun _ => rfl)
  exact ⟨_, _, X.returnOut hx hret hd hr, hrun, hended, _, _, rfl, hQ, ⟨_, rfl⟩, hW, hsame.mono hc hs⟩
/-- what a body leaves that writes nothing -/
def PQ (w : Value) (n0 : Nat) (h0 : Heap) (v : Option Value) (h : Heap) (L : List Loc) : Prop := v = some w ∧ Fr n0 L ∧ h = h0
/-- what the law leaves -/
def LQ (n0 : Nat) (v : Option Value) (h : Heap) (L : List Loc) : Prop := v = some (.int 1) ∧ Fr n0 L
/-- the j-th of a list of ints -/
def bt (bs : List Int32) (j : Int32) : Int32 := bs.getD j.toNatClampNeg 0
theorem own_at {bs : List Int32} {c : Cell} {j : Int32} (H : Has c (bs.map .int) (.int 0)) (hin : ¬ (j < 0 ∨ c.slots.size ≤ j.toNatClampNeg)) : c.slots[j.toNatClampNeg]? = some (.int (bt bs j)) :=
  Has.at H hin (by unfold bt; simp only [List.getD, List.getElem?_map]; cases bs[j.toNatClampNeg]? <;> rfl)
theorem own_len {t : Term} {a : Addr} {cl : Cell} {n : Int32} (ev : t.eval args s none [] s = some (.ref a)) (ha : s.arrayAt? a = some cl) (h : (Cond.eq (.length t) (.int n)).value args s none s [] = some true) : cl.slots.size < 2 ^ 31 ∧ cl.slots.size.toInt32 = n := by
  by_cases q : cl.slots.size < 2 ^ 31
  · exact ⟨q, gotT (Cond.eq_ints (len_f ev ha q) (Term.int_eval n)) h⟩
  · exfalso
    simp [Cond.value, Term.eval, ev, ha, q] at h
theorem own_size {cl : Cell} {n : Int32} {k : Nat} (q : cl.slots.size < 2 ^ 31 ∧ cl.slots.size.toInt32 = n) (hk : n.toInt = k) : cl.slots.size = k := by
  have h := len_toInt q.1
  rw [q.2, hk] at h
  omega
end OwnKit

theorem pd_0 : parseMethodDescriptor "(JJ)Z" = some ⟨[.long, .long], some .boolean⟩ := by decide +kernel
theorem pd_1 : parseMethodDescriptor "()I" = some ⟨[], some .int⟩ := by decide +kernel
theorem pd_2 : parseMethodDescriptor "(JJ)J" = some ⟨[.long, .long], some .long⟩ := by decide +kernel
def fO (w1 : Int32) : Int32 := w1
theorem d2_0 : decode jdk_37_method_2_code 0 = .ok (.aload_n 0, 1) := by decide +kernel
theorem d2_1 : decode jdk_37_method_2_code 1 = .ok (.getfield 7, 3) := by decide +kernel
theorem d2_4 : decode jdk_37_method_2_code 4 = .ok (.ireturn, 1) := by decide +kernel
theorem pn_0 : plainName "java/lang/Enum" = true := by first | (simp [plainName, overriddenIn]; done) | decide +kernel
theorem ef_2 (m : MethodId) (a0 : Addr) : entryFrame m #[(.ref a0)] 1 = mkF m 0 #[.val (.ref a0)] [] := by first | (simp [entryFrame, mkF, argsToLocals, Value.category]; done) | rfl
set_option maxRecDepth 65536 in
set_option maxHeartbeats 40000000 in
theorem rmO (l : Launch) (Z : State) (az : Array Value) (hw : ∀ d ∈ tables_1, d.before az Z = true) (ws : List Jvm.Cond) (a0 : Addr) (w1 : Int32) (h0 : Heap) (n0 : Nat) (Z0 : n0 ≤ h0.size) (F_ord : Fld Z h0 a0 "java/lang/Enum" "ordinal" "I" (.int w1)) :
    MetFree l (⟨"java/lang/Enum", "ordinal", "()I"⟩ : MethodName) (head1 (Jvm.Cond.code (⟨"java/lang/Enum", "ordinal", "()I"⟩ : MethodName) jdk_37_method_2_code 1 (some .int) :: ws) ({ frames := 0, cells := 0, slots := 0, locals := 0 } : Room)) (fun a U => a = #[(.ref a0)] ∧ Z.Warmed39 U.vm ∧ U.heap = h0) (fun _ _ _ _ _ => True) (fun _ U o U' => ∃ v L, o = .returned v ∧ (PQ (.int (fO w1)) n0 h0) v U'.heap L ∧ FrameEnd U o U' L ({ frames := 0, cells := 0, slots := 0, locals := 0 } : Room).cells ({ frames := 0, cells := 0, slots := 0, locals := 0 } : Room).slots) := by
  refine MetFree.of_bodySF (plainFor_of_name pn_0) hisR ?_
  intro p e s m args below meth c s₁ Bd hml0 hP hK
  obtain ⟨rfl, hZ, hh⟩ := hP
  have hx := Bd.exec
  have hby := Bd.bytes
  have hlk : meth.locks = false := Bd.notSynchronized
  have hml : c.maxLocals = 1 := hml0
  have hown : s.vm.findClass "java/lang/Enum" = some m.cls := findClass_of_methodNamed Bd.named
  have hnm := (name_of_methodNamed Bd.named Bd.method).1
  have X0 : Stand p l e ({ frames := 0, cells := 0, slots := 0, locals := 0 } : Room) s m #[(.ref a0)] below meth c s₁ [] 0 0 := Stand.of_body Bd
  have e0 : s₁.heap = h0 := by rw [← hh, Bd.state]; rfl
  have N0 := Fr.nil n0
  show Go p e below s ((PQ (.int (fO w1)) n0 h0)) ({ frames := 0, cells := 0, slots := 0, locals := 0 } : Room).cells ({ frames := 0, cells := 0, slots := 0, locals := 0 } : Room).slots (s₁.setTop (entryFrame m #[(.ref a0)] 1))
  rw [ef_2 m a0]
  refine Go.st (S' := s₁.setTop (mkF m 1 #[.val (.ref a0)] [(.ref a0)])) (fun _ kk => XS.aloadN X0.here hx rfl (hb hby d2_0) rfl rfl kk) ?_
  obtain ⟨T1, X1, e1, st1⟩ := getF X0 hx hZ hown (host := "") (Or.inl (hw _ (List.mem_of_getElem? (i := 15) rfl))) Via.refl e0 F_ord (g := (mkF m 1 #[.val (.ref a0)] [(.ref a0)])) rfl rfl (hb hby d2_1)
  refine Go.st (S' := T1.setTop (mkF m 4 #[.val (.ref a0)] [(.int w1)])) st1 ?_
  exact Go.retI X1 hx hlk Bd.returns (hb hby d2_4) (⟨congrArg (fun q => some (Value.int q)) (Eq.symm (show fO w1 = w1 from by rfl)), N0, e1⟩) (by decide) (by decide)
def fH0 (q1 : Int64) (q2 : Int64) : Int32 := (if q1 < q2 then (0 : Int32) else (1 : Int32))
theorem d1_0 : decode prog_26_method_6_code 0 = .ok (.aload_n 0, 1) := by decide +kernel
theorem d1_1 : decode prog_26_method_6_code 1 = .ok (.invokevirtual 56, 3) := by decide +kernel
theorem d1_4 : decode prog_26_method_6_code 4 = .ok (.tableswitch 28 0 2 #[38, 52, 66], 28) := by decide +kernel
theorem d1_32 : decode prog_26_method_6_code 32 = .ok (.new 60, 3) := by decide +kernel
theorem d1_35 : decode prog_26_method_6_code 35 = .ok (.dup, 1) := by decide +kernel
theorem d1_36 : decode prog_26_method_6_code 36 = .ok (.aconst_null, 1) := by decide +kernel
theorem d1_37 : decode prog_26_method_6_code 37 = .ok (.aconst_null, 1) := by decide +kernel
theorem d1_38 : decode prog_26_method_6_code 38 = .ok (.invokespecial 62, 3) := by decide +kernel
theorem d1_41 : decode prog_26_method_6_code 41 = .ok (.athrow, 1) := by decide +kernel
theorem d1_42 : decode prog_26_method_6_code 42 = .ok (.lload_n 1, 1) := by decide +kernel
theorem d1_43 : decode prog_26_method_6_code 43 = .ok (.lload_n 3, 1) := by decide +kernel
theorem d1_44 : decode prog_26_method_6_code 44 = .ok (.lcmp, 1) := by decide +kernel
theorem d1_45 : decode prog_26_method_6_code 45 = .ok (.ifCond .lt 7, 3) := by decide +kernel
theorem d1_48 : decode prog_26_method_6_code 48 = .ok (.iconst 1, 1) := by decide +kernel
theorem d1_49 : decode prog_26_method_6_code 49 = .ok (.goto 32, 3) := by decide +kernel
theorem d1_52 : decode prog_26_method_6_code 52 = .ok (.iconst 0, 1) := by decide +kernel
theorem d1_53 : decode prog_26_method_6_code 53 = .ok (.goto 28, 3) := by decide +kernel
theorem d1_56 : decode prog_26_method_6_code 56 = .ok (.lload_n 1, 1) := by decide +kernel
theorem d1_57 : decode prog_26_method_6_code 57 = .ok (.lload_n 3, 1) := by decide +kernel
theorem d1_58 : decode prog_26_method_6_code 58 = .ok (.lcmp, 1) := by decide +kernel
theorem d1_59 : decode prog_26_method_6_code 59 = .ok (.ifCond .gt 7, 3) := by decide +kernel
theorem d1_62 : decode prog_26_method_6_code 62 = .ok (.iconst 1, 1) := by decide +kernel
theorem d1_63 : decode prog_26_method_6_code 63 = .ok (.goto 18, 3) := by decide +kernel
theorem d1_66 : decode prog_26_method_6_code 66 = .ok (.iconst 0, 1) := by decide +kernel
theorem d1_67 : decode prog_26_method_6_code 67 = .ok (.goto 14, 3) := by decide +kernel
theorem d1_70 : decode prog_26_method_6_code 70 = .ok (.lload_n 1, 1) := by decide +kernel
theorem d1_71 : decode prog_26_method_6_code 71 = .ok (.lload_n 3, 1) := by decide +kernel
theorem d1_72 : decode prog_26_method_6_code 72 = .ok (.lcmp, 1) := by decide +kernel
theorem d1_73 : decode prog_26_method_6_code 73 = .ok (.ifCond .ne 7, 3) := by decide +kernel
theorem d1_76 : decode prog_26_method_6_code 76 = .ok (.iconst 1, 1) := by decide +kernel
theorem d1_77 : decode prog_26_method_6_code 77 = .ok (.goto 4, 3) := by decide +kernel
theorem d1_80 : decode prog_26_method_6_code 80 = .ok (.iconst 0, 1) := by decide +kernel
theorem d1_81 : decode prog_26_method_6_code 81 = .ok (.ireturn, 1) := by decide +kernel
theorem pn_1 : plainName "com/example/patient_snoop/patientsnoop/model/Relation" = true := by first | (simp [plainName, overriddenIn]; done) | decide +kernel
theorem ef_1 (m : MethodId) (a0 : Addr) (q1 : Int64) (q2 : Int64) : entryFrame m #[(.ref a0), (.long q1), (.long q2)] 5 = mkF m 0 #[.val (.ref a0), .val (.long q1), .second, .val (.long q2), .second] [] := by first | (simp [entryFrame, mkF, argsToLocals, Value.category]; done) | rfl
set_option maxRecDepth 65536 in
set_option maxHeartbeats 40000000 in
theorem rmH0 (l : Launch) (Z : State) (az : Array Value) (hw : ∀ d ∈ tables_1, d.before az Z = true) (ws : List Jvm.Cond) (a0 : Addr) (q1 : Int64) (q2 : Int64)  (h0 : Heap) (n0 : Nat) (Z0 : n0 ≤ h0.size) (F_ord : Fld Z h0 a0 "java/lang/Enum" "ordinal" "I" (.int (0 : Int32))) (E_a0 : Exa Z h0 a0 "com/example/patient_snoop/patientsnoop/model/Relation") :
    MetFree l (⟨"com/example/patient_snoop/patientsnoop/model/Relation", "holds", "(JJ)Z"⟩ : MethodName) (head1 (Jvm.Cond.code (⟨"com/example/patient_snoop/patientsnoop/model/Relation", "holds", "(JJ)Z"⟩ : MethodName) prog_26_method_6_code 5 (some .boolean) :: ws) ({ frames := 1, cells := 0, slots := 0, locals := 12 } : Room)) (fun a U => a = #[(.ref a0), (.long q1), (.long q2)] ∧ Z.Warmed39 U.vm ∧ U.heap = h0) (fun _ _ _ _ _ => True) (fun _ U o U' => ∃ v L, o = .returned v ∧ (PQ (.int (fH0 q1 q2)) n0 h0) v U'.heap L ∧ FrameEnd U o U' L ({ frames := 1, cells := 0, slots := 0, locals := 12 } : Room).cells ({ frames := 1, cells := 0, slots := 0, locals := 12 } : Room).slots) := by
  refine MetFree.of_bodySF (plainFor_of_name pn_1) hisR ?_
  intro p e s m args below meth c s₁ Bd hml0 hP hK
  obtain ⟨rfl, hZ, hh⟩ := hP
  have hx := Bd.exec
  have hby := Bd.bytes
  have hlk : meth.locks = false := Bd.notSynchronized
  have hml : c.maxLocals = 5 := hml0
  have hown : s.vm.findClass "com/example/patient_snoop/patientsnoop/model/Relation" = some m.cls := findClass_of_methodNamed Bd.named
  have hnm := (name_of_methodNamed Bd.named Bd.method).1
  have X0 : Stand p l e ({ frames := 1, cells := 0, slots := 0, locals := 12 } : Room) s m #[(.ref a0), (.long q1), (.long q2)] below meth c s₁ [] 0 0 := Stand.of_body Bd
  have e0 : s₁.heap = h0 := by rw [← hh, Bd.state]; rfl
  have N0 := Fr.nil n0
  show Go p e below s ((PQ (.int (fH0 q1 q2)) n0 h0)) ({ frames := 1, cells := 0, slots := 0, locals := 12 } : Room).cells ({ frames := 1, cells := 0, slots := 0, locals := 12 } : Room).slots (s₁.setTop (entryFrame m #[(.ref a0), (.long q1), (.long q2)] 5))
  rw [ef_1 m a0 q1 q2]
  refine Go.st (S' := s₁.setTop (mkF m 1 #[.val (.ref a0), .val (.long q1), .second, .val (.long q2), .second] [(.ref a0)])) (fun _ kk => XS.aloadN X0.here hx rfl (hb hby d1_0) rfl rfl kk) ?_
  obtain ⟨cq1, kq1, q1a, q1b, q1c⟩ := isOf hZ e0 E_a0
  obtain ⟨_, _, ⟨T1, L1, k1, n1⟩, -, X1, ⟨Lc1, hQ1, l1, y1, z1⟩, st1⟩ := X0.virtualBackUp hx (x := (⟨"com/example/patient_snoop/patientsnoop/model/Relation", "ordinal", "()I"⟩ : MethodName)) (y := (⟨"java/lang/Enum", "ordinal", "()I"⟩ : MethodName)) (owner := "java/lang/Enum") hown (mvT hZ (hw _ (List.mem_of_getElem? (i := 8) rfl))) (mvT hZ (hw _ (List.mem_of_getElem? (i := 9) rfl))) (mvT hZ (hw _ (List.mem_of_getElem? (i := 10) rfl))) (by decide) (mvT hZ (hw _ (List.mem_of_getElem? (i := 12) rfl))) (mvT hZ (hw _ (List.mem_of_getElem? (i := 11) rfl))) (backOf (W := 0) (rmO l Z az hw [] a0 (0 : Int32) h0 n0 Z0 F_ord) hZ (hw _ (List.mem_of_getElem? (i := 14) rfl)) (hw _ (List.mem_of_getElem? (i := 13) rfl)) (by decide) (by decide)) q1a q1c (g := (mkF m 1 #[.val (.ref a0), .val (.long q1), .second, .val (.long q2), .second] [(.ref a0)])) rfl (by rw [hml]; rfl) (Steps.refl _) (argsL := []) (rest := []) (lenOf pd_1 rfl) rfl (by show 2 * 0 + _ ≤ _; exact Nat.le_of_eq rfl) (hb hby d1_1) (fun _ _ => ⟨rfl, e0, (by decide : 0 + 0 ≤ _), (by decide : 0 + 0 ≤ _)⟩)
  dsimp only [Pt.U, Pt.locs, Pt.cells, Pt.slots] at X1 l1 y1 z1 st1 hQ1
  subst l1 y1 z1
  obtain ⟨hv1, N1q, e1⟩ := hQ1
  rw [show fO (0 : Int32) = (0 : Int32) from rfl] at hv1
  subst hv1
  have N1 := Fr.app N0 N1q
  refine Go.tr (S' := T1.setTop (mkF m 4 #[.val (.ref a0), .val (.long q1), .second, .val (.long q2), .second] [(.int (0 : Int32))])) st1 ?_
  refine Go.st (S' := T1.setTop (mkF m 42 #[.val (.ref a0), .val (.long q1), .second, .val (.long q2), .second] [])) (fun _ kk => XS.tswIn X1.here hx rfl (pc0 := 4) (pc' := 42) rfl (hb hby d1_4) rfl (by decide) rfl (by decide) (by decide) kk) ?_
  refine Go.st (S' := T1.setTop (mkF m 43 #[.val (.ref a0), .val (.long q1), .second, .val (.long q2), .second] [(.long q1)])) (fun _ kk => XS.lloadN X1.here hx rfl (hb hby d1_42) rfl kk) ?_
  refine Go.st (S' := T1.setTop (mkF m 44 #[.val (.ref a0), .val (.long q1), .second, .val (.long q2), .second] [(.long q2), (.long q1)])) (fun _ kk => XS.lloadN X1.here hx rfl (hb hby d1_43) rfl kk) ?_
  refine Go.st (S' := T1.setTop (mkF m 45 #[.val (.ref a0), .val (.long q1), .second, .val (.long q2), .second] [(.int (lcmpW q1 q2))])) (fun _ kk => XS.lcmp X1.here hx rfl (hb hby d1_44) rfl kk) ?_
  by_cases hc2 : q1 < q2
  · refine Go.st (S' := T1.setTop (mkF m 52 #[.val (.ref a0), .val (.long q1), .second, .val (.long q2), .second] [])) (fun _ kk => XS.ifYes X1.here hx rfl (pc0 := 45) (pc' := 52) rfl (hb hby d1_45) rfl ((if0 _ _).trans (tlt ((lw_lt q1 q2).mpr hc2)).1) (by decide) (by decide) kk) ?_
    refine Go.st (S' := T1.setTop (mkF m 53 #[.val (.ref a0), .val (.long q1), .second, .val (.long q2), .second] [(.int (0 : Int32))])) (fun _ kk => XS.iconst X1.here hx rfl (hb hby d1_52) kk) ?_
    refine Go.st (S' := T1.setTop (mkF m 81 #[.val (.ref a0), .val (.long q1), .second, .val (.long q2), .second] [(.int (0 : Int32))])) (fun _ kk => XS.goto X1.here hx rfl (pc0 := 53) (pc' := 81) rfl (hb hby d1_53) (by decide) (by decide) kk) ?_
    exact Go.retN X1 hx hlk (t := .boolean) Bd.returns (by simp) (hb hby d1_81) (⟨congrArg (fun q => some (Value.int q)) (Eq.symm (show fH0 q1 q2 = (0 : Int32) from by unfold fH0; rw [if_pos hc2])), N1, e1⟩) (by decide) (by decide)
  · refine Go.st (S' := T1.setTop (mkF m 48 #[.val (.ref a0), .val (.long q1), .second, .val (.long q2), .second] [])) (fun _ kk => XS.ifNo X1.here hx rfl (hb hby d1_45) rfl ((if0 _ _).trans (flt (fun q => hc2 ((lw_lt q1 q2).mp q))).1) kk) ?_
    refine Go.st (S' := T1.setTop (mkF m 49 #[.val (.ref a0), .val (.long q1), .second, .val (.long q2), .second] [(.int (1 : Int32))])) (fun _ kk => XS.iconst X1.here hx rfl (hb hby d1_48) kk) ?_
    refine Go.st (S' := T1.setTop (mkF m 81 #[.val (.ref a0), .val (.long q1), .second, .val (.long q2), .second] [(.int (1 : Int32))])) (fun _ kk => XS.goto X1.here hx rfl (pc0 := 49) (pc' := 81) rfl (hb hby d1_49) (by decide) (by decide) kk) ?_
    exact Go.retN X1 hx hlk (t := .boolean) Bd.returns (by simp) (hb hby d1_81) (⟨congrArg (fun q => some (Value.int q)) (Eq.symm (show fH0 q1 q2 = (1 : Int32) from by unfold fH0; rw [if_neg hc2])), N1, e1⟩) (by decide) (by decide)
def fH1 (q1 : Int64) (q2 : Int64) : Int32 := (if q2 < q1 then (0 : Int32) else (1 : Int32))
set_option maxRecDepth 65536 in
set_option maxHeartbeats 40000000 in
theorem rmH1 (l : Launch) (Z : State) (az : Array Value) (hw : ∀ d ∈ tables_1, d.before az Z = true) (ws : List Jvm.Cond) (a0 : Addr) (q1 : Int64) (q2 : Int64)  (h0 : Heap) (n0 : Nat) (Z0 : n0 ≤ h0.size) (F_ord : Fld Z h0 a0 "java/lang/Enum" "ordinal" "I" (.int (1 : Int32))) (E_a0 : Exa Z h0 a0 "com/example/patient_snoop/patientsnoop/model/Relation") :
    MetFree l (⟨"com/example/patient_snoop/patientsnoop/model/Relation", "holds", "(JJ)Z"⟩ : MethodName) (head1 (Jvm.Cond.code (⟨"com/example/patient_snoop/patientsnoop/model/Relation", "holds", "(JJ)Z"⟩ : MethodName) prog_26_method_6_code 5 (some .boolean) :: ws) ({ frames := 1, cells := 0, slots := 0, locals := 12 } : Room)) (fun a U => a = #[(.ref a0), (.long q1), (.long q2)] ∧ Z.Warmed39 U.vm ∧ U.heap = h0) (fun _ _ _ _ _ => True) (fun _ U o U' => ∃ v L, o = .returned v ∧ (PQ (.int (fH1 q1 q2)) n0 h0) v U'.heap L ∧ FrameEnd U o U' L ({ frames := 1, cells := 0, slots := 0, locals := 12 } : Room).cells ({ frames := 1, cells := 0, slots := 0, locals := 12 } : Room).slots) := by
  refine MetFree.of_bodySF (plainFor_of_name pn_1) hisR ?_
  intro p e s m args below meth c s₁ Bd hml0 hP hK
  obtain ⟨rfl, hZ, hh⟩ := hP
  have hx := Bd.exec
  have hby := Bd.bytes
  have hlk : meth.locks = false := Bd.notSynchronized
  have hml : c.maxLocals = 5 := hml0
  have hown : s.vm.findClass "com/example/patient_snoop/patientsnoop/model/Relation" = some m.cls := findClass_of_methodNamed Bd.named
  have hnm := (name_of_methodNamed Bd.named Bd.method).1
  have X0 : Stand p l e ({ frames := 1, cells := 0, slots := 0, locals := 12 } : Room) s m #[(.ref a0), (.long q1), (.long q2)] below meth c s₁ [] 0 0 := Stand.of_body Bd
  have e0 : s₁.heap = h0 := by rw [← hh, Bd.state]; rfl
  have N0 := Fr.nil n0
  show Go p e below s ((PQ (.int (fH1 q1 q2)) n0 h0)) ({ frames := 1, cells := 0, slots := 0, locals := 12 } : Room).cells ({ frames := 1, cells := 0, slots := 0, locals := 12 } : Room).slots (s₁.setTop (entryFrame m #[(.ref a0), (.long q1), (.long q2)] 5))
  rw [ef_1 m a0 q1 q2]
  refine Go.st (S' := s₁.setTop (mkF m 1 #[.val (.ref a0), .val (.long q1), .second, .val (.long q2), .second] [(.ref a0)])) (fun _ kk => XS.aloadN X0.here hx rfl (hb hby d1_0) rfl rfl kk) ?_
  obtain ⟨cq1, kq1, q1a, q1b, q1c⟩ := isOf hZ e0 E_a0
  obtain ⟨_, _, ⟨T1, L1, k1, n1⟩, -, X1, ⟨Lc1, hQ1, l1, y1, z1⟩, st1⟩ := X0.virtualBackUp hx (x := (⟨"com/example/patient_snoop/patientsnoop/model/Relation", "ordinal", "()I"⟩ : MethodName)) (y := (⟨"java/lang/Enum", "ordinal", "()I"⟩ : MethodName)) (owner := "java/lang/Enum") hown (mvT hZ (hw _ (List.mem_of_getElem? (i := 8) rfl))) (mvT hZ (hw _ (List.mem_of_getElem? (i := 9) rfl))) (mvT hZ (hw _ (List.mem_of_getElem? (i := 10) rfl))) (by decide) (mvT hZ (hw _ (List.mem_of_getElem? (i := 12) rfl))) (mvT hZ (hw _ (List.mem_of_getElem? (i := 11) rfl))) (backOf (W := 0) (rmO l Z az hw [] a0 (1 : Int32) h0 n0 Z0 F_ord) hZ (hw _ (List.mem_of_getElem? (i := 14) rfl)) (hw _ (List.mem_of_getElem? (i := 13) rfl)) (by decide) (by decide)) q1a q1c (g := (mkF m 1 #[.val (.ref a0), .val (.long q1), .second, .val (.long q2), .second] [(.ref a0)])) rfl (by rw [hml]; rfl) (Steps.refl _) (argsL := []) (rest := []) (lenOf pd_1 rfl) rfl (by show 2 * 0 + _ ≤ _; exact Nat.le_of_eq rfl) (hb hby d1_1) (fun _ _ => ⟨rfl, e0, (by decide : 0 + 0 ≤ _), (by decide : 0 + 0 ≤ _)⟩)
  dsimp only [Pt.U, Pt.locs, Pt.cells, Pt.slots] at X1 l1 y1 z1 st1 hQ1
  subst l1 y1 z1
  obtain ⟨hv1, N1q, e1⟩ := hQ1
  rw [show fO (1 : Int32) = (1 : Int32) from rfl] at hv1
  subst hv1
  have N1 := Fr.app N0 N1q
  refine Go.tr (S' := T1.setTop (mkF m 4 #[.val (.ref a0), .val (.long q1), .second, .val (.long q2), .second] [(.int (1 : Int32))])) st1 ?_
  refine Go.st (S' := T1.setTop (mkF m 56 #[.val (.ref a0), .val (.long q1), .second, .val (.long q2), .second] [])) (fun _ kk => XS.tswIn X1.here hx rfl (pc0 := 4) (pc' := 56) rfl (hb hby d1_4) rfl (by decide) rfl (by decide) (by decide) kk) ?_
  refine Go.st (S' := T1.setTop (mkF m 57 #[.val (.ref a0), .val (.long q1), .second, .val (.long q2), .second] [(.long q1)])) (fun _ kk => XS.lloadN X1.here hx rfl (hb hby d1_56) rfl kk) ?_
  refine Go.st (S' := T1.setTop (mkF m 58 #[.val (.ref a0), .val (.long q1), .second, .val (.long q2), .second] [(.long q2), (.long q1)])) (fun _ kk => XS.lloadN X1.here hx rfl (hb hby d1_57) rfl kk) ?_
  refine Go.st (S' := T1.setTop (mkF m 59 #[.val (.ref a0), .val (.long q1), .second, .val (.long q2), .second] [(.int (lcmpW q1 q2))])) (fun _ kk => XS.lcmp X1.here hx rfl (hb hby d1_58) rfl kk) ?_
  by_cases hc2 : q2 < q1
  · refine Go.st (S' := T1.setTop (mkF m 66 #[.val (.ref a0), .val (.long q1), .second, .val (.long q2), .second] [])) (fun _ kk => XS.ifYes X1.here hx rfl (pc0 := 59) (pc' := 66) rfl (hb hby d1_59) rfl ((if0 _ _).trans (tlt ((lw_gt q1 q2).mpr hc2)).2.2.1) (by decide) (by decide) kk) ?_
    refine Go.st (S' := T1.setTop (mkF m 67 #[.val (.ref a0), .val (.long q1), .second, .val (.long q2), .second] [(.int (0 : Int32))])) (fun _ kk => XS.iconst X1.here hx rfl (hb hby d1_66) kk) ?_
    refine Go.st (S' := T1.setTop (mkF m 81 #[.val (.ref a0), .val (.long q1), .second, .val (.long q2), .second] [(.int (0 : Int32))])) (fun _ kk => XS.goto X1.here hx rfl (pc0 := 67) (pc' := 81) rfl (hb hby d1_67) (by decide) (by decide) kk) ?_
    exact Go.retN X1 hx hlk (t := .boolean) Bd.returns (by simp) (hb hby d1_81) (⟨congrArg (fun q => some (Value.int q)) (Eq.symm (show fH1 q1 q2 = (0 : Int32) from by unfold fH1; rw [if_pos hc2])), N1, e1⟩) (by decide) (by decide)
  · refine Go.st (S' := T1.setTop (mkF m 62 #[.val (.ref a0), .val (.long q1), .second, .val (.long q2), .second] [])) (fun _ kk => XS.ifNo X1.here hx rfl (hb hby d1_59) rfl ((if0 _ _).trans (flt (fun q => hc2 ((lw_gt q1 q2).mp q))).2.2.1) kk) ?_
    refine Go.st (S' := T1.setTop (mkF m 63 #[.val (.ref a0), .val (.long q1), .second, .val (.long q2), .second] [(.int (1 : Int32))])) (fun _ kk => XS.iconst X1.here hx rfl (hb hby d1_62) kk) ?_
    refine Go.st (S' := T1.setTop (mkF m 81 #[.val (.ref a0), .val (.long q1), .second, .val (.long q2), .second] [(.int (1 : Int32))])) (fun _ kk => XS.goto X1.here hx rfl (pc0 := 63) (pc' := 81) rfl (hb hby d1_63) (by decide) (by decide) kk) ?_
    exact Go.retN X1 hx hlk (t := .boolean) Bd.returns (by simp) (hb hby d1_81) (⟨congrArg (fun q => some (Value.int q)) (Eq.symm (show fH1 q1 q2 = (1 : Int32) from by unfold fH1; rw [if_neg hc2])), N1, e1⟩) (by decide) (by decide)
def fH2 (q1 : Int64) (q2 : Int64) : Int32 := (if q1 = q2 then (1 : Int32) else (0 : Int32))
set_option maxRecDepth 65536 in
set_option maxHeartbeats 40000000 in
theorem rmH2 (l : Launch) (Z : State) (az : Array Value) (hw : ∀ d ∈ tables_1, d.before az Z = true) (ws : List Jvm.Cond) (a0 : Addr) (q1 : Int64) (q2 : Int64)  (h0 : Heap) (n0 : Nat) (Z0 : n0 ≤ h0.size) (F_ord : Fld Z h0 a0 "java/lang/Enum" "ordinal" "I" (.int (2 : Int32))) (E_a0 : Exa Z h0 a0 "com/example/patient_snoop/patientsnoop/model/Relation") :
    MetFree l (⟨"com/example/patient_snoop/patientsnoop/model/Relation", "holds", "(JJ)Z"⟩ : MethodName) (head1 (Jvm.Cond.code (⟨"com/example/patient_snoop/patientsnoop/model/Relation", "holds", "(JJ)Z"⟩ : MethodName) prog_26_method_6_code 5 (some .boolean) :: ws) ({ frames := 1, cells := 0, slots := 0, locals := 12 } : Room)) (fun a U => a = #[(.ref a0), (.long q1), (.long q2)] ∧ Z.Warmed39 U.vm ∧ U.heap = h0) (fun _ _ _ _ _ => True) (fun _ U o U' => ∃ v L, o = .returned v ∧ (PQ (.int (fH2 q1 q2)) n0 h0) v U'.heap L ∧ FrameEnd U o U' L ({ frames := 1, cells := 0, slots := 0, locals := 12 } : Room).cells ({ frames := 1, cells := 0, slots := 0, locals := 12 } : Room).slots) := by
  refine MetFree.of_bodySF (plainFor_of_name pn_1) hisR ?_
  intro p e s m args below meth c s₁ Bd hml0 hP hK
  obtain ⟨rfl, hZ, hh⟩ := hP
  have hx := Bd.exec
  have hby := Bd.bytes
  have hlk : meth.locks = false := Bd.notSynchronized
  have hml : c.maxLocals = 5 := hml0
  have hown : s.vm.findClass "com/example/patient_snoop/patientsnoop/model/Relation" = some m.cls := findClass_of_methodNamed Bd.named
  have hnm := (name_of_methodNamed Bd.named Bd.method).1
  have X0 : Stand p l e ({ frames := 1, cells := 0, slots := 0, locals := 12 } : Room) s m #[(.ref a0), (.long q1), (.long q2)] below meth c s₁ [] 0 0 := Stand.of_body Bd
  have e0 : s₁.heap = h0 := by rw [← hh, Bd.state]; rfl
  have N0 := Fr.nil n0
  show Go p e below s ((PQ (.int (fH2 q1 q2)) n0 h0)) ({ frames := 1, cells := 0, slots := 0, locals := 12 } : Room).cells ({ frames := 1, cells := 0, slots := 0, locals := 12 } : Room).slots (s₁.setTop (entryFrame m #[(.ref a0), (.long q1), (.long q2)] 5))
  rw [ef_1 m a0 q1 q2]
  refine Go.st (S' := s₁.setTop (mkF m 1 #[.val (.ref a0), .val (.long q1), .second, .val (.long q2), .second] [(.ref a0)])) (fun _ kk => XS.aloadN X0.here hx rfl (hb hby d1_0) rfl rfl kk) ?_
  obtain ⟨cq1, kq1, q1a, q1b, q1c⟩ := isOf hZ e0 E_a0
  obtain ⟨_, _, ⟨T1, L1, k1, n1⟩, -, X1, ⟨Lc1, hQ1, l1, y1, z1⟩, st1⟩ := X0.virtualBackUp hx (x := (⟨"com/example/patient_snoop/patientsnoop/model/Relation", "ordinal", "()I"⟩ : MethodName)) (y := (⟨"java/lang/Enum", "ordinal", "()I"⟩ : MethodName)) (owner := "java/lang/Enum") hown (mvT hZ (hw _ (List.mem_of_getElem? (i := 8) rfl))) (mvT hZ (hw _ (List.mem_of_getElem? (i := 9) rfl))) (mvT hZ (hw _ (List.mem_of_getElem? (i := 10) rfl))) (by decide) (mvT hZ (hw _ (List.mem_of_getElem? (i := 12) rfl))) (mvT hZ (hw _ (List.mem_of_getElem? (i := 11) rfl))) (backOf (W := 0) (rmO l Z az hw [] a0 (2 : Int32) h0 n0 Z0 F_ord) hZ (hw _ (List.mem_of_getElem? (i := 14) rfl)) (hw _ (List.mem_of_getElem? (i := 13) rfl)) (by decide) (by decide)) q1a q1c (g := (mkF m 1 #[.val (.ref a0), .val (.long q1), .second, .val (.long q2), .second] [(.ref a0)])) rfl (by rw [hml]; rfl) (Steps.refl _) (argsL := []) (rest := []) (lenOf pd_1 rfl) rfl (by show 2 * 0 + _ ≤ _; exact Nat.le_of_eq rfl) (hb hby d1_1) (fun _ _ => ⟨rfl, e0, (by decide : 0 + 0 ≤ _), (by decide : 0 + 0 ≤ _)⟩)
  dsimp only [Pt.U, Pt.locs, Pt.cells, Pt.slots] at X1 l1 y1 z1 st1 hQ1
  subst l1 y1 z1
  obtain ⟨hv1, N1q, e1⟩ := hQ1
  rw [show fO (2 : Int32) = (2 : Int32) from rfl] at hv1
  subst hv1
  have N1 := Fr.app N0 N1q
  refine Go.tr (S' := T1.setTop (mkF m 4 #[.val (.ref a0), .val (.long q1), .second, .val (.long q2), .second] [(.int (2 : Int32))])) st1 ?_
  refine Go.st (S' := T1.setTop (mkF m 70 #[.val (.ref a0), .val (.long q1), .second, .val (.long q2), .second] [])) (fun _ kk => XS.tswIn X1.here hx rfl (pc0 := 4) (pc' := 70) rfl (hb hby d1_4) rfl (by decide) rfl (by decide) (by decide) kk) ?_
  refine Go.st (S' := T1.setTop (mkF m 71 #[.val (.ref a0), .val (.long q1), .second, .val (.long q2), .second] [(.long q1)])) (fun _ kk => XS.lloadN X1.here hx rfl (hb hby d1_70) rfl kk) ?_
  refine Go.st (S' := T1.setTop (mkF m 72 #[.val (.ref a0), .val (.long q1), .second, .val (.long q2), .second] [(.long q2), (.long q1)])) (fun _ kk => XS.lloadN X1.here hx rfl (hb hby d1_71) rfl kk) ?_
  refine Go.st (S' := T1.setTop (mkF m 73 #[.val (.ref a0), .val (.long q1), .second, .val (.long q2), .second] [(.int (lcmpW q1 q2))])) (fun _ kk => XS.lcmp X1.here hx rfl (hb hby d1_72) rfl kk) ?_
  by_cases hc2 : q1 = q2
  · refine Go.st (S' := T1.setTop (mkF m 76 #[.val (.ref a0), .val (.long q1), .second, .val (.long q2), .second] [])) (fun _ kk => XS.ifNo X1.here hx rfl (hb hby d1_73) rfl ((if0 _ _).trans (teq ((lw_eq q1 q2).mpr hc2)).2) kk) ?_
    refine Go.st (S' := T1.setTop (mkF m 77 #[.val (.ref a0), .val (.long q1), .second, .val (.long q2), .second] [(.int (1 : Int32))])) (fun _ kk => XS.iconst X1.here hx rfl (hb hby d1_76) kk) ?_
    refine Go.st (S' := T1.setTop (mkF m 81 #[.val (.ref a0), .val (.long q1), .second, .val (.long q2), .second] [(.int (1 : Int32))])) (fun _ kk => XS.goto X1.here hx rfl (pc0 := 77) (pc' := 81) rfl (hb hby d1_77) (by decide) (by decide) kk) ?_
    exact Go.retN X1 hx hlk (t := .boolean) Bd.returns (by simp) (hb hby d1_81) (⟨congrArg (fun q => some (Value.int q)) (Eq.symm (show fH2 q1 q2 = (1 : Int32) from by unfold fH2; rw [if_pos hc2])), N1, e1⟩) (by decide) (by decide)
  · refine Go.st (S' := T1.setTop (mkF m 80 #[.val (.ref a0), .val (.long q1), .second, .val (.long q2), .second] [])) (fun _ kk => XS.ifYes X1.here hx rfl (pc0 := 73) (pc' := 80) rfl (hb hby d1_73) rfl ((if0 _ _).trans (feq (fun q => hc2 ((lw_eq q1 q2).mp q))).2) (by decide) (by decide) kk) ?_
    refine Go.st (S' := T1.setTop (mkF m 81 #[.val (.ref a0), .val (.long q1), .second, .val (.long q2), .second] [(.int (0 : Int32))])) (fun _ kk => XS.iconst X1.here hx rfl (hb hby d1_80) kk) ?_
    exact Go.retN X1 hx hlk (t := .boolean) Bd.returns (by simp) (hb hby d1_81) (⟨congrArg (fun q => some (Value.int q)) (Eq.symm (show fH2 q1 q2 = (0 : Int32) from by unfold fH2; rw [if_neg hc2])), N1, e1⟩) (by decide) (by decide)
def fMax (q0 : Int64) (q1 : Int64) : Int64 := (if q0 < q1 then q1 else q0)
theorem d3_0 : decode jdk_29_method_66_code 0 = .ok (.lload_n 0, 1) := by decide +kernel
theorem d3_1 : decode jdk_29_method_66_code 1 = .ok (.lload_n 2, 1) := by decide +kernel
theorem d3_2 : decode jdk_29_method_66_code 2 = .ok (.lcmp, 1) := by decide +kernel
theorem d3_3 : decode jdk_29_method_66_code 3 = .ok (.ifCond .lt 7, 3) := by decide +kernel
theorem d3_6 : decode jdk_29_method_66_code 6 = .ok (.lload_n 0, 1) := by decide +kernel
theorem d3_7 : decode jdk_29_method_66_code 7 = .ok (.goto 4, 3) := by decide +kernel
theorem d3_10 : decode jdk_29_method_66_code 10 = .ok (.lload_n 2, 1) := by decide +kernel
theorem d3_11 : decode jdk_29_method_66_code 11 = .ok (.lreturn, 1) := by decide +kernel
theorem pf_3 : plainFor (⟨"java/lang/Math", "max", "(JJ)J"⟩ : MethodName) = true := by decide +kernel
theorem ef_3 (m : MethodId) (q0 : Int64) (q1 : Int64) : entryFrame m #[(.long q0), (.long q1)] 4 = mkF m 0 #[.val (.long q0), .second, .val (.long q1), .second] [] := by first | (simp [entryFrame, mkF, argsToLocals, Value.category]; done) | rfl
set_option maxRecDepth 65536 in
set_option maxHeartbeats 40000000 in
theorem rmMax (l : Launch) (Z : State) (az : Array Value) (hw : ∀ d ∈ tables_1, d.before az Z = true) (ws : List Jvm.Cond) (q0 : Int64) (q1 : Int64)  (h0 : Heap) (n0 : Nat) (Z0 : n0 ≤ h0.size)  :
    MetFree l (⟨"java/lang/Math", "max", "(JJ)J"⟩ : MethodName) (head1 (Jvm.Cond.code (⟨"java/lang/Math", "max", "(JJ)J"⟩ : MethodName) jdk_29_method_66_code 4 (some .long) :: ws) ({ frames := 0, cells := 0, slots := 0, locals := 0 } : Room)) (fun a U => a = #[(.long q0), (.long q1)] ∧ Z.Warmed39 U.vm ∧ U.heap = h0) (fun _ _ _ _ _ => True) (fun _ U o U' => ∃ v L, o = .returned v ∧ (PQ (.long (fMax q0 q1)) n0 h0) v U'.heap L ∧ FrameEnd U o U' L ({ frames := 0, cells := 0, slots := 0, locals := 0 } : Room).cells ({ frames := 0, cells := 0, slots := 0, locals := 0 } : Room).slots) := by
  refine MetFree.of_bodySF pf_3 hisR ?_
  intro p e s m args below meth c s₁ Bd hml0 hP hK
  obtain ⟨rfl, hZ, hh⟩ := hP
  have hx := Bd.exec
  have hby := Bd.bytes
  have hlk : meth.locks = false := Bd.notSynchronized
  have hml : c.maxLocals = 4 := hml0
  have hown : s.vm.findClass "java/lang/Math" = some m.cls := findClass_of_methodNamed Bd.named
  have hnm := (name_of_methodNamed Bd.named Bd.method).1
  have X0 : Stand p l e ({ frames := 0, cells := 0, slots := 0, locals := 0 } : Room) s m #[(.long q0), (.long q1)] below meth c s₁ [] 0 0 := Stand.of_body Bd
  have e0 : s₁.heap = h0 := by rw [← hh, Bd.state]; rfl
  have N0 := Fr.nil n0
  show Go p e below s ((PQ (.long (fMax q0 q1)) n0 h0)) ({ frames := 0, cells := 0, slots := 0, locals := 0 } : Room).cells ({ frames := 0, cells := 0, slots := 0, locals := 0 } : Room).slots (s₁.setTop (entryFrame m #[(.long q0), (.long q1)] 4))
  rw [ef_3 m q0 q1]
  refine Go.st (S' := s₁.setTop (mkF m 1 #[.val (.long q0), .second, .val (.long q1), .second] [(.long q0)])) (fun _ kk => XS.lloadN X0.here hx rfl (hb hby d3_0) rfl kk) ?_
  refine Go.st (S' := s₁.setTop (mkF m 2 #[.val (.long q0), .second, .val (.long q1), .second] [(.long q1), (.long q0)])) (fun _ kk => XS.lloadN X0.here hx rfl (hb hby d3_1) rfl kk) ?_
  refine Go.st (S' := s₁.setTop (mkF m 3 #[.val (.long q0), .second, .val (.long q1), .second] [(.int (lcmpW q0 q1))])) (fun _ kk => XS.lcmp X0.here hx rfl (hb hby d3_2) rfl kk) ?_
  by_cases hc1 : q0 < q1
  · refine Go.st (S' := s₁.setTop (mkF m 10 #[.val (.long q0), .second, .val (.long q1), .second] [])) (fun _ kk => XS.ifYes X0.here hx rfl (pc0 := 3) (pc' := 10) rfl (hb hby d3_3) rfl ((if0 _ _).trans (tlt ((lw_lt q0 q1).mpr hc1)).1) (by decide) (by decide) kk) ?_
    refine Go.st (S' := s₁.setTop (mkF m 11 #[.val (.long q0), .second, .val (.long q1), .second] [(.long q1)])) (fun _ kk => XS.lloadN X0.here hx rfl (hb hby d3_10) rfl kk) ?_
    exact Go.retJ X0 hx hlk Bd.returns (hb hby d3_11) (⟨congrArg (fun q => some (Value.long q)) (Eq.symm (show fMax q0 q1 = q1 from by unfold fMax; rw [if_pos hc1])), N0, e0⟩) (by decide) (by decide)
  · refine Go.st (S' := s₁.setTop (mkF m 6 #[.val (.long q0), .second, .val (.long q1), .second] [])) (fun _ kk => XS.ifNo X0.here hx rfl (hb hby d3_3) rfl ((if0 _ _).trans (flt (fun q => hc1 ((lw_lt q0 q1).mp q))).1) kk) ?_
    refine Go.st (S' := s₁.setTop (mkF m 7 #[.val (.long q0), .second, .val (.long q1), .second] [(.long q0)])) (fun _ kk => XS.lloadN X0.here hx rfl (hb hby d3_6) rfl kk) ?_
    refine Go.st (S' := s₁.setTop (mkF m 11 #[.val (.long q0), .second, .val (.long q1), .second] [(.long q0)])) (fun _ kk => XS.goto X0.here hx rfl (pc0 := 7) (pc' := 11) rfl (hb hby d3_7) (by decide) (by decide) kk) ?_
    exact Go.retJ X0 hx hlk Bd.returns (hb hby d3_11) (⟨congrArg (fun q => some (Value.long q)) (Eq.symm (show fMax q0 q1 = q0 from by unfold fMax; rw [if_neg hc1])), N0, e0⟩) (by decide) (by decide)
def fMin (q0 : Int64) (q1 : Int64) : Int64 := (if q1 < q0 then q1 else q0)
theorem d4_0 : decode jdk_29_method_70_code 0 = .ok (.lload_n 0, 1) := by decide +kernel
theorem d4_1 : decode jdk_29_method_70_code 1 = .ok (.lload_n 2, 1) := by decide +kernel
theorem d4_2 : decode jdk_29_method_70_code 2 = .ok (.lcmp, 1) := by decide +kernel
theorem d4_3 : decode jdk_29_method_70_code 3 = .ok (.ifCond .gt 7, 3) := by decide +kernel
theorem d4_6 : decode jdk_29_method_70_code 6 = .ok (.lload_n 0, 1) := by decide +kernel
theorem d4_7 : decode jdk_29_method_70_code 7 = .ok (.goto 4, 3) := by decide +kernel
theorem d4_10 : decode jdk_29_method_70_code 10 = .ok (.lload_n 2, 1) := by decide +kernel
theorem d4_11 : decode jdk_29_method_70_code 11 = .ok (.lreturn, 1) := by decide +kernel
theorem pf_4 : plainFor (⟨"java/lang/Math", "min", "(JJ)J"⟩ : MethodName) = true := by decide +kernel
theorem ef_4 (m : MethodId) (q0 : Int64) (q1 : Int64) : entryFrame m #[(.long q0), (.long q1)] 4 = mkF m 0 #[.val (.long q0), .second, .val (.long q1), .second] [] := by first | (simp [entryFrame, mkF, argsToLocals, Value.category]; done) | rfl
set_option maxRecDepth 65536 in
set_option maxHeartbeats 40000000 in
theorem rmMin (l : Launch) (Z : State) (az : Array Value) (hw : ∀ d ∈ tables_1, d.before az Z = true) (ws : List Jvm.Cond) (q0 : Int64) (q1 : Int64)  (h0 : Heap) (n0 : Nat) (Z0 : n0 ≤ h0.size)  :
    MetFree l (⟨"java/lang/Math", "min", "(JJ)J"⟩ : MethodName) (head1 (Jvm.Cond.code (⟨"java/lang/Math", "min", "(JJ)J"⟩ : MethodName) jdk_29_method_70_code 4 (some .long) :: ws) ({ frames := 0, cells := 0, slots := 0, locals := 0 } : Room)) (fun a U => a = #[(.long q0), (.long q1)] ∧ Z.Warmed39 U.vm ∧ U.heap = h0) (fun _ _ _ _ _ => True) (fun _ U o U' => ∃ v L, o = .returned v ∧ (PQ (.long (fMin q0 q1)) n0 h0) v U'.heap L ∧ FrameEnd U o U' L ({ frames := 0, cells := 0, slots := 0, locals := 0 } : Room).cells ({ frames := 0, cells := 0, slots := 0, locals := 0 } : Room).slots) := by
  refine MetFree.of_bodySF pf_4 hisR ?_
  intro p e s m args below meth c s₁ Bd hml0 hP hK
  obtain ⟨rfl, hZ, hh⟩ := hP
  have hx := Bd.exec
  have hby := Bd.bytes
  have hlk : meth.locks = false := Bd.notSynchronized
  have hml : c.maxLocals = 4 := hml0
  have hown : s.vm.findClass "java/lang/Math" = some m.cls := findClass_of_methodNamed Bd.named
  have hnm := (name_of_methodNamed Bd.named Bd.method).1
  have X0 : Stand p l e ({ frames := 0, cells := 0, slots := 0, locals := 0 } : Room) s m #[(.long q0), (.long q1)] below meth c s₁ [] 0 0 := Stand.of_body Bd
  have e0 : s₁.heap = h0 := by rw [← hh, Bd.state]; rfl
  have N0 := Fr.nil n0
  show Go p e below s ((PQ (.long (fMin q0 q1)) n0 h0)) ({ frames := 0, cells := 0, slots := 0, locals := 0 } : Room).cells ({ frames := 0, cells := 0, slots := 0, locals := 0 } : Room).slots (s₁.setTop (entryFrame m #[(.long q0), (.long q1)] 4))
  rw [ef_4 m q0 q1]
  refine Go.st (S' := s₁.setTop (mkF m 1 #[.val (.long q0), .second, .val (.long q1), .second] [(.long q0)])) (fun _ kk => XS.lloadN X0.here hx rfl (hb hby d4_0) rfl kk) ?_
  refine Go.st (S' := s₁.setTop (mkF m 2 #[.val (.long q0), .second, .val (.long q1), .second] [(.long q1), (.long q0)])) (fun _ kk => XS.lloadN X0.here hx rfl (hb hby d4_1) rfl kk) ?_
  refine Go.st (S' := s₁.setTop (mkF m 3 #[.val (.long q0), .second, .val (.long q1), .second] [(.int (lcmpW q0 q1))])) (fun _ kk => XS.lcmp X0.here hx rfl (hb hby d4_2) rfl kk) ?_
  by_cases hc1 : q1 < q0
  · refine Go.st (S' := s₁.setTop (mkF m 10 #[.val (.long q0), .second, .val (.long q1), .second] [])) (fun _ kk => XS.ifYes X0.here hx rfl (pc0 := 3) (pc' := 10) rfl (hb hby d4_3) rfl ((if0 _ _).trans (tlt ((lw_gt q0 q1).mpr hc1)).2.2.1) (by decide) (by decide) kk) ?_
    refine Go.st (S' := s₁.setTop (mkF m 11 #[.val (.long q0), .second, .val (.long q1), .second] [(.long q1)])) (fun _ kk => XS.lloadN X0.here hx rfl (hb hby d4_10) rfl kk) ?_
    exact Go.retJ X0 hx hlk Bd.returns (hb hby d4_11) (⟨congrArg (fun q => some (Value.long q)) (Eq.symm (show fMin q0 q1 = q1 from by unfold fMin; rw [if_pos hc1])), N0, e0⟩) (by decide) (by decide)
  · refine Go.st (S' := s₁.setTop (mkF m 6 #[.val (.long q0), .second, .val (.long q1), .second] [])) (fun _ kk => XS.ifNo X0.here hx rfl (hb hby d4_3) rfl ((if0 _ _).trans (flt (fun q => hc1 ((lw_gt q0 q1).mp q))).2.2.1) kk) ?_
    refine Go.st (S' := s₁.setTop (mkF m 7 #[.val (.long q0), .second, .val (.long q1), .second] [(.long q0)])) (fun _ kk => XS.lloadN X0.here hx rfl (hb hby d4_6) rfl kk) ?_
    refine Go.st (S' := s₁.setTop (mkF m 11 #[.val (.long q0), .second, .val (.long q1), .second] [(.long q0)])) (fun _ kk => XS.goto X0.here hx rfl (pc0 := 7) (pc' := 11) rfl (hb hby d4_7) (by decide) (by decide) kk) ?_
    exact Go.retJ X0 hx hlk Bd.returns (hb hby d4_11) (⟨congrArg (fun q => some (Value.long q)) (Eq.symm (show fMin q0 q1 = q0 from by unfold fMin; rw [if_neg hc1])), N0, e0⟩) (by decide) (by decide)
theorem own_as {a b : Int64} (h : a < b) : ¬ b < a := by rw [Int64.lt_iff_toInt_lt] at h ⊢; omega
theorem own_ne {a b : Int64} (h : a < b) : ¬ a = b := fun e => by subst e; rw [Int64.lt_iff_toInt_lt] at h; omega
theorem own_ne' {a b : Int64} (h : a < b) : ¬ b = a := fun e => own_ne h e.symm
theorem own_eq {a b : Int64} (h : ¬ a < b) (h' : ¬ b < a) : a = b := by
  rw [Int64.lt_iff_toInt_lt] at h h'; exact Int64.toInt_inj.mp (by omega)
theorem pn_4 : plainName "com/example/patient_snoop/patientsnoop/model/RelationHoldsPinLaw" = true := by first | (simp [plainName, overriddenIn]; done) | decide +kernel
theorem ef_0 (m : MethodId) (q0 : Int64) (q1 : Int64) (p2 : Int32) : entryFrame m #[(.long q0), (.long q1), (.int p2)] maxLocals = mkF m 0 #[.val (.long q0), .second, .val (.long q1), .second, .val (.int p2), .unset, .unset, .unset, .unset, .unset, .unset, .unset, .unset, .unset, .unset, .unset, .unset, .unset] [] := by first | (simp [entryFrame, mkF, argsToLocals, Value.category, maxLocals]; done) | rfl
set_option maxRecDepth 65536 in
set_option maxHeartbeats 40000000 in
theorem rm0 (l : Launch) (Z : State) (az : Array Value) (hw : ∀ d ∈ tables_1, d.before az Z = true) (ws : List Jvm.Cond) (q0 : Int64) (q1 : Int64) (p2 : Int32) (s0 s1 s2 : Addr) (h0 : Heap) (n0 : Nat) (Z0 : n0 ≤ h0.size) (S_AT_LEAST : Sta Z h0 "com/example/patient_snoop/patientsnoop/model/Relation" "AT_LEAST" "Lcom/example/patient_snoop/patientsnoop/model/Relation;" (.ref s0)) (E_s0 : Exa Z h0 s0 "com/example/patient_snoop/patientsnoop/model/Relation") (F_s0 : Fld Z h0 s0 "java/lang/Enum" "ordinal" "I" (.int (0 : Int32))) (S_AT_MOST : Sta Z h0 "com/example/patient_snoop/patientsnoop/model/Relation" "AT_MOST" "Lcom/example/patient_snoop/patientsnoop/model/Relation;" (.ref s1)) (E_s1 : Exa Z h0 s1 "com/example/patient_snoop/patientsnoop/model/Relation") (F_s1 : Fld Z h0 s1 "java/lang/Enum" "ordinal" "I" (.int (1 : Int32))) (S_EQUAL : Sta Z h0 "com/example/patient_snoop/patientsnoop/model/Relation" "EQUAL" "Lcom/example/patient_snoop/patientsnoop/model/Relation;" (.ref s2)) (E_s2 : Exa Z h0 s2 "com/example/patient_snoop/patientsnoop/model/Relation") (F_s2 : Fld Z h0 s2 "java/lang/Enum" "ordinal" "I" (.int (2 : Int32))) :
    MetFree l x (head1 (Jvm.Cond.code x code maxLocals ret :: ws) room_1) (fun a U => a = #[(.long q0), (.long q1), (.int p2)] ∧ Z.Warmed39 U.vm ∧ U.heap = h0) (fun _ _ _ _ _ => True) (fun _ U o U' => ∃ v L, o = .returned v ∧ (LQ n0) v U'.heap L ∧ FrameEnd U o U' L room_1.cells room_1.slots) := by
  refine MetFree.of_bodySF (plainFor_of_name pn_4) hisR ?_
  intro p e s m args below meth c s₁ Bd hml0 hP hK
  obtain ⟨rfl, hZ, hh⟩ := hP
  have hx := Bd.exec
  have hby := Bd.bytes
  have hlk : meth.locks = false := Bd.notSynchronized
  have hml : c.maxLocals = 18 := hml0
  have hown : s.vm.findClass "com/example/patient_snoop/patientsnoop/model/RelationHoldsPinLaw" = some m.cls := findClass_of_methodNamed Bd.named
  have hnm := (name_of_methodNamed Bd.named Bd.method).1
  have X0 : Stand p l e room_1 s m #[(.long q0), (.long q1), (.int p2)] below meth c s₁ [] 0 0 := Stand.of_body Bd
  have e0 : s₁.heap = h0 := by rw [← hh, Bd.state]; rfl
  have N0 := Fr.nil n0
  show Go p e below s ((LQ n0)) room_1.cells room_1.slots (s₁.setTop (entryFrame m #[(.long q0), (.long q1), (.int p2)] maxLocals))
  rw [ef_0 m q0 q1 p2]
  obtain ⟨b, hj_b⟩ : ∃ z : Int64, z = (if (p2 &&& (3 : Int32)) = (1 : Int32) then q0 else (if (p2 &&& (3 : Int32)) = (2 : Int32) then (q0 + (1 : Int64)) else (if (p2 &&& (3 : Int32)) = (3 : Int32) then (q0 - (1 : Int64)) else q1))) := ⟨_, rfl⟩
  have stj1 : ∀ tq, Steps p.tables e below (s₁.setTop (mkF m 49 #[.val (.long q0), .second, .val (.long q1), .second, .val (.int p2), .val (.int (p2 &&& (3 : Int32))), .val (.long b), .second, .unset, .unset, .unset, .unset, .unset, .unset, .unset, .unset, .unset, .unset] [])) tq → Steps p.tables e below (s₁.setTop (mkF m 0 #[.val (.long q0), .second, .val (.long q1), .second, .val (.int p2), .unset, .unset, .unset, .unset, .unset, .unset, .unset, .unset, .unset, .unset, .unset, .unset, .unset] [])) tq := by
    intro tq kj
    refine via (S' := s₁.setTop (mkF m 2 #[.val (.long q0), .second, .val (.long q1), .second, .val (.int p2), .unset, .unset, .unset, .unset, .unset, .unset, .unset, .unset, .unset, .unset, .unset, .unset, .unset] [(.int p2)])) (fun kk => XS.iload X0.here hx rfl (hb hby at_0) rfl kk) ?_
    refine via (S' := s₁.setTop (mkF m 3 #[.val (.long q0), .second, .val (.long q1), .second, .val (.int p2), .unset, .unset, .unset, .unset, .unset, .unset, .unset, .unset, .unset, .unset, .unset, .unset, .unset] [(.int (3 : Int32)), (.int p2)])) (fun kk => XS.iconst X0.here hx rfl (hb hby at_2) kk) ?_
    refine via (S' := s₁.setTop (mkF m 4 #[.val (.long q0), .second, .val (.long q1), .second, .val (.int p2), .unset, .unset, .unset, .unset, .unset, .unset, .unset, .unset, .unset, .unset, .unset, .unset, .unset] [(.int (p2 &&& (3 : Int32)))])) (fun kk => XS.iand X0.here hx rfl (hb hby at_3) rfl kk) ?_
    refine via (S' := s₁.setTop (mkF m 6 #[.val (.long q0), .second, .val (.long q1), .second, .val (.int p2), .val (.int (p2 &&& (3 : Int32))), .unset, .unset, .unset, .unset, .unset, .unset, .unset, .unset, .unset, .unset, .unset, .unset] [])) (fun kk => XS.istore X0.here hx rfl (hb hby at_4) rfl (l' := #[.val (.long q0), .second, .val (.long q1), .second, .val (.int p2), .val (.int (p2 &&& (3 : Int32))), .unset, .unset, .unset, .unset, .unset, .unset, .unset, .unset, .unset, .unset, .unset, .unset]) rfl kk) ?_
    refine via (S' := s₁.setTop (mkF m 8 #[.val (.long q0), .second, .val (.long q1), .second, .val (.int p2), .val (.int (p2 &&& (3 : Int32))), .unset, .unset, .unset, .unset, .unset, .unset, .unset, .unset, .unset, .unset, .unset, .unset] [(.int (p2 &&& (3 : Int32)))])) (fun kk => XS.iload X0.here hx rfl (hb hby at_6) rfl kk) ?_
    refine via (S' := s₁.setTop (mkF m 9 #[.val (.long q0), .second, .val (.long q1), .second, .val (.int p2), .val (.int (p2 &&& (3 : Int32))), .unset, .unset, .unset, .unset, .unset, .unset, .unset, .unset, .unset, .unset, .unset, .unset] [(.int (1 : Int32)), (.int (p2 &&& (3 : Int32)))])) (fun kk => XS.iconst X0.here hx rfl (hb hby at_8) kk) ?_
    by_cases hc2 : (p2 &&& (3 : Int32)) = (1 : Int32)
    · refine via (S' := s₁.setTop (mkF m 12 #[.val (.long q0), .second, .val (.long q1), .second, .val (.int p2), .val (.int (p2 &&& (3 : Int32))), .unset, .unset, .unset, .unset, .unset, .unset, .unset, .unset, .unset, .unset, .unset, .unset] [])) (fun kk => XS.icmpNo X0.here hx rfl (hb hby at_9) rfl (teq hc2).2 kk) ?_
      refine via (S' := s₁.setTop (mkF m 13 #[.val (.long q0), .second, .val (.long q1), .second, .val (.int p2), .val (.int (p2 &&& (3 : Int32))), .unset, .unset, .unset, .unset, .unset, .unset, .unset, .unset, .unset, .unset, .unset, .unset] [(.long q0)])) (fun kk => XS.lloadN X0.here hx rfl (hb hby at_12) rfl kk) ?_
      refine via (S' := s₁.setTop (mkF m 15 #[.val (.long q0), .second, .val (.long q1), .second, .val (.int p2), .val (.int (p2 &&& (3 : Int32))), .val (.long q0), .second, .unset, .unset, .unset, .unset, .unset, .unset, .unset, .unset, .unset, .unset] [])) (fun kk => XS.lstore X0.here hx rfl (hb hby at_13) rfl (l' := #[.val (.long q0), .second, .val (.long q1), .second, .val (.int p2), .val (.int (p2 &&& (3 : Int32))), .val (.long q0), .second, .unset, .unset, .unset, .unset, .unset, .unset, .unset, .unset, .unset, .unset]) rfl kk) ?_
      refine via (S' := s₁.setTop (mkF m 49 #[.val (.long q0), .second, .val (.long q1), .second, .val (.int p2), .val (.int (p2 &&& (3 : Int32))), .val (.long q0), .second, .unset, .unset, .unset, .unset, .unset, .unset, .unset, .unset, .unset, .unset] [])) (fun kk => XS.goto X0.here hx rfl (pc0 := 15) (pc' := 49) rfl (hb hby at_15) (by decide) (by decide) kk) ?_
      have qj_b : b = q0 := hj_b.trans (by rw [if_pos hc2])
      rw [qj_b] at kj
      exact kj
    · refine via (S' := s₁.setTop (mkF m 18 #[.val (.long q0), .second, .val (.long q1), .second, .val (.int p2), .val (.int (p2 &&& (3 : Int32))), .unset, .unset, .unset, .unset, .unset, .unset, .unset, .unset, .unset, .unset, .unset, .unset] [])) (fun kk => XS.icmpYes X0.here hx rfl (pc0 := 9) (pc' := 18) rfl (hb hby at_9) rfl (feq hc2).2 (by decide) (by decide) kk) ?_
      refine via (S' := s₁.setTop (mkF m 20 #[.val (.long q0), .second, .val (.long q1), .second, .val (.int p2), .val (.int (p2 &&& (3 : Int32))), .unset, .unset, .unset, .unset, .unset, .unset, .unset, .unset, .unset, .unset, .unset, .unset] [(.int (p2 &&& (3 : Int32)))])) (fun kk => XS.iload X0.here hx rfl (hb hby at_18) rfl kk) ?_
      refine via (S' := s₁.setTop (mkF m 21 #[.val (.long q0), .second, .val (.long q1), .second, .val (.int p2), .val (.int (p2 &&& (3 : Int32))), .unset, .unset, .unset, .unset, .unset, .unset, .unset, .unset, .unset, .unset, .unset, .unset] [(.int (2 : Int32)), (.int (p2 &&& (3 : Int32)))])) (fun kk => XS.iconst X0.here hx rfl (hb hby at_20) kk) ?_
      by_cases hc3 : (p2 &&& (3 : Int32)) = (2 : Int32)
      · refine via (S' := s₁.setTop (mkF m 24 #[.val (.long q0), .second, .val (.long q1), .second, .val (.int p2), .val (.int (p2 &&& (3 : Int32))), .unset, .unset, .unset, .unset, .unset, .unset, .unset, .unset, .unset, .unset, .unset, .unset] [])) (fun kk => XS.icmpNo X0.here hx rfl (hb hby at_21) rfl (teq hc3).2 kk) ?_
        refine via (S' := s₁.setTop (mkF m 25 #[.val (.long q0), .second, .val (.long q1), .second, .val (.int p2), .val (.int (p2 &&& (3 : Int32))), .unset, .unset, .unset, .unset, .unset, .unset, .unset, .unset, .unset, .unset, .unset, .unset] [(.long q0)])) (fun kk => XS.lloadN X0.here hx rfl (hb hby at_24) rfl kk) ?_
        refine via (S' := s₁.setTop (mkF m 26 #[.val (.long q0), .second, .val (.long q1), .second, .val (.int p2), .val (.int (p2 &&& (3 : Int32))), .unset, .unset, .unset, .unset, .unset, .unset, .unset, .unset, .unset, .unset, .unset, .unset] [(.long (1 : Int64)), (.long q0)])) (fun kk => XS.lconst X0.here hx rfl (hb hby at_25) kk) ?_
        refine via (S' := s₁.setTop (mkF m 27 #[.val (.long q0), .second, .val (.long q1), .second, .val (.int p2), .val (.int (p2 &&& (3 : Int32))), .unset, .unset, .unset, .unset, .unset, .unset, .unset, .unset, .unset, .unset, .unset, .unset] [(.long (q0 + (1 : Int64)))])) (fun kk => XS.ladd X0.here hx rfl (hb hby at_26) rfl kk) ?_
        refine via (S' := s₁.setTop (mkF m 29 #[.val (.long q0), .second, .val (.long q1), .second, .val (.int p2), .val (.int (p2 &&& (3 : Int32))), .val (.long (q0 + (1 : Int64))), .second, .unset, .unset, .unset, .unset, .unset, .unset, .unset, .unset, .unset, .unset] [])) (fun kk => XS.lstore X0.here hx rfl (hb hby at_27) rfl (l' := #[.val (.long q0), .second, .val (.long q1), .second, .val (.int p2), .val (.int (p2 &&& (3 : Int32))), .val (.long (q0 + (1 : Int64))), .second, .unset, .unset, .unset, .unset, .unset, .unset, .unset, .unset, .unset, .unset]) rfl kk) ?_
        refine via (S' := s₁.setTop (mkF m 49 #[.val (.long q0), .second, .val (.long q1), .second, .val (.int p2), .val (.int (p2 &&& (3 : Int32))), .val (.long (q0 + (1 : Int64))), .second, .unset, .unset, .unset, .unset, .unset, .unset, .unset, .unset, .unset, .unset] [])) (fun kk => XS.goto X0.here hx rfl (pc0 := 29) (pc' := 49) rfl (hb hby at_29) (by decide) (by decide) kk) ?_
        have qj_b : b = (q0 + (1 : Int64)) := hj_b.trans (by rw [if_neg hc2, if_pos hc3])
        rw [qj_b] at kj
        exact kj
      · refine via (S' := s₁.setTop (mkF m 32 #[.val (.long q0), .second, .val (.long q1), .second, .val (.int p2), .val (.int (p2 &&& (3 : Int32))), .unset, .unset, .unset, .unset, .unset, .unset, .unset, .unset, .unset, .unset, .unset, .unset] [])) (fun kk => XS.icmpYes X0.here hx rfl (pc0 := 21) (pc' := 32) rfl (hb hby at_21) rfl (feq hc3).2 (by decide) (by decide) kk) ?_
        refine via (S' := s₁.setTop (mkF m 34 #[.val (.long q0), .second, .val (.long q1), .second, .val (.int p2), .val (.int (p2 &&& (3 : Int32))), .unset, .unset, .unset, .unset, .unset, .unset, .unset, .unset, .unset, .unset, .unset, .unset] [(.int (p2 &&& (3 : Int32)))])) (fun kk => XS.iload X0.here hx rfl (hb hby at_32) rfl kk) ?_
        refine via (S' := s₁.setTop (mkF m 35 #[.val (.long q0), .second, .val (.long q1), .second, .val (.int p2), .val (.int (p2 &&& (3 : Int32))), .unset, .unset, .unset, .unset, .unset, .unset, .unset, .unset, .unset, .unset, .unset, .unset] [(.int (3 : Int32)), (.int (p2 &&& (3 : Int32)))])) (fun kk => XS.iconst X0.here hx rfl (hb hby at_34) kk) ?_
        by_cases hc4 : (p2 &&& (3 : Int32)) = (3 : Int32)
        · refine via (S' := s₁.setTop (mkF m 38 #[.val (.long q0), .second, .val (.long q1), .second, .val (.int p2), .val (.int (p2 &&& (3 : Int32))), .unset, .unset, .unset, .unset, .unset, .unset, .unset, .unset, .unset, .unset, .unset, .unset] [])) (fun kk => XS.icmpNo X0.here hx rfl (hb hby at_35) rfl (teq hc4).2 kk) ?_
          refine via (S' := s₁.setTop (mkF m 39 #[.val (.long q0), .second, .val (.long q1), .second, .val (.int p2), .val (.int (p2 &&& (3 : Int32))), .unset, .unset, .unset, .unset, .unset, .unset, .unset, .unset, .unset, .unset, .unset, .unset] [(.long q0)])) (fun kk => XS.lloadN X0.here hx rfl (hb hby at_38) rfl kk) ?_
          refine via (S' := s₁.setTop (mkF m 40 #[.val (.long q0), .second, .val (.long q1), .second, .val (.int p2), .val (.int (p2 &&& (3 : Int32))), .unset, .unset, .unset, .unset, .unset, .unset, .unset, .unset, .unset, .unset, .unset, .unset] [(.long (1 : Int64)), (.long q0)])) (fun kk => XS.lconst X0.here hx rfl (hb hby at_39) kk) ?_
          refine via (S' := s₁.setTop (mkF m 41 #[.val (.long q0), .second, .val (.long q1), .second, .val (.int p2), .val (.int (p2 &&& (3 : Int32))), .unset, .unset, .unset, .unset, .unset, .unset, .unset, .unset, .unset, .unset, .unset, .unset] [(.long (q0 - (1 : Int64)))])) (fun kk => XS.lsub X0.here hx rfl (hb hby at_40) rfl kk) ?_
          refine via (S' := s₁.setTop (mkF m 43 #[.val (.long q0), .second, .val (.long q1), .second, .val (.int p2), .val (.int (p2 &&& (3 : Int32))), .val (.long (q0 - (1 : Int64))), .second, .unset, .unset, .unset, .unset, .unset, .unset, .unset, .unset, .unset, .unset] [])) (fun kk => XS.lstore X0.here hx rfl (hb hby at_41) rfl (l' := #[.val (.long q0), .second, .val (.long q1), .second, .val (.int p2), .val (.int (p2 &&& (3 : Int32))), .val (.long (q0 - (1 : Int64))), .second, .unset, .unset, .unset, .unset, .unset, .unset, .unset, .unset, .unset, .unset]) rfl kk) ?_
          refine via (S' := s₁.setTop (mkF m 49 #[.val (.long q0), .second, .val (.long q1), .second, .val (.int p2), .val (.int (p2 &&& (3 : Int32))), .val (.long (q0 - (1 : Int64))), .second, .unset, .unset, .unset, .unset, .unset, .unset, .unset, .unset, .unset, .unset] [])) (fun kk => XS.goto X0.here hx rfl (pc0 := 43) (pc' := 49) rfl (hb hby at_43) (by decide) (by decide) kk) ?_
          have qj_b : b = (q0 - (1 : Int64)) := hj_b.trans (by rw [if_neg hc2, if_neg hc3, if_pos hc4])
          rw [qj_b] at kj
          exact kj
        · refine via (S' := s₁.setTop (mkF m 46 #[.val (.long q0), .second, .val (.long q1), .second, .val (.int p2), .val (.int (p2 &&& (3 : Int32))), .unset, .unset, .unset, .unset, .unset, .unset, .unset, .unset, .unset, .unset, .unset, .unset] [])) (fun kk => XS.icmpYes X0.here hx rfl (pc0 := 35) (pc' := 46) rfl (hb hby at_35) rfl (feq hc4).2 (by decide) (by decide) kk) ?_
          refine via (S' := s₁.setTop (mkF m 47 #[.val (.long q0), .second, .val (.long q1), .second, .val (.int p2), .val (.int (p2 &&& (3 : Int32))), .unset, .unset, .unset, .unset, .unset, .unset, .unset, .unset, .unset, .unset, .unset, .unset] [(.long q1)])) (fun kk => XS.lloadN X0.here hx rfl (hb hby at_46) rfl kk) ?_
          refine via (S' := s₁.setTop (mkF m 49 #[.val (.long q0), .second, .val (.long q1), .second, .val (.int p2), .val (.int (p2 &&& (3 : Int32))), .val (.long q1), .second, .unset, .unset, .unset, .unset, .unset, .unset, .unset, .unset, .unset, .unset] [])) (fun kk => XS.lstore X0.here hx rfl (hb hby at_47) rfl (l' := #[.val (.long q0), .second, .val (.long q1), .second, .val (.int p2), .val (.int (p2 &&& (3 : Int32))), .val (.long q1), .second, .unset, .unset, .unset, .unset, .unset, .unset, .unset, .unset, .unset, .unset]) rfl kk) ?_
          have qj_b : b = q1 := hj_b.trans (by rw [if_neg hc2, if_neg hc3, if_neg hc4])
          rw [qj_b] at kj
          exact kj
  refine Go.st (S' := s₁.setTop (mkF m 49 #[.val (.long q0), .second, .val (.long q1), .second, .val (.int p2), .val (.int (p2 &&& (3 : Int32))), .val (.long b), .second, .unset, .unset, .unset, .unset, .unset, .unset, .unset, .unset, .unset, .unset] [])) stj1 ?_
  by_cases hc5 : q0 < b
  · obtain ⟨T6, X6, e6, st6⟩ := getS2 X0 hx hZ hown (host := "") (Or.inl (hw _ (List.mem_of_getElem? (i := 0) rfl))) Via.refl e0 S_AT_LEAST (g := (mkF m 49 #[.val (.long q0), .second, .val (.long q1), .second, .val (.int p2), .val (.int (p2 &&& (3 : Int32))), .val (.long b), .second, .unset, .unset, .unset, .unset, .unset, .unset, .unset, .unset, .unset, .unset] [])) rfl (hb hby at_49)
    refine Go.st (S' := T6.setTop (mkF m 52 #[.val (.long q0), .second, .val (.long q1), .second, .val (.int p2), .val (.int (p2 &&& (3 : Int32))), .val (.long b), .second, .unset, .unset, .unset, .unset, .unset, .unset, .unset, .unset, .unset, .unset] [(.ref s0)])) st6 ?_
    refine Go.st (S' := T6.setTop (mkF m 53 #[.val (.long q0), .second, .val (.long q1), .second, .val (.int p2), .val (.int (p2 &&& (3 : Int32))), .val (.long b), .second, .unset, .unset, .unset, .unset, .unset, .unset, .unset, .unset, .unset, .unset] [(.long q0), (.ref s0)])) (fun _ kk => XS.lloadN X6.here hx rfl (hb hby at_52) rfl kk) ?_
    refine Go.st (S' := T6.setTop (mkF m 55 #[.val (.long q0), .second, .val (.long q1), .second, .val (.int p2), .val (.int (p2 &&& (3 : Int32))), .val (.long b), .second, .unset, .unset, .unset, .unset, .unset, .unset, .unset, .unset, .unset, .unset] [(.long b), (.long q0), (.ref s0)])) (fun _ kk => XS.lload X6.here hx rfl (hb hby at_53) rfl kk) ?_
    obtain ⟨cq7, kq7, q7a, q7b, q7c⟩ := isOf hZ e6 E_s0
    obtain ⟨_, _, ⟨T7, L7, k7, n7⟩, -, X7, ⟨Lc7, hQ7, l7, y7, z7⟩, st7⟩ := X6.virtualBack hx (y := (⟨"com/example/patient_snoop/patientsnoop/model/Relation", "holds", "(JJ)Z"⟩ : MethodName)) (z := (⟨"com/example/patient_snoop/patientsnoop/model/Relation", "holds", "(JJ)Z"⟩ : MethodName)) hown (mvT hZ (hw _ (List.mem_of_getElem? (i := 3) rfl))) (mvT hZ (hw _ (List.mem_of_getElem? (i := 4) rfl))) (notFace_of_selects (args := #[]) (mvT hZ (hw _ (List.mem_of_getElem? (i := 6) rfl)))) (mvT hZ (hw _ (List.mem_of_getElem? (i := 6) rfl))) (mvT hZ (hw _ (List.mem_of_getElem? (i := 5) rfl))) (by decide) (backOf (W := 0) (rmH0 l Z az hw [] s0 q0 b  h0 n0 Z0 F_s0 E_s0) hZ (hw _ (List.mem_of_getElem? (i := 7) rfl)) (hw _ (List.mem_of_getElem? (i := 1) rfl)) (by decide) (by decide)) q7a q7c (g := (mkF m 55 #[.val (.long q0), .second, .val (.long q1), .second, .val (.int p2), .val (.int (p2 &&& (3 : Int32))), .val (.long b), .second, .unset, .unset, .unset, .unset, .unset, .unset, .unset, .unset, .unset, .unset] [(.long b), (.long q0), (.ref s0)])) rfl (by rw [hml]; rfl) (Steps.refl _) (argsL := [(.long q0), (.long b)]) (rest := []) (lenOf pd_0 rfl) rfl (by show 2 * 0 + _ ≤ _; exact Nat.le_of_eq rfl) (hb hby at_55) (fun _ _ => ⟨rfl, e6, (by decide : 0 + 0 ≤ _), (by decide : 0 + 0 ≤ _)⟩)
    dsimp only [Pt.U, Pt.locs, Pt.cells, Pt.slots] at X7 l7 y7 z7 st7 hQ7
    subst l7 y7 z7
    obtain ⟨hv7, N7q, e7⟩ := hQ7
    rw [show fH0 q0 b = (0 : Int32) from by unfold fH0; rw [if_pos hc5]] at hv7
    subst hv7
    have N7 := Fr.app N0 N7q
    refine Go.tr (S' := T7.setTop (mkF m 58 #[.val (.long q0), .second, .val (.long q1), .second, .val (.int p2), .val (.int (p2 &&& (3 : Int32))), .val (.long b), .second, .unset, .unset, .unset, .unset, .unset, .unset, .unset, .unset, .unset, .unset] [(.int (0 : Int32))])) st7 ?_
    refine Go.st (S' := T7.setTop (mkF m 60 #[.val (.long q0), .second, .val (.long q1), .second, .val (.int p2), .val (.int (p2 &&& (3 : Int32))), .val (.long b), .second, .val (.int (0 : Int32)), .unset, .unset, .unset, .unset, .unset, .unset, .unset, .unset, .unset] [])) (fun _ kk => XS.istore X7.here hx rfl (hb hby at_58) rfl (l' := #[.val (.long q0), .second, .val (.long q1), .second, .val (.int p2), .val (.int (p2 &&& (3 : Int32))), .val (.long b), .second, .val (.int (0 : Int32)), .unset, .unset, .unset, .unset, .unset, .unset, .unset, .unset, .unset]) rfl kk) ?_
    obtain ⟨T8, X8, e8, st8⟩ := getS2 X7 hx hZ hown (host := "") (Or.inl (hw _ (List.mem_of_getElem? (i := 17) rfl))) Via.refl e7 S_AT_MOST (g := (mkF m 60 #[.val (.long q0), .second, .val (.long q1), .second, .val (.int p2), .val (.int (p2 &&& (3 : Int32))), .val (.long b), .second, .val (.int (0 : Int32)), .unset, .unset, .unset, .unset, .unset, .unset, .unset, .unset, .unset] [])) rfl (hb hby at_60)
    refine Go.st (S' := T8.setTop (mkF m 63 #[.val (.long q0), .second, .val (.long q1), .second, .val (.int p2), .val (.int (p2 &&& (3 : Int32))), .val (.long b), .second, .val (.int (0 : Int32)), .unset, .unset, .unset, .unset, .unset, .unset, .unset, .unset, .unset] [(.ref s1)])) st8 ?_
    refine Go.st (S' := T8.setTop (mkF m 64 #[.val (.long q0), .second, .val (.long q1), .second, .val (.int p2), .val (.int (p2 &&& (3 : Int32))), .val (.long b), .second, .val (.int (0 : Int32)), .unset, .unset, .unset, .unset, .unset, .unset, .unset, .unset, .unset] [(.long q0), (.ref s1)])) (fun _ kk => XS.lloadN X8.here hx rfl (hb hby at_63) rfl kk) ?_
    refine Go.st (S' := T8.setTop (mkF m 66 #[.val (.long q0), .second, .val (.long q1), .second, .val (.int p2), .val (.int (p2 &&& (3 : Int32))), .val (.long b), .second, .val (.int (0 : Int32)), .unset, .unset, .unset, .unset, .unset, .unset, .unset, .unset, .unset] [(.long b), (.long q0), (.ref s1)])) (fun _ kk => XS.lload X8.here hx rfl (hb hby at_64) rfl kk) ?_
    obtain ⟨cq9, kq9, q9a, q9b, q9c⟩ := isOf hZ e8 E_s1
    obtain ⟨_, _, ⟨T9, L9, k9, n9⟩, -, X9, ⟨Lc9, hQ9, l9, y9, z9⟩, st9⟩ := X8.virtualBack hx (y := (⟨"com/example/patient_snoop/patientsnoop/model/Relation", "holds", "(JJ)Z"⟩ : MethodName)) (z := (⟨"com/example/patient_snoop/patientsnoop/model/Relation", "holds", "(JJ)Z"⟩ : MethodName)) hown (mvT hZ (hw _ (List.mem_of_getElem? (i := 3) rfl))) (mvT hZ (hw _ (List.mem_of_getElem? (i := 4) rfl))) (notFace_of_selects (args := #[]) (mvT hZ (hw _ (List.mem_of_getElem? (i := 6) rfl)))) (mvT hZ (hw _ (List.mem_of_getElem? (i := 6) rfl))) (mvT hZ (hw _ (List.mem_of_getElem? (i := 5) rfl))) (by decide) (backOf (W := 0) (rmH1 l Z az hw [] s1 q0 b  h0 n0 Z0 F_s1 E_s1) hZ (hw _ (List.mem_of_getElem? (i := 7) rfl)) (hw _ (List.mem_of_getElem? (i := 1) rfl)) (by decide) (by decide)) q9a q9c (g := (mkF m 66 #[.val (.long q0), .second, .val (.long q1), .second, .val (.int p2), .val (.int (p2 &&& (3 : Int32))), .val (.long b), .second, .val (.int (0 : Int32)), .unset, .unset, .unset, .unset, .unset, .unset, .unset, .unset, .unset] [(.long b), (.long q0), (.ref s1)])) rfl (by rw [hml]; rfl) (Steps.refl _) (argsL := [(.long q0), (.long b)]) (rest := []) (lenOf pd_0 rfl) rfl (by show 2 * 0 + _ ≤ _; exact Nat.le_of_eq rfl) (hb hby at_66) (fun _ _ => ⟨rfl, e8, (by decide : 0 + 0 ≤ _), (by decide : 0 + 0 ≤ _)⟩)
    dsimp only [Pt.U, Pt.locs, Pt.cells, Pt.slots] at X9 l9 y9 z9 st9 hQ9
    subst l9 y9 z9
    obtain ⟨hv9, N9q, e9⟩ := hQ9
    rw [show fH1 q0 b = (1 : Int32) from by unfold fH1; rw [if_neg (own_as hc5)]] at hv9
    subst hv9
    have N9 := Fr.app N7 N9q
    refine Go.tr (S' := T9.setTop (mkF m 69 #[.val (.long q0), .second, .val (.long q1), .second, .val (.int p2), .val (.int (p2 &&& (3 : Int32))), .val (.long b), .second, .val (.int (0 : Int32)), .unset, .unset, .unset, .unset, .unset, .unset, .unset, .unset, .unset] [(.int (1 : Int32))])) st9 ?_
    refine Go.st (S' := T9.setTop (mkF m 71 #[.val (.long q0), .second, .val (.long q1), .second, .val (.int p2), .val (.int (p2 &&& (3 : Int32))), .val (.long b), .second, .val (.int (0 : Int32)), .val (.int (1 : Int32)), .unset, .unset, .unset, .unset, .unset, .unset, .unset, .unset] [])) (fun _ kk => XS.istore X9.here hx rfl (hb hby at_69) rfl (l' := #[.val (.long q0), .second, .val (.long q1), .second, .val (.int p2), .val (.int (p2 &&& (3 : Int32))), .val (.long b), .second, .val (.int (0 : Int32)), .val (.int (1 : Int32)), .unset, .unset, .unset, .unset, .unset, .unset, .unset, .unset]) rfl kk) ?_
    obtain ⟨T10, X10, e10, st10⟩ := getS2 X9 hx hZ hown (host := "") (Or.inl (hw _ (List.mem_of_getElem? (i := 19) rfl))) Via.refl e9 S_EQUAL (g := (mkF m 71 #[.val (.long q0), .second, .val (.long q1), .second, .val (.int p2), .val (.int (p2 &&& (3 : Int32))), .val (.long b), .second, .val (.int (0 : Int32)), .val (.int (1 : Int32)), .unset, .unset, .unset, .unset, .unset, .unset, .unset, .unset] [])) rfl (hb hby at_71)
    refine Go.st (S' := T10.setTop (mkF m 74 #[.val (.long q0), .second, .val (.long q1), .second, .val (.int p2), .val (.int (p2 &&& (3 : Int32))), .val (.long b), .second, .val (.int (0 : Int32)), .val (.int (1 : Int32)), .unset, .unset, .unset, .unset, .unset, .unset, .unset, .unset] [(.ref s2)])) st10 ?_
    refine Go.st (S' := T10.setTop (mkF m 75 #[.val (.long q0), .second, .val (.long q1), .second, .val (.int p2), .val (.int (p2 &&& (3 : Int32))), .val (.long b), .second, .val (.int (0 : Int32)), .val (.int (1 : Int32)), .unset, .unset, .unset, .unset, .unset, .unset, .unset, .unset] [(.long q0), (.ref s2)])) (fun _ kk => XS.lloadN X10.here hx rfl (hb hby at_74) rfl kk) ?_
    refine Go.st (S' := T10.setTop (mkF m 77 #[.val (.long q0), .second, .val (.long q1), .second, .val (.int p2), .val (.int (p2 &&& (3 : Int32))), .val (.long b), .second, .val (.int (0 : Int32)), .val (.int (1 : Int32)), .unset, .unset, .unset, .unset, .unset, .unset, .unset, .unset] [(.long b), (.long q0), (.ref s2)])) (fun _ kk => XS.lload X10.here hx rfl (hb hby at_75) rfl kk) ?_
    obtain ⟨cq11, kq11, q11a, q11b, q11c⟩ := isOf hZ e10 E_s2
    obtain ⟨_, _, ⟨T11, L11, k11, n11⟩, -, X11, ⟨Lc11, hQ11, l11, y11, z11⟩, st11⟩ := X10.virtualBack hx (y := (⟨"com/example/patient_snoop/patientsnoop/model/Relation", "holds", "(JJ)Z"⟩ : MethodName)) (z := (⟨"com/example/patient_snoop/patientsnoop/model/Relation", "holds", "(JJ)Z"⟩ : MethodName)) hown (mvT hZ (hw _ (List.mem_of_getElem? (i := 3) rfl))) (mvT hZ (hw _ (List.mem_of_getElem? (i := 4) rfl))) (notFace_of_selects (args := #[]) (mvT hZ (hw _ (List.mem_of_getElem? (i := 6) rfl)))) (mvT hZ (hw _ (List.mem_of_getElem? (i := 6) rfl))) (mvT hZ (hw _ (List.mem_of_getElem? (i := 5) rfl))) (by decide) (backOf (W := 0) (rmH2 l Z az hw [] s2 q0 b  h0 n0 Z0 F_s2 E_s2) hZ (hw _ (List.mem_of_getElem? (i := 7) rfl)) (hw _ (List.mem_of_getElem? (i := 1) rfl)) (by decide) (by decide)) q11a q11c (g := (mkF m 77 #[.val (.long q0), .second, .val (.long q1), .second, .val (.int p2), .val (.int (p2 &&& (3 : Int32))), .val (.long b), .second, .val (.int (0 : Int32)), .val (.int (1 : Int32)), .unset, .unset, .unset, .unset, .unset, .unset, .unset, .unset] [(.long b), (.long q0), (.ref s2)])) rfl (by rw [hml]; rfl) (Steps.refl _) (argsL := [(.long q0), (.long b)]) (rest := []) (lenOf pd_0 rfl) rfl (by show 2 * 0 + _ ≤ _; exact Nat.le_of_eq rfl) (hb hby at_77) (fun _ _ => ⟨rfl, e10, (by decide : 0 + 0 ≤ _), (by decide : 0 + 0 ≤ _)⟩)
    dsimp only [Pt.U, Pt.locs, Pt.cells, Pt.slots] at X11 l11 y11 z11 st11 hQ11
    subst l11 y11 z11
    obtain ⟨hv11, N11q, e11⟩ := hQ11
    rw [show fH2 q0 b = (0 : Int32) from by unfold fH2; rw [if_neg (own_ne hc5)]] at hv11
    subst hv11
    have N11 := Fr.app N9 N11q
    refine Go.tr (S' := T11.setTop (mkF m 80 #[.val (.long q0), .second, .val (.long q1), .second, .val (.int p2), .val (.int (p2 &&& (3 : Int32))), .val (.long b), .second, .val (.int (0 : Int32)), .val (.int (1 : Int32)), .unset, .unset, .unset, .unset, .unset, .unset, .unset, .unset] [(.int (0 : Int32))])) st11 ?_
    refine Go.st (S' := T11.setTop (mkF m 82 #[.val (.long q0), .second, .val (.long q1), .second, .val (.int p2), .val (.int (p2 &&& (3 : Int32))), .val (.long b), .second, .val (.int (0 : Int32)), .val (.int (1 : Int32)), .val (.int (0 : Int32)), .unset, .unset, .unset, .unset, .unset, .unset, .unset] [])) (fun _ kk => XS.istore X11.here hx rfl (hb hby at_80) rfl (l' := #[.val (.long q0), .second, .val (.long q1), .second, .val (.int p2), .val (.int (p2 &&& (3 : Int32))), .val (.long b), .second, .val (.int (0 : Int32)), .val (.int (1 : Int32)), .val (.int (0 : Int32)), .unset, .unset, .unset, .unset, .unset, .unset, .unset]) rfl kk) ?_
    refine Go.st (S' := T11.setTop (mkF m 83 #[.val (.long q0), .second, .val (.long q1), .second, .val (.int p2), .val (.int (p2 &&& (3 : Int32))), .val (.long b), .second, .val (.int (0 : Int32)), .val (.int (1 : Int32)), .val (.int (0 : Int32)), .unset, .unset, .unset, .unset, .unset, .unset, .unset] [(.long q0)])) (fun _ kk => XS.lloadN X11.here hx rfl (hb hby at_82) rfl kk) ?_
    refine Go.st (S' := T11.setTop (mkF m 85 #[.val (.long q0), .second, .val (.long q1), .second, .val (.int p2), .val (.int (p2 &&& (3 : Int32))), .val (.long b), .second, .val (.int (0 : Int32)), .val (.int (1 : Int32)), .val (.int (0 : Int32)), .unset, .unset, .unset, .unset, .unset, .unset, .unset] [(.long b), (.long q0)])) (fun _ kk => XS.lload X11.here hx rfl (hb hby at_83) rfl kk) ?_
    obtain ⟨_, _, ⟨T12, L12, k12, n12⟩, -, X12, ⟨Lc12, hQ12, l12, y12, z12⟩, st12⟩ := Jvm.LawKit.callS X11 hx (y := (⟨"java/lang/Math", "max", "(JJ)J"⟩ : MethodName)) hown (mvT hZ (hw _ (List.mem_of_getElem? (i := 21) rfl))) (mvT hZ (hw _ (List.mem_of_getElem? (i := 22) rfl))) (mvT hZ (hw _ (List.mem_of_getElem? (i := 23) rfl))) (mvT hZ (hw _ (List.mem_of_getElem? (i := 24) rfl))) (by decide) (backOf (W := 0) (rmMax l Z az hw [] q0 b  h0 n0 Z0 ) hZ (hw _ (List.mem_of_getElem? (i := 24) rfl)) (hw _ (List.mem_of_getElem? (i := 23) rfl)) (by decide) (by decide)) (g := (mkF m 85 #[.val (.long q0), .second, .val (.long q1), .second, .val (.int p2), .val (.int (p2 &&& (3 : Int32))), .val (.long b), .second, .val (.int (0 : Int32)), .val (.int (1 : Int32)), .val (.int (0 : Int32)), .unset, .unset, .unset, .unset, .unset, .unset, .unset] [(.long b), (.long q0)])) rfl (by rw [hml]; rfl) (argsL := [(.long q0), (.long b)]) (rest := []) (lenOf pd_2 rfl) rfl (by show 2 * 0 + _ ≤ _; exact Nat.le_of_eq rfl) (hb hby at_85) (fun _ _ => ⟨rfl, e11, (by decide : 0 + 0 ≤ _), (by decide : 0 + 0 ≤ _)⟩)
    dsimp only [Pt.U, Pt.locs, Pt.cells, Pt.slots] at X12 l12 y12 z12 st12 hQ12
    subst l12 y12 z12
    obtain ⟨hv12, N12q, e12⟩ := hQ12
    rw [show fMax q0 b = b from by unfold fMax; rw [if_pos hc5]] at hv12
    subst hv12
    have N12 := Fr.app N11 N12q
    refine Go.st (S' := T12.setTop (mkF m 88 #[.val (.long q0), .second, .val (.long q1), .second, .val (.int p2), .val (.int (p2 &&& (3 : Int32))), .val (.long b), .second, .val (.int (0 : Int32)), .val (.int (1 : Int32)), .val (.int (0 : Int32)), .unset, .unset, .unset, .unset, .unset, .unset, .unset] [(.long b)])) st12 ?_
    refine Go.st (S' := T12.setTop (mkF m 90 #[.val (.long q0), .second, .val (.long q1), .second, .val (.int p2), .val (.int (p2 &&& (3 : Int32))), .val (.long b), .second, .val (.int (0 : Int32)), .val (.int (1 : Int32)), .val (.int (0 : Int32)), .val (.long b), .second, .unset, .unset, .unset, .unset, .unset] [])) (fun _ kk => XS.lstore X12.here hx rfl (hb hby at_88) rfl (l' := #[.val (.long q0), .second, .val (.long q1), .second, .val (.int p2), .val (.int (p2 &&& (3 : Int32))), .val (.long b), .second, .val (.int (0 : Int32)), .val (.int (1 : Int32)), .val (.int (0 : Int32)), .val (.long b), .second, .unset, .unset, .unset, .unset, .unset]) rfl kk) ?_
    refine Go.st (S' := T12.setTop (mkF m 91 #[.val (.long q0), .second, .val (.long q1), .second, .val (.int p2), .val (.int (p2 &&& (3 : Int32))), .val (.long b), .second, .val (.int (0 : Int32)), .val (.int (1 : Int32)), .val (.int (0 : Int32)), .val (.long b), .second, .unset, .unset, .unset, .unset, .unset] [(.long q0)])) (fun _ kk => XS.lloadN X12.here hx rfl (hb hby at_90) rfl kk) ?_
    refine Go.st (S' := T12.setTop (mkF m 93 #[.val (.long q0), .second, .val (.long q1), .second, .val (.int p2), .val (.int (p2 &&& (3 : Int32))), .val (.long b), .second, .val (.int (0 : Int32)), .val (.int (1 : Int32)), .val (.int (0 : Int32)), .val (.long b), .second, .unset, .unset, .unset, .unset, .unset] [(.long b), (.long q0)])) (fun _ kk => XS.lload X12.here hx rfl (hb hby at_91) rfl kk) ?_
    obtain ⟨_, _, ⟨T13, L13, k13, n13⟩, -, X13, ⟨Lc13, hQ13, l13, y13, z13⟩, st13⟩ := Jvm.LawKit.callS X12 hx (y := (⟨"java/lang/Math", "min", "(JJ)J"⟩ : MethodName)) hown (mvT hZ (hw _ (List.mem_of_getElem? (i := 25) rfl))) (mvT hZ (hw _ (List.mem_of_getElem? (i := 26) rfl))) (mvT hZ (hw _ (List.mem_of_getElem? (i := 23) rfl))) (mvT hZ (hw _ (List.mem_of_getElem? (i := 27) rfl))) (by decide) (backOf (W := 0) (rmMin l Z az hw [] q0 b  h0 n0 Z0 ) hZ (hw _ (List.mem_of_getElem? (i := 27) rfl)) (hw _ (List.mem_of_getElem? (i := 23) rfl)) (by decide) (by decide)) (g := (mkF m 93 #[.val (.long q0), .second, .val (.long q1), .second, .val (.int p2), .val (.int (p2 &&& (3 : Int32))), .val (.long b), .second, .val (.int (0 : Int32)), .val (.int (1 : Int32)), .val (.int (0 : Int32)), .val (.long b), .second, .unset, .unset, .unset, .unset, .unset] [(.long b), (.long q0)])) rfl (by rw [hml]; rfl) (argsL := [(.long q0), (.long b)]) (rest := []) (lenOf pd_2 rfl) rfl (by show 2 * 0 + _ ≤ _; exact Nat.le_of_eq rfl) (hb hby at_93) (fun _ _ => ⟨rfl, e12, (by decide : 0 + 0 ≤ _), (by decide : 0 + 0 ≤ _)⟩)
    dsimp only [Pt.U, Pt.locs, Pt.cells, Pt.slots] at X13 l13 y13 z13 st13 hQ13
    subst l13 y13 z13
    obtain ⟨hv13, N13q, e13⟩ := hQ13
    rw [show fMin q0 b = q0 from by unfold fMin; rw [if_neg (own_as hc5)]] at hv13
    subst hv13
    have N13 := Fr.app N12 N13q
    refine Go.st (S' := T13.setTop (mkF m 96 #[.val (.long q0), .second, .val (.long q1), .second, .val (.int p2), .val (.int (p2 &&& (3 : Int32))), .val (.long b), .second, .val (.int (0 : Int32)), .val (.int (1 : Int32)), .val (.int (0 : Int32)), .val (.long b), .second, .unset, .unset, .unset, .unset, .unset] [(.long q0)])) st13 ?_
    refine Go.st (S' := T13.setTop (mkF m 98 #[.val (.long q0), .second, .val (.long q1), .second, .val (.int p2), .val (.int (p2 &&& (3 : Int32))), .val (.long b), .second, .val (.int (0 : Int32)), .val (.int (1 : Int32)), .val (.int (0 : Int32)), .val (.long b), .second, .val (.long q0), .second, .unset, .unset, .unset] [])) (fun _ kk => XS.lstore X13.here hx rfl (hb hby at_96) rfl (l' := #[.val (.long q0), .second, .val (.long q1), .second, .val (.int p2), .val (.int (p2 &&& (3 : Int32))), .val (.long b), .second, .val (.int (0 : Int32)), .val (.int (1 : Int32)), .val (.int (0 : Int32)), .val (.long b), .second, .val (.long q0), .second, .unset, .unset, .unset]) rfl kk) ?_
    refine Go.st (S' := T13.setTop (mkF m 100 #[.val (.long q0), .second, .val (.long q1), .second, .val (.int p2), .val (.int (p2 &&& (3 : Int32))), .val (.long b), .second, .val (.int (0 : Int32)), .val (.int (1 : Int32)), .val (.int (0 : Int32)), .val (.long b), .second, .val (.long q0), .second, .unset, .unset, .unset] [(.long b)])) (fun _ kk => XS.lload X13.here hx rfl (hb hby at_98) rfl kk) ?_
    refine Go.st (S' := T13.setTop (mkF m 101 #[.val (.long q0), .second, .val (.long q1), .second, .val (.int p2), .val (.int (p2 &&& (3 : Int32))), .val (.long b), .second, .val (.int (0 : Int32)), .val (.int (1 : Int32)), .val (.int (0 : Int32)), .val (.long b), .second, .val (.long q0), .second, .unset, .unset, .unset] [(.long q0), (.long b)])) (fun _ kk => XS.lloadN X13.here hx rfl (hb hby at_100) rfl kk) ?_
    refine Go.st (S' := T13.setTop (mkF m 102 #[.val (.long q0), .second, .val (.long q1), .second, .val (.int p2), .val (.int (p2 &&& (3 : Int32))), .val (.long b), .second, .val (.int (0 : Int32)), .val (.int (1 : Int32)), .val (.int (0 : Int32)), .val (.long b), .second, .val (.long q0), .second, .unset, .unset, .unset] [(.int (lcmpW b q0))])) (fun _ kk => XS.lcmp X13.here hx rfl (hb hby at_101) rfl kk) ?_
    refine Go.st (S' := T13.setTop (mkF m 109 #[.val (.long q0), .second, .val (.long q1), .second, .val (.int p2), .val (.int (p2 &&& (3 : Int32))), .val (.long b), .second, .val (.int (0 : Int32)), .val (.int (1 : Int32)), .val (.int (0 : Int32)), .val (.long b), .second, .val (.long q0), .second, .unset, .unset, .unset] [])) (fun _ kk => XS.ifYes X13.here hx rfl (pc0 := 102) (pc' := 109) rfl (hb hby at_102) rfl ((if0 _ _).trans (feq (fun q => (own_ne' hc5) ((lw_eq b q0).mp q))).2) (by decide) (by decide) kk) ?_
    refine Go.st (S' := T13.setTop (mkF m 110 #[.val (.long q0), .second, .val (.long q1), .second, .val (.int p2), .val (.int (p2 &&& (3 : Int32))), .val (.long b), .second, .val (.int (0 : Int32)), .val (.int (1 : Int32)), .val (.int (0 : Int32)), .val (.long b), .second, .val (.long q0), .second, .unset, .unset, .unset] [(.int (0 : Int32))])) (fun _ kk => XS.iconst X13.here hx rfl (hb hby at_109) kk) ?_
    refine Go.st (S' := T13.setTop (mkF m 112 #[.val (.long q0), .second, .val (.long q1), .second, .val (.int p2), .val (.int (p2 &&& (3 : Int32))), .val (.long b), .second, .val (.int (0 : Int32)), .val (.int (1 : Int32)), .val (.int (0 : Int32)), .val (.long b), .second, .val (.long q0), .second, .val (.int (0 : Int32)), .unset, .unset] [])) (fun _ kk => XS.istore X13.here hx rfl (hb hby at_110) rfl (l' := #[.val (.long q0), .second, .val (.long q1), .second, .val (.int p2), .val (.int (p2 &&& (3 : Int32))), .val (.long b), .second, .val (.int (0 : Int32)), .val (.int (1 : Int32)), .val (.int (0 : Int32)), .val (.long b), .second, .val (.long q0), .second, .val (.int (0 : Int32)), .unset, .unset]) rfl kk) ?_
    refine Go.st (S' := T13.setTop (mkF m 114 #[.val (.long q0), .second, .val (.long q1), .second, .val (.int p2), .val (.int (p2 &&& (3 : Int32))), .val (.long b), .second, .val (.int (0 : Int32)), .val (.int (1 : Int32)), .val (.int (0 : Int32)), .val (.long b), .second, .val (.long q0), .second, .val (.int (0 : Int32)), .unset, .unset] [(.long q0)])) (fun _ kk => XS.lload X13.here hx rfl (hb hby at_112) rfl kk) ?_
    refine Go.st (S' := T13.setTop (mkF m 115 #[.val (.long q0), .second, .val (.long q1), .second, .val (.int p2), .val (.int (p2 &&& (3 : Int32))), .val (.long b), .second, .val (.int (0 : Int32)), .val (.int (1 : Int32)), .val (.int (0 : Int32)), .val (.long b), .second, .val (.long q0), .second, .val (.int (0 : Int32)), .unset, .unset] [(.long q0), (.long q0)])) (fun _ kk => XS.lloadN X13.here hx rfl (hb hby at_114) rfl kk) ?_
    refine Go.st (S' := T13.setTop (mkF m 116 #[.val (.long q0), .second, .val (.long q1), .second, .val (.int p2), .val (.int (p2 &&& (3 : Int32))), .val (.long b), .second, .val (.int (0 : Int32)), .val (.int (1 : Int32)), .val (.int (0 : Int32)), .val (.long b), .second, .val (.long q0), .second, .val (.int (0 : Int32)), .unset, .unset] [(.int (lcmpW q0 q0))])) (fun _ kk => XS.lcmp X13.here hx rfl (hb hby at_115) rfl kk) ?_
    refine Go.st (S' := T13.setTop (mkF m 119 #[.val (.long q0), .second, .val (.long q1), .second, .val (.int p2), .val (.int (p2 &&& (3 : Int32))), .val (.long b), .second, .val (.int (0 : Int32)), .val (.int (1 : Int32)), .val (.int (0 : Int32)), .val (.long b), .second, .val (.long q0), .second, .val (.int (0 : Int32)), .unset, .unset] [])) (fun _ kk => XS.ifNo X13.here hx rfl (hb hby at_116) rfl ((if0 _ _).trans (teq ((lw_eq q0 q0).mpr (rfl : q0 = q0))).2) kk) ?_
    refine Go.st (S' := T13.setTop (mkF m 120 #[.val (.long q0), .second, .val (.long q1), .second, .val (.int p2), .val (.int (p2 &&& (3 : Int32))), .val (.long b), .second, .val (.int (0 : Int32)), .val (.int (1 : Int32)), .val (.int (0 : Int32)), .val (.long b), .second, .val (.long q0), .second, .val (.int (0 : Int32)), .unset, .unset] [(.int (1 : Int32))])) (fun _ kk => XS.iconst X13.here hx rfl (hb hby at_119) kk) ?_
    refine Go.st (S' := T13.setTop (mkF m 124 #[.val (.long q0), .second, .val (.long q1), .second, .val (.int p2), .val (.int (p2 &&& (3 : Int32))), .val (.long b), .second, .val (.int (0 : Int32)), .val (.int (1 : Int32)), .val (.int (0 : Int32)), .val (.long b), .second, .val (.long q0), .second, .val (.int (0 : Int32)), .unset, .unset] [(.int (1 : Int32))])) (fun _ kk => XS.goto X13.here hx rfl (pc0 := 120) (pc' := 124) rfl (hb hby at_120) (by decide) (by decide) kk) ?_
    refine Go.st (S' := T13.setTop (mkF m 126 #[.val (.long q0), .second, .val (.long q1), .second, .val (.int p2), .val (.int (p2 &&& (3 : Int32))), .val (.long b), .second, .val (.int (0 : Int32)), .val (.int (1 : Int32)), .val (.int (0 : Int32)), .val (.long b), .second, .val (.long q0), .second, .val (.int (0 : Int32)), .val (.int (1 : Int32)), .unset] [])) (fun _ kk => XS.istore X13.here hx rfl (hb hby at_124) rfl (l' := #[.val (.long q0), .second, .val (.long q1), .second, .val (.int p2), .val (.int (p2 &&& (3 : Int32))), .val (.long b), .second, .val (.int (0 : Int32)), .val (.int (1 : Int32)), .val (.int (0 : Int32)), .val (.long b), .second, .val (.long q0), .second, .val (.int (0 : Int32)), .val (.int (1 : Int32)), .unset]) rfl kk) ?_
    refine Go.st (S' := T13.setTop (mkF m 128 #[.val (.long q0), .second, .val (.long q1), .second, .val (.int p2), .val (.int (p2 &&& (3 : Int32))), .val (.long b), .second, .val (.int (0 : Int32)), .val (.int (1 : Int32)), .val (.int (0 : Int32)), .val (.long b), .second, .val (.long q0), .second, .val (.int (0 : Int32)), .val (.int (1 : Int32)), .unset] [(.long b)])) (fun _ kk => XS.lload X13.here hx rfl (hb hby at_126) rfl kk) ?_
    refine Go.st (S' := T13.setTop (mkF m 130 #[.val (.long q0), .second, .val (.long q1), .second, .val (.int p2), .val (.int (p2 &&& (3 : Int32))), .val (.long b), .second, .val (.int (0 : Int32)), .val (.int (1 : Int32)), .val (.int (0 : Int32)), .val (.long b), .second, .val (.long q0), .second, .val (.int (0 : Int32)), .val (.int (1 : Int32)), .unset] [(.long q0), (.long b)])) (fun _ kk => XS.lload X13.here hx rfl (hb hby at_128) rfl kk) ?_
    refine Go.st (S' := T13.setTop (mkF m 131 #[.val (.long q0), .second, .val (.long q1), .second, .val (.int p2), .val (.int (p2 &&& (3 : Int32))), .val (.long b), .second, .val (.int (0 : Int32)), .val (.int (1 : Int32)), .val (.int (0 : Int32)), .val (.long b), .second, .val (.long q0), .second, .val (.int (0 : Int32)), .val (.int (1 : Int32)), .unset] [(.int (lcmpW b q0))])) (fun _ kk => XS.lcmp X13.here hx rfl (hb hby at_130) rfl kk) ?_
    refine Go.st (S' := T13.setTop (mkF m 138 #[.val (.long q0), .second, .val (.long q1), .second, .val (.int p2), .val (.int (p2 &&& (3 : Int32))), .val (.long b), .second, .val (.int (0 : Int32)), .val (.int (1 : Int32)), .val (.int (0 : Int32)), .val (.long b), .second, .val (.long q0), .second, .val (.int (0 : Int32)), .val (.int (1 : Int32)), .unset] [])) (fun _ kk => XS.ifYes X13.here hx rfl (pc0 := 131) (pc' := 138) rfl (hb hby at_131) rfl ((if0 _ _).trans (feq (fun q => (own_ne' hc5) ((lw_eq b q0).mp q))).2) (by decide) (by decide) kk) ?_
    refine Go.st (S' := T13.setTop (mkF m 139 #[.val (.long q0), .second, .val (.long q1), .second, .val (.int p2), .val (.int (p2 &&& (3 : Int32))), .val (.long b), .second, .val (.int (0 : Int32)), .val (.int (1 : Int32)), .val (.int (0 : Int32)), .val (.long b), .second, .val (.long q0), .second, .val (.int (0 : Int32)), .val (.int (1 : Int32)), .unset] [(.int (0 : Int32))])) (fun _ kk => XS.iconst X13.here hx rfl (hb hby at_138) kk) ?_
    refine Go.st (S' := T13.setTop (mkF m 141 #[.val (.long q0), .second, .val (.long q1), .second, .val (.int p2), .val (.int (p2 &&& (3 : Int32))), .val (.long b), .second, .val (.int (0 : Int32)), .val (.int (1 : Int32)), .val (.int (0 : Int32)), .val (.long b), .second, .val (.long q0), .second, .val (.int (0 : Int32)), .val (.int (1 : Int32)), .val (.int (0 : Int32))] [])) (fun _ kk => XS.istore X13.here hx rfl (hb hby at_139) rfl (l' := #[.val (.long q0), .second, .val (.long q1), .second, .val (.int p2), .val (.int (p2 &&& (3 : Int32))), .val (.long b), .second, .val (.int (0 : Int32)), .val (.int (1 : Int32)), .val (.int (0 : Int32)), .val (.long b), .second, .val (.long q0), .second, .val (.int (0 : Int32)), .val (.int (1 : Int32)), .val (.int (0 : Int32))]) rfl kk) ?_
    refine Go.st (S' := T13.setTop (mkF m 143 #[.val (.long q0), .second, .val (.long q1), .second, .val (.int p2), .val (.int (p2 &&& (3 : Int32))), .val (.long b), .second, .val (.int (0 : Int32)), .val (.int (1 : Int32)), .val (.int (0 : Int32)), .val (.long b), .second, .val (.long q0), .second, .val (.int (0 : Int32)), .val (.int (1 : Int32)), .val (.int (0 : Int32))] [(.int (0 : Int32))])) (fun _ kk => XS.iload X13.here hx rfl (hb hby at_141) rfl kk) ?_
    refine Go.st (S' := T13.setTop (mkF m 145 #[.val (.long q0), .second, .val (.long q1), .second, .val (.int p2), .val (.int (p2 &&& (3 : Int32))), .val (.long b), .second, .val (.int (0 : Int32)), .val (.int (1 : Int32)), .val (.int (0 : Int32)), .val (.long b), .second, .val (.long q0), .second, .val (.int (0 : Int32)), .val (.int (1 : Int32)), .val (.int (0 : Int32))] [(.int (0 : Int32)), (.int (0 : Int32))])) (fun _ kk => XS.iload X13.here hx rfl (hb hby at_143) rfl kk) ?_
    refine Go.st (S' := T13.setTop (mkF m 148 #[.val (.long q0), .second, .val (.long q1), .second, .val (.int p2), .val (.int (p2 &&& (3 : Int32))), .val (.long b), .second, .val (.int (0 : Int32)), .val (.int (1 : Int32)), .val (.int (0 : Int32)), .val (.long b), .second, .val (.long q0), .second, .val (.int (0 : Int32)), .val (.int (1 : Int32)), .val (.int (0 : Int32))] [])) (fun _ kk => XS.icmpNo X13.here hx rfl (hb hby at_145) rfl (teq (by decide : (0 : Int32) = (0 : Int32))).2 kk) ?_
    refine Go.st (S' := T13.setTop (mkF m 150 #[.val (.long q0), .second, .val (.long q1), .second, .val (.int p2), .val (.int (p2 &&& (3 : Int32))), .val (.long b), .second, .val (.int (0 : Int32)), .val (.int (1 : Int32)), .val (.int (0 : Int32)), .val (.long b), .second, .val (.long q0), .second, .val (.int (0 : Int32)), .val (.int (1 : Int32)), .val (.int (0 : Int32))] [(.int (1 : Int32))])) (fun _ kk => XS.iload X13.here hx rfl (hb hby at_148) rfl kk) ?_
    refine Go.st (S' := T13.setTop (mkF m 152 #[.val (.long q0), .second, .val (.long q1), .second, .val (.int p2), .val (.int (p2 &&& (3 : Int32))), .val (.long b), .second, .val (.int (0 : Int32)), .val (.int (1 : Int32)), .val (.int (0 : Int32)), .val (.long b), .second, .val (.long q0), .second, .val (.int (0 : Int32)), .val (.int (1 : Int32)), .val (.int (0 : Int32))] [(.int (1 : Int32)), (.int (1 : Int32))])) (fun _ kk => XS.iload X13.here hx rfl (hb hby at_150) rfl kk) ?_
    refine Go.st (S' := T13.setTop (mkF m 155 #[.val (.long q0), .second, .val (.long q1), .second, .val (.int p2), .val (.int (p2 &&& (3 : Int32))), .val (.long b), .second, .val (.int (0 : Int32)), .val (.int (1 : Int32)), .val (.int (0 : Int32)), .val (.long b), .second, .val (.long q0), .second, .val (.int (0 : Int32)), .val (.int (1 : Int32)), .val (.int (0 : Int32))] [])) (fun _ kk => XS.icmpNo X13.here hx rfl (hb hby at_152) rfl (teq (by decide : (1 : Int32) = (1 : Int32))).2 kk) ?_
    refine Go.st (S' := T13.setTop (mkF m 157 #[.val (.long q0), .second, .val (.long q1), .second, .val (.int p2), .val (.int (p2 &&& (3 : Int32))), .val (.long b), .second, .val (.int (0 : Int32)), .val (.int (1 : Int32)), .val (.int (0 : Int32)), .val (.long b), .second, .val (.long q0), .second, .val (.int (0 : Int32)), .val (.int (1 : Int32)), .val (.int (0 : Int32))] [(.int (0 : Int32))])) (fun _ kk => XS.iload X13.here hx rfl (hb hby at_155) rfl kk) ?_
    refine Go.st (S' := T13.setTop (mkF m 159 #[.val (.long q0), .second, .val (.long q1), .second, .val (.int p2), .val (.int (p2 &&& (3 : Int32))), .val (.long b), .second, .val (.int (0 : Int32)), .val (.int (1 : Int32)), .val (.int (0 : Int32)), .val (.long b), .second, .val (.long q0), .second, .val (.int (0 : Int32)), .val (.int (1 : Int32)), .val (.int (0 : Int32))] [(.int (0 : Int32)), (.int (0 : Int32))])) (fun _ kk => XS.iload X13.here hx rfl (hb hby at_157) rfl kk) ?_
    refine Go.st (S' := T13.setTop (mkF m 162 #[.val (.long q0), .second, .val (.long q1), .second, .val (.int p2), .val (.int (p2 &&& (3 : Int32))), .val (.long b), .second, .val (.int (0 : Int32)), .val (.int (1 : Int32)), .val (.int (0 : Int32)), .val (.long b), .second, .val (.long q0), .second, .val (.int (0 : Int32)), .val (.int (1 : Int32)), .val (.int (0 : Int32))] [])) (fun _ kk => XS.icmpNo X13.here hx rfl (hb hby at_159) rfl (teq (by decide : (0 : Int32) = (0 : Int32))).2 kk) ?_
    refine Go.st (S' := T13.setTop (mkF m 163 #[.val (.long q0), .second, .val (.long q1), .second, .val (.int p2), .val (.int (p2 &&& (3 : Int32))), .val (.long b), .second, .val (.int (0 : Int32)), .val (.int (1 : Int32)), .val (.int (0 : Int32)), .val (.long b), .second, .val (.long q0), .second, .val (.int (0 : Int32)), .val (.int (1 : Int32)), .val (.int (0 : Int32))] [(.int (1 : Int32))])) (fun _ kk => XS.iconst X13.here hx rfl (hb hby at_162) kk) ?_
    refine Go.st (S' := T13.setTop (mkF m 167 #[.val (.long q0), .second, .val (.long q1), .second, .val (.int p2), .val (.int (p2 &&& (3 : Int32))), .val (.long b), .second, .val (.int (0 : Int32)), .val (.int (1 : Int32)), .val (.int (0 : Int32)), .val (.long b), .second, .val (.long q0), .second, .val (.int (0 : Int32)), .val (.int (1 : Int32)), .val (.int (0 : Int32))] [(.int (1 : Int32))])) (fun _ kk => XS.goto X13.here hx rfl (pc0 := 163) (pc' := 167) rfl (hb hby at_163) (by decide) (by decide) kk) ?_
    exact Go.retN X13 hx hlk (t := .boolean) Bd.returns (by simp) (hb hby at_167) (⟨rfl, N13⟩) (by decide) (by decide)
  · by_cases hc14 : b < q0
    · obtain ⟨T15, X15, e15, st15⟩ := getS2 X0 hx hZ hown (host := "") (Or.inl (hw _ (List.mem_of_getElem? (i := 0) rfl))) Via.refl e0 S_AT_LEAST (g := (mkF m 49 #[.val (.long q0), .second, .val (.long q1), .second, .val (.int p2), .val (.int (p2 &&& (3 : Int32))), .val (.long b), .second, .unset, .unset, .unset, .unset, .unset, .unset, .unset, .unset, .unset, .unset] [])) rfl (hb hby at_49)
      refine Go.st (S' := T15.setTop (mkF m 52 #[.val (.long q0), .second, .val (.long q1), .second, .val (.int p2), .val (.int (p2 &&& (3 : Int32))), .val (.long b), .second, .unset, .unset, .unset, .unset, .unset, .unset, .unset, .unset, .unset, .unset] [(.ref s0)])) st15 ?_
      refine Go.st (S' := T15.setTop (mkF m 53 #[.val (.long q0), .second, .val (.long q1), .second, .val (.int p2), .val (.int (p2 &&& (3 : Int32))), .val (.long b), .second, .unset, .unset, .unset, .unset, .unset, .unset, .unset, .unset, .unset, .unset] [(.long q0), (.ref s0)])) (fun _ kk => XS.lloadN X15.here hx rfl (hb hby at_52) rfl kk) ?_
      refine Go.st (S' := T15.setTop (mkF m 55 #[.val (.long q0), .second, .val (.long q1), .second, .val (.int p2), .val (.int (p2 &&& (3 : Int32))), .val (.long b), .second, .unset, .unset, .unset, .unset, .unset, .unset, .unset, .unset, .unset, .unset] [(.long b), (.long q0), (.ref s0)])) (fun _ kk => XS.lload X15.here hx rfl (hb hby at_53) rfl kk) ?_
      obtain ⟨cq16, kq16, q16a, q16b, q16c⟩ := isOf hZ e15 E_s0
      obtain ⟨_, _, ⟨T16, L16, k16, n16⟩, -, X16, ⟨Lc16, hQ16, l16, y16, z16⟩, st16⟩ := X15.virtualBack hx (y := (⟨"com/example/patient_snoop/patientsnoop/model/Relation", "holds", "(JJ)Z"⟩ : MethodName)) (z := (⟨"com/example/patient_snoop/patientsnoop/model/Relation", "holds", "(JJ)Z"⟩ : MethodName)) hown (mvT hZ (hw _ (List.mem_of_getElem? (i := 3) rfl))) (mvT hZ (hw _ (List.mem_of_getElem? (i := 4) rfl))) (notFace_of_selects (args := #[]) (mvT hZ (hw _ (List.mem_of_getElem? (i := 6) rfl)))) (mvT hZ (hw _ (List.mem_of_getElem? (i := 6) rfl))) (mvT hZ (hw _ (List.mem_of_getElem? (i := 5) rfl))) (by decide) (backOf (W := 0) (rmH0 l Z az hw [] s0 q0 b  h0 n0 Z0 F_s0 E_s0) hZ (hw _ (List.mem_of_getElem? (i := 7) rfl)) (hw _ (List.mem_of_getElem? (i := 1) rfl)) (by decide) (by decide)) q16a q16c (g := (mkF m 55 #[.val (.long q0), .second, .val (.long q1), .second, .val (.int p2), .val (.int (p2 &&& (3 : Int32))), .val (.long b), .second, .unset, .unset, .unset, .unset, .unset, .unset, .unset, .unset, .unset, .unset] [(.long b), (.long q0), (.ref s0)])) rfl (by rw [hml]; rfl) (Steps.refl _) (argsL := [(.long q0), (.long b)]) (rest := []) (lenOf pd_0 rfl) rfl (by show 2 * 0 + _ ≤ _; exact Nat.le_of_eq rfl) (hb hby at_55) (fun _ _ => ⟨rfl, e15, (by decide : 0 + 0 ≤ _), (by decide : 0 + 0 ≤ _)⟩)
      dsimp only [Pt.U, Pt.locs, Pt.cells, Pt.slots] at X16 l16 y16 z16 st16 hQ16
      subst l16 y16 z16
      obtain ⟨hv16, N16q, e16⟩ := hQ16
      rw [show fH0 q0 b = (1 : Int32) from by unfold fH0; rw [if_neg hc5]] at hv16
      subst hv16
      have N16 := Fr.app N0 N16q
      refine Go.tr (S' := T16.setTop (mkF m 58 #[.val (.long q0), .second, .val (.long q1), .second, .val (.int p2), .val (.int (p2 &&& (3 : Int32))), .val (.long b), .second, .unset, .unset, .unset, .unset, .unset, .unset, .unset, .unset, .unset, .unset] [(.int (1 : Int32))])) st16 ?_
      refine Go.st (S' := T16.setTop (mkF m 60 #[.val (.long q0), .second, .val (.long q1), .second, .val (.int p2), .val (.int (p2 &&& (3 : Int32))), .val (.long b), .second, .val (.int (1 : Int32)), .unset, .unset, .unset, .unset, .unset, .unset, .unset, .unset, .unset] [])) (fun _ kk => XS.istore X16.here hx rfl (hb hby at_58) rfl (l' := #[.val (.long q0), .second, .val (.long q1), .second, .val (.int p2), .val (.int (p2 &&& (3 : Int32))), .val (.long b), .second, .val (.int (1 : Int32)), .unset, .unset, .unset, .unset, .unset, .unset, .unset, .unset, .unset]) rfl kk) ?_
      obtain ⟨T17, X17, e17, st17⟩ := getS2 X16 hx hZ hown (host := "") (Or.inl (hw _ (List.mem_of_getElem? (i := 17) rfl))) Via.refl e16 S_AT_MOST (g := (mkF m 60 #[.val (.long q0), .second, .val (.long q1), .second, .val (.int p2), .val (.int (p2 &&& (3 : Int32))), .val (.long b), .second, .val (.int (1 : Int32)), .unset, .unset, .unset, .unset, .unset, .unset, .unset, .unset, .unset] [])) rfl (hb hby at_60)
      refine Go.st (S' := T17.setTop (mkF m 63 #[.val (.long q0), .second, .val (.long q1), .second, .val (.int p2), .val (.int (p2 &&& (3 : Int32))), .val (.long b), .second, .val (.int (1 : Int32)), .unset, .unset, .unset, .unset, .unset, .unset, .unset, .unset, .unset] [(.ref s1)])) st17 ?_
      refine Go.st (S' := T17.setTop (mkF m 64 #[.val (.long q0), .second, .val (.long q1), .second, .val (.int p2), .val (.int (p2 &&& (3 : Int32))), .val (.long b), .second, .val (.int (1 : Int32)), .unset, .unset, .unset, .unset, .unset, .unset, .unset, .unset, .unset] [(.long q0), (.ref s1)])) (fun _ kk => XS.lloadN X17.here hx rfl (hb hby at_63) rfl kk) ?_
      refine Go.st (S' := T17.setTop (mkF m 66 #[.val (.long q0), .second, .val (.long q1), .second, .val (.int p2), .val (.int (p2 &&& (3 : Int32))), .val (.long b), .second, .val (.int (1 : Int32)), .unset, .unset, .unset, .unset, .unset, .unset, .unset, .unset, .unset] [(.long b), (.long q0), (.ref s1)])) (fun _ kk => XS.lload X17.here hx rfl (hb hby at_64) rfl kk) ?_
      obtain ⟨cq18, kq18, q18a, q18b, q18c⟩ := isOf hZ e17 E_s1
      obtain ⟨_, _, ⟨T18, L18, k18, n18⟩, -, X18, ⟨Lc18, hQ18, l18, y18, z18⟩, st18⟩ := X17.virtualBack hx (y := (⟨"com/example/patient_snoop/patientsnoop/model/Relation", "holds", "(JJ)Z"⟩ : MethodName)) (z := (⟨"com/example/patient_snoop/patientsnoop/model/Relation", "holds", "(JJ)Z"⟩ : MethodName)) hown (mvT hZ (hw _ (List.mem_of_getElem? (i := 3) rfl))) (mvT hZ (hw _ (List.mem_of_getElem? (i := 4) rfl))) (notFace_of_selects (args := #[]) (mvT hZ (hw _ (List.mem_of_getElem? (i := 6) rfl)))) (mvT hZ (hw _ (List.mem_of_getElem? (i := 6) rfl))) (mvT hZ (hw _ (List.mem_of_getElem? (i := 5) rfl))) (by decide) (backOf (W := 0) (rmH1 l Z az hw [] s1 q0 b  h0 n0 Z0 F_s1 E_s1) hZ (hw _ (List.mem_of_getElem? (i := 7) rfl)) (hw _ (List.mem_of_getElem? (i := 1) rfl)) (by decide) (by decide)) q18a q18c (g := (mkF m 66 #[.val (.long q0), .second, .val (.long q1), .second, .val (.int p2), .val (.int (p2 &&& (3 : Int32))), .val (.long b), .second, .val (.int (1 : Int32)), .unset, .unset, .unset, .unset, .unset, .unset, .unset, .unset, .unset] [(.long b), (.long q0), (.ref s1)])) rfl (by rw [hml]; rfl) (Steps.refl _) (argsL := [(.long q0), (.long b)]) (rest := []) (lenOf pd_0 rfl) rfl (by show 2 * 0 + _ ≤ _; exact Nat.le_of_eq rfl) (hb hby at_66) (fun _ _ => ⟨rfl, e17, (by decide : 0 + 0 ≤ _), (by decide : 0 + 0 ≤ _)⟩)
      dsimp only [Pt.U, Pt.locs, Pt.cells, Pt.slots] at X18 l18 y18 z18 st18 hQ18
      subst l18 y18 z18
      obtain ⟨hv18, N18q, e18⟩ := hQ18
      rw [show fH1 q0 b = (0 : Int32) from by unfold fH1; rw [if_pos hc14]] at hv18
      subst hv18
      have N18 := Fr.app N16 N18q
      refine Go.tr (S' := T18.setTop (mkF m 69 #[.val (.long q0), .second, .val (.long q1), .second, .val (.int p2), .val (.int (p2 &&& (3 : Int32))), .val (.long b), .second, .val (.int (1 : Int32)), .unset, .unset, .unset, .unset, .unset, .unset, .unset, .unset, .unset] [(.int (0 : Int32))])) st18 ?_
      refine Go.st (S' := T18.setTop (mkF m 71 #[.val (.long q0), .second, .val (.long q1), .second, .val (.int p2), .val (.int (p2 &&& (3 : Int32))), .val (.long b), .second, .val (.int (1 : Int32)), .val (.int (0 : Int32)), .unset, .unset, .unset, .unset, .unset, .unset, .unset, .unset] [])) (fun _ kk => XS.istore X18.here hx rfl (hb hby at_69) rfl (l' := #[.val (.long q0), .second, .val (.long q1), .second, .val (.int p2), .val (.int (p2 &&& (3 : Int32))), .val (.long b), .second, .val (.int (1 : Int32)), .val (.int (0 : Int32)), .unset, .unset, .unset, .unset, .unset, .unset, .unset, .unset]) rfl kk) ?_
      obtain ⟨T19, X19, e19, st19⟩ := getS2 X18 hx hZ hown (host := "") (Or.inl (hw _ (List.mem_of_getElem? (i := 19) rfl))) Via.refl e18 S_EQUAL (g := (mkF m 71 #[.val (.long q0), .second, .val (.long q1), .second, .val (.int p2), .val (.int (p2 &&& (3 : Int32))), .val (.long b), .second, .val (.int (1 : Int32)), .val (.int (0 : Int32)), .unset, .unset, .unset, .unset, .unset, .unset, .unset, .unset] [])) rfl (hb hby at_71)
      refine Go.st (S' := T19.setTop (mkF m 74 #[.val (.long q0), .second, .val (.long q1), .second, .val (.int p2), .val (.int (p2 &&& (3 : Int32))), .val (.long b), .second, .val (.int (1 : Int32)), .val (.int (0 : Int32)), .unset, .unset, .unset, .unset, .unset, .unset, .unset, .unset] [(.ref s2)])) st19 ?_
      refine Go.st (S' := T19.setTop (mkF m 75 #[.val (.long q0), .second, .val (.long q1), .second, .val (.int p2), .val (.int (p2 &&& (3 : Int32))), .val (.long b), .second, .val (.int (1 : Int32)), .val (.int (0 : Int32)), .unset, .unset, .unset, .unset, .unset, .unset, .unset, .unset] [(.long q0), (.ref s2)])) (fun _ kk => XS.lloadN X19.here hx rfl (hb hby at_74) rfl kk) ?_
      refine Go.st (S' := T19.setTop (mkF m 77 #[.val (.long q0), .second, .val (.long q1), .second, .val (.int p2), .val (.int (p2 &&& (3 : Int32))), .val (.long b), .second, .val (.int (1 : Int32)), .val (.int (0 : Int32)), .unset, .unset, .unset, .unset, .unset, .unset, .unset, .unset] [(.long b), (.long q0), (.ref s2)])) (fun _ kk => XS.lload X19.here hx rfl (hb hby at_75) rfl kk) ?_
      obtain ⟨cq20, kq20, q20a, q20b, q20c⟩ := isOf hZ e19 E_s2
      obtain ⟨_, _, ⟨T20, L20, k20, n20⟩, -, X20, ⟨Lc20, hQ20, l20, y20, z20⟩, st20⟩ := X19.virtualBack hx (y := (⟨"com/example/patient_snoop/patientsnoop/model/Relation", "holds", "(JJ)Z"⟩ : MethodName)) (z := (⟨"com/example/patient_snoop/patientsnoop/model/Relation", "holds", "(JJ)Z"⟩ : MethodName)) hown (mvT hZ (hw _ (List.mem_of_getElem? (i := 3) rfl))) (mvT hZ (hw _ (List.mem_of_getElem? (i := 4) rfl))) (notFace_of_selects (args := #[]) (mvT hZ (hw _ (List.mem_of_getElem? (i := 6) rfl)))) (mvT hZ (hw _ (List.mem_of_getElem? (i := 6) rfl))) (mvT hZ (hw _ (List.mem_of_getElem? (i := 5) rfl))) (by decide) (backOf (W := 0) (rmH2 l Z az hw [] s2 q0 b  h0 n0 Z0 F_s2 E_s2) hZ (hw _ (List.mem_of_getElem? (i := 7) rfl)) (hw _ (List.mem_of_getElem? (i := 1) rfl)) (by decide) (by decide)) q20a q20c (g := (mkF m 77 #[.val (.long q0), .second, .val (.long q1), .second, .val (.int p2), .val (.int (p2 &&& (3 : Int32))), .val (.long b), .second, .val (.int (1 : Int32)), .val (.int (0 : Int32)), .unset, .unset, .unset, .unset, .unset, .unset, .unset, .unset] [(.long b), (.long q0), (.ref s2)])) rfl (by rw [hml]; rfl) (Steps.refl _) (argsL := [(.long q0), (.long b)]) (rest := []) (lenOf pd_0 rfl) rfl (by show 2 * 0 + _ ≤ _; exact Nat.le_of_eq rfl) (hb hby at_77) (fun _ _ => ⟨rfl, e19, (by decide : 0 + 0 ≤ _), (by decide : 0 + 0 ≤ _)⟩)
      dsimp only [Pt.U, Pt.locs, Pt.cells, Pt.slots] at X20 l20 y20 z20 st20 hQ20
      subst l20 y20 z20
      obtain ⟨hv20, N20q, e20⟩ := hQ20
      rw [show fH2 q0 b = (0 : Int32) from by unfold fH2; rw [if_neg (own_ne' hc14)]] at hv20
      subst hv20
      have N20 := Fr.app N18 N20q
      refine Go.tr (S' := T20.setTop (mkF m 80 #[.val (.long q0), .second, .val (.long q1), .second, .val (.int p2), .val (.int (p2 &&& (3 : Int32))), .val (.long b), .second, .val (.int (1 : Int32)), .val (.int (0 : Int32)), .unset, .unset, .unset, .unset, .unset, .unset, .unset, .unset] [(.int (0 : Int32))])) st20 ?_
      refine Go.st (S' := T20.setTop (mkF m 82 #[.val (.long q0), .second, .val (.long q1), .second, .val (.int p2), .val (.int (p2 &&& (3 : Int32))), .val (.long b), .second, .val (.int (1 : Int32)), .val (.int (0 : Int32)), .val (.int (0 : Int32)), .unset, .unset, .unset, .unset, .unset, .unset, .unset] [])) (fun _ kk => XS.istore X20.here hx rfl (hb hby at_80) rfl (l' := #[.val (.long q0), .second, .val (.long q1), .second, .val (.int p2), .val (.int (p2 &&& (3 : Int32))), .val (.long b), .second, .val (.int (1 : Int32)), .val (.int (0 : Int32)), .val (.int (0 : Int32)), .unset, .unset, .unset, .unset, .unset, .unset, .unset]) rfl kk) ?_
      refine Go.st (S' := T20.setTop (mkF m 83 #[.val (.long q0), .second, .val (.long q1), .second, .val (.int p2), .val (.int (p2 &&& (3 : Int32))), .val (.long b), .second, .val (.int (1 : Int32)), .val (.int (0 : Int32)), .val (.int (0 : Int32)), .unset, .unset, .unset, .unset, .unset, .unset, .unset] [(.long q0)])) (fun _ kk => XS.lloadN X20.here hx rfl (hb hby at_82) rfl kk) ?_
      refine Go.st (S' := T20.setTop (mkF m 85 #[.val (.long q0), .second, .val (.long q1), .second, .val (.int p2), .val (.int (p2 &&& (3 : Int32))), .val (.long b), .second, .val (.int (1 : Int32)), .val (.int (0 : Int32)), .val (.int (0 : Int32)), .unset, .unset, .unset, .unset, .unset, .unset, .unset] [(.long b), (.long q0)])) (fun _ kk => XS.lload X20.here hx rfl (hb hby at_83) rfl kk) ?_
      obtain ⟨_, _, ⟨T21, L21, k21, n21⟩, -, X21, ⟨Lc21, hQ21, l21, y21, z21⟩, st21⟩ := Jvm.LawKit.callS X20 hx (y := (⟨"java/lang/Math", "max", "(JJ)J"⟩ : MethodName)) hown (mvT hZ (hw _ (List.mem_of_getElem? (i := 21) rfl))) (mvT hZ (hw _ (List.mem_of_getElem? (i := 22) rfl))) (mvT hZ (hw _ (List.mem_of_getElem? (i := 23) rfl))) (mvT hZ (hw _ (List.mem_of_getElem? (i := 24) rfl))) (by decide) (backOf (W := 0) (rmMax l Z az hw [] q0 b  h0 n0 Z0 ) hZ (hw _ (List.mem_of_getElem? (i := 24) rfl)) (hw _ (List.mem_of_getElem? (i := 23) rfl)) (by decide) (by decide)) (g := (mkF m 85 #[.val (.long q0), .second, .val (.long q1), .second, .val (.int p2), .val (.int (p2 &&& (3 : Int32))), .val (.long b), .second, .val (.int (1 : Int32)), .val (.int (0 : Int32)), .val (.int (0 : Int32)), .unset, .unset, .unset, .unset, .unset, .unset, .unset] [(.long b), (.long q0)])) rfl (by rw [hml]; rfl) (argsL := [(.long q0), (.long b)]) (rest := []) (lenOf pd_2 rfl) rfl (by show 2 * 0 + _ ≤ _; exact Nat.le_of_eq rfl) (hb hby at_85) (fun _ _ => ⟨rfl, e20, (by decide : 0 + 0 ≤ _), (by decide : 0 + 0 ≤ _)⟩)
      dsimp only [Pt.U, Pt.locs, Pt.cells, Pt.slots] at X21 l21 y21 z21 st21 hQ21
      subst l21 y21 z21
      obtain ⟨hv21, N21q, e21⟩ := hQ21
      rw [show fMax q0 b = q0 from by unfold fMax; rw [if_neg hc5]] at hv21
      subst hv21
      have N21 := Fr.app N20 N21q
      refine Go.st (S' := T21.setTop (mkF m 88 #[.val (.long q0), .second, .val (.long q1), .second, .val (.int p2), .val (.int (p2 &&& (3 : Int32))), .val (.long b), .second, .val (.int (1 : Int32)), .val (.int (0 : Int32)), .val (.int (0 : Int32)), .unset, .unset, .unset, .unset, .unset, .unset, .unset] [(.long q0)])) st21 ?_
      refine Go.st (S' := T21.setTop (mkF m 90 #[.val (.long q0), .second, .val (.long q1), .second, .val (.int p2), .val (.int (p2 &&& (3 : Int32))), .val (.long b), .second, .val (.int (1 : Int32)), .val (.int (0 : Int32)), .val (.int (0 : Int32)), .val (.long q0), .second, .unset, .unset, .unset, .unset, .unset] [])) (fun _ kk => XS.lstore X21.here hx rfl (hb hby at_88) rfl (l' := #[.val (.long q0), .second, .val (.long q1), .second, .val (.int p2), .val (.int (p2 &&& (3 : Int32))), .val (.long b), .second, .val (.int (1 : Int32)), .val (.int (0 : Int32)), .val (.int (0 : Int32)), .val (.long q0), .second, .unset, .unset, .unset, .unset, .unset]) rfl kk) ?_
      refine Go.st (S' := T21.setTop (mkF m 91 #[.val (.long q0), .second, .val (.long q1), .second, .val (.int p2), .val (.int (p2 &&& (3 : Int32))), .val (.long b), .second, .val (.int (1 : Int32)), .val (.int (0 : Int32)), .val (.int (0 : Int32)), .val (.long q0), .second, .unset, .unset, .unset, .unset, .unset] [(.long q0)])) (fun _ kk => XS.lloadN X21.here hx rfl (hb hby at_90) rfl kk) ?_
      refine Go.st (S' := T21.setTop (mkF m 93 #[.val (.long q0), .second, .val (.long q1), .second, .val (.int p2), .val (.int (p2 &&& (3 : Int32))), .val (.long b), .second, .val (.int (1 : Int32)), .val (.int (0 : Int32)), .val (.int (0 : Int32)), .val (.long q0), .second, .unset, .unset, .unset, .unset, .unset] [(.long b), (.long q0)])) (fun _ kk => XS.lload X21.here hx rfl (hb hby at_91) rfl kk) ?_
      obtain ⟨_, _, ⟨T22, L22, k22, n22⟩, -, X22, ⟨Lc22, hQ22, l22, y22, z22⟩, st22⟩ := Jvm.LawKit.callS X21 hx (y := (⟨"java/lang/Math", "min", "(JJ)J"⟩ : MethodName)) hown (mvT hZ (hw _ (List.mem_of_getElem? (i := 25) rfl))) (mvT hZ (hw _ (List.mem_of_getElem? (i := 26) rfl))) (mvT hZ (hw _ (List.mem_of_getElem? (i := 23) rfl))) (mvT hZ (hw _ (List.mem_of_getElem? (i := 27) rfl))) (by decide) (backOf (W := 0) (rmMin l Z az hw [] q0 b  h0 n0 Z0 ) hZ (hw _ (List.mem_of_getElem? (i := 27) rfl)) (hw _ (List.mem_of_getElem? (i := 23) rfl)) (by decide) (by decide)) (g := (mkF m 93 #[.val (.long q0), .second, .val (.long q1), .second, .val (.int p2), .val (.int (p2 &&& (3 : Int32))), .val (.long b), .second, .val (.int (1 : Int32)), .val (.int (0 : Int32)), .val (.int (0 : Int32)), .val (.long q0), .second, .unset, .unset, .unset, .unset, .unset] [(.long b), (.long q0)])) rfl (by rw [hml]; rfl) (argsL := [(.long q0), (.long b)]) (rest := []) (lenOf pd_2 rfl) rfl (by show 2 * 0 + _ ≤ _; exact Nat.le_of_eq rfl) (hb hby at_93) (fun _ _ => ⟨rfl, e21, (by decide : 0 + 0 ≤ _), (by decide : 0 + 0 ≤ _)⟩)
      dsimp only [Pt.U, Pt.locs, Pt.cells, Pt.slots] at X22 l22 y22 z22 st22 hQ22
      subst l22 y22 z22
      obtain ⟨hv22, N22q, e22⟩ := hQ22
      rw [show fMin q0 b = b from by unfold fMin; rw [if_pos hc14]] at hv22
      subst hv22
      have N22 := Fr.app N21 N22q
      refine Go.st (S' := T22.setTop (mkF m 96 #[.val (.long q0), .second, .val (.long q1), .second, .val (.int p2), .val (.int (p2 &&& (3 : Int32))), .val (.long b), .second, .val (.int (1 : Int32)), .val (.int (0 : Int32)), .val (.int (0 : Int32)), .val (.long q0), .second, .unset, .unset, .unset, .unset, .unset] [(.long b)])) st22 ?_
      refine Go.st (S' := T22.setTop (mkF m 98 #[.val (.long q0), .second, .val (.long q1), .second, .val (.int p2), .val (.int (p2 &&& (3 : Int32))), .val (.long b), .second, .val (.int (1 : Int32)), .val (.int (0 : Int32)), .val (.int (0 : Int32)), .val (.long q0), .second, .val (.long b), .second, .unset, .unset, .unset] [])) (fun _ kk => XS.lstore X22.here hx rfl (hb hby at_96) rfl (l' := #[.val (.long q0), .second, .val (.long q1), .second, .val (.int p2), .val (.int (p2 &&& (3 : Int32))), .val (.long b), .second, .val (.int (1 : Int32)), .val (.int (0 : Int32)), .val (.int (0 : Int32)), .val (.long q0), .second, .val (.long b), .second, .unset, .unset, .unset]) rfl kk) ?_
      refine Go.st (S' := T22.setTop (mkF m 100 #[.val (.long q0), .second, .val (.long q1), .second, .val (.int p2), .val (.int (p2 &&& (3 : Int32))), .val (.long b), .second, .val (.int (1 : Int32)), .val (.int (0 : Int32)), .val (.int (0 : Int32)), .val (.long q0), .second, .val (.long b), .second, .unset, .unset, .unset] [(.long q0)])) (fun _ kk => XS.lload X22.here hx rfl (hb hby at_98) rfl kk) ?_
      refine Go.st (S' := T22.setTop (mkF m 101 #[.val (.long q0), .second, .val (.long q1), .second, .val (.int p2), .val (.int (p2 &&& (3 : Int32))), .val (.long b), .second, .val (.int (1 : Int32)), .val (.int (0 : Int32)), .val (.int (0 : Int32)), .val (.long q0), .second, .val (.long b), .second, .unset, .unset, .unset] [(.long q0), (.long q0)])) (fun _ kk => XS.lloadN X22.here hx rfl (hb hby at_100) rfl kk) ?_
      refine Go.st (S' := T22.setTop (mkF m 102 #[.val (.long q0), .second, .val (.long q1), .second, .val (.int p2), .val (.int (p2 &&& (3 : Int32))), .val (.long b), .second, .val (.int (1 : Int32)), .val (.int (0 : Int32)), .val (.int (0 : Int32)), .val (.long q0), .second, .val (.long b), .second, .unset, .unset, .unset] [(.int (lcmpW q0 q0))])) (fun _ kk => XS.lcmp X22.here hx rfl (hb hby at_101) rfl kk) ?_
      refine Go.st (S' := T22.setTop (mkF m 105 #[.val (.long q0), .second, .val (.long q1), .second, .val (.int p2), .val (.int (p2 &&& (3 : Int32))), .val (.long b), .second, .val (.int (1 : Int32)), .val (.int (0 : Int32)), .val (.int (0 : Int32)), .val (.long q0), .second, .val (.long b), .second, .unset, .unset, .unset] [])) (fun _ kk => XS.ifNo X22.here hx rfl (hb hby at_102) rfl ((if0 _ _).trans (teq ((lw_eq q0 q0).mpr (rfl : q0 = q0))).2) kk) ?_
      refine Go.st (S' := T22.setTop (mkF m 106 #[.val (.long q0), .second, .val (.long q1), .second, .val (.int p2), .val (.int (p2 &&& (3 : Int32))), .val (.long b), .second, .val (.int (1 : Int32)), .val (.int (0 : Int32)), .val (.int (0 : Int32)), .val (.long q0), .second, .val (.long b), .second, .unset, .unset, .unset] [(.int (1 : Int32))])) (fun _ kk => XS.iconst X22.here hx rfl (hb hby at_105) kk) ?_
      refine Go.st (S' := T22.setTop (mkF m 110 #[.val (.long q0), .second, .val (.long q1), .second, .val (.int p2), .val (.int (p2 &&& (3 : Int32))), .val (.long b), .second, .val (.int (1 : Int32)), .val (.int (0 : Int32)), .val (.int (0 : Int32)), .val (.long q0), .second, .val (.long b), .second, .unset, .unset, .unset] [(.int (1 : Int32))])) (fun _ kk => XS.goto X22.here hx rfl (pc0 := 106) (pc' := 110) rfl (hb hby at_106) (by decide) (by decide) kk) ?_
      refine Go.st (S' := T22.setTop (mkF m 112 #[.val (.long q0), .second, .val (.long q1), .second, .val (.int p2), .val (.int (p2 &&& (3 : Int32))), .val (.long b), .second, .val (.int (1 : Int32)), .val (.int (0 : Int32)), .val (.int (0 : Int32)), .val (.long q0), .second, .val (.long b), .second, .val (.int (1 : Int32)), .unset, .unset] [])) (fun _ kk => XS.istore X22.here hx rfl (hb hby at_110) rfl (l' := #[.val (.long q0), .second, .val (.long q1), .second, .val (.int p2), .val (.int (p2 &&& (3 : Int32))), .val (.long b), .second, .val (.int (1 : Int32)), .val (.int (0 : Int32)), .val (.int (0 : Int32)), .val (.long q0), .second, .val (.long b), .second, .val (.int (1 : Int32)), .unset, .unset]) rfl kk) ?_
      refine Go.st (S' := T22.setTop (mkF m 114 #[.val (.long q0), .second, .val (.long q1), .second, .val (.int p2), .val (.int (p2 &&& (3 : Int32))), .val (.long b), .second, .val (.int (1 : Int32)), .val (.int (0 : Int32)), .val (.int (0 : Int32)), .val (.long q0), .second, .val (.long b), .second, .val (.int (1 : Int32)), .unset, .unset] [(.long b)])) (fun _ kk => XS.lload X22.here hx rfl (hb hby at_112) rfl kk) ?_
      refine Go.st (S' := T22.setTop (mkF m 115 #[.val (.long q0), .second, .val (.long q1), .second, .val (.int p2), .val (.int (p2 &&& (3 : Int32))), .val (.long b), .second, .val (.int (1 : Int32)), .val (.int (0 : Int32)), .val (.int (0 : Int32)), .val (.long q0), .second, .val (.long b), .second, .val (.int (1 : Int32)), .unset, .unset] [(.long q0), (.long b)])) (fun _ kk => XS.lloadN X22.here hx rfl (hb hby at_114) rfl kk) ?_
      refine Go.st (S' := T22.setTop (mkF m 116 #[.val (.long q0), .second, .val (.long q1), .second, .val (.int p2), .val (.int (p2 &&& (3 : Int32))), .val (.long b), .second, .val (.int (1 : Int32)), .val (.int (0 : Int32)), .val (.int (0 : Int32)), .val (.long q0), .second, .val (.long b), .second, .val (.int (1 : Int32)), .unset, .unset] [(.int (lcmpW b q0))])) (fun _ kk => XS.lcmp X22.here hx rfl (hb hby at_115) rfl kk) ?_
      refine Go.st (S' := T22.setTop (mkF m 123 #[.val (.long q0), .second, .val (.long q1), .second, .val (.int p2), .val (.int (p2 &&& (3 : Int32))), .val (.long b), .second, .val (.int (1 : Int32)), .val (.int (0 : Int32)), .val (.int (0 : Int32)), .val (.long q0), .second, .val (.long b), .second, .val (.int (1 : Int32)), .unset, .unset] [])) (fun _ kk => XS.ifYes X22.here hx rfl (pc0 := 116) (pc' := 123) rfl (hb hby at_116) rfl ((if0 _ _).trans (feq (fun q => (own_ne hc14) ((lw_eq b q0).mp q))).2) (by decide) (by decide) kk) ?_
      refine Go.st (S' := T22.setTop (mkF m 124 #[.val (.long q0), .second, .val (.long q1), .second, .val (.int p2), .val (.int (p2 &&& (3 : Int32))), .val (.long b), .second, .val (.int (1 : Int32)), .val (.int (0 : Int32)), .val (.int (0 : Int32)), .val (.long q0), .second, .val (.long b), .second, .val (.int (1 : Int32)), .unset, .unset] [(.int (0 : Int32))])) (fun _ kk => XS.iconst X22.here hx rfl (hb hby at_123) kk) ?_
      refine Go.st (S' := T22.setTop (mkF m 126 #[.val (.long q0), .second, .val (.long q1), .second, .val (.int p2), .val (.int (p2 &&& (3 : Int32))), .val (.long b), .second, .val (.int (1 : Int32)), .val (.int (0 : Int32)), .val (.int (0 : Int32)), .val (.long q0), .second, .val (.long b), .second, .val (.int (1 : Int32)), .val (.int (0 : Int32)), .unset] [])) (fun _ kk => XS.istore X22.here hx rfl (hb hby at_124) rfl (l' := #[.val (.long q0), .second, .val (.long q1), .second, .val (.int p2), .val (.int (p2 &&& (3 : Int32))), .val (.long b), .second, .val (.int (1 : Int32)), .val (.int (0 : Int32)), .val (.int (0 : Int32)), .val (.long q0), .second, .val (.long b), .second, .val (.int (1 : Int32)), .val (.int (0 : Int32)), .unset]) rfl kk) ?_
      refine Go.st (S' := T22.setTop (mkF m 128 #[.val (.long q0), .second, .val (.long q1), .second, .val (.int p2), .val (.int (p2 &&& (3 : Int32))), .val (.long b), .second, .val (.int (1 : Int32)), .val (.int (0 : Int32)), .val (.int (0 : Int32)), .val (.long q0), .second, .val (.long b), .second, .val (.int (1 : Int32)), .val (.int (0 : Int32)), .unset] [(.long q0)])) (fun _ kk => XS.lload X22.here hx rfl (hb hby at_126) rfl kk) ?_
      refine Go.st (S' := T22.setTop (mkF m 130 #[.val (.long q0), .second, .val (.long q1), .second, .val (.int p2), .val (.int (p2 &&& (3 : Int32))), .val (.long b), .second, .val (.int (1 : Int32)), .val (.int (0 : Int32)), .val (.int (0 : Int32)), .val (.long q0), .second, .val (.long b), .second, .val (.int (1 : Int32)), .val (.int (0 : Int32)), .unset] [(.long b), (.long q0)])) (fun _ kk => XS.lload X22.here hx rfl (hb hby at_128) rfl kk) ?_
      refine Go.st (S' := T22.setTop (mkF m 131 #[.val (.long q0), .second, .val (.long q1), .second, .val (.int p2), .val (.int (p2 &&& (3 : Int32))), .val (.long b), .second, .val (.int (1 : Int32)), .val (.int (0 : Int32)), .val (.int (0 : Int32)), .val (.long q0), .second, .val (.long b), .second, .val (.int (1 : Int32)), .val (.int (0 : Int32)), .unset] [(.int (lcmpW q0 b))])) (fun _ kk => XS.lcmp X22.here hx rfl (hb hby at_130) rfl kk) ?_
      refine Go.st (S' := T22.setTop (mkF m 138 #[.val (.long q0), .second, .val (.long q1), .second, .val (.int p2), .val (.int (p2 &&& (3 : Int32))), .val (.long b), .second, .val (.int (1 : Int32)), .val (.int (0 : Int32)), .val (.int (0 : Int32)), .val (.long q0), .second, .val (.long b), .second, .val (.int (1 : Int32)), .val (.int (0 : Int32)), .unset] [])) (fun _ kk => XS.ifYes X22.here hx rfl (pc0 := 131) (pc' := 138) rfl (hb hby at_131) rfl ((if0 _ _).trans (feq (fun q => (own_ne' hc14) ((lw_eq q0 b).mp q))).2) (by decide) (by decide) kk) ?_
      refine Go.st (S' := T22.setTop (mkF m 139 #[.val (.long q0), .second, .val (.long q1), .second, .val (.int p2), .val (.int (p2 &&& (3 : Int32))), .val (.long b), .second, .val (.int (1 : Int32)), .val (.int (0 : Int32)), .val (.int (0 : Int32)), .val (.long q0), .second, .val (.long b), .second, .val (.int (1 : Int32)), .val (.int (0 : Int32)), .unset] [(.int (0 : Int32))])) (fun _ kk => XS.iconst X22.here hx rfl (hb hby at_138) kk) ?_
      refine Go.st (S' := T22.setTop (mkF m 141 #[.val (.long q0), .second, .val (.long q1), .second, .val (.int p2), .val (.int (p2 &&& (3 : Int32))), .val (.long b), .second, .val (.int (1 : Int32)), .val (.int (0 : Int32)), .val (.int (0 : Int32)), .val (.long q0), .second, .val (.long b), .second, .val (.int (1 : Int32)), .val (.int (0 : Int32)), .val (.int (0 : Int32))] [])) (fun _ kk => XS.istore X22.here hx rfl (hb hby at_139) rfl (l' := #[.val (.long q0), .second, .val (.long q1), .second, .val (.int p2), .val (.int (p2 &&& (3 : Int32))), .val (.long b), .second, .val (.int (1 : Int32)), .val (.int (0 : Int32)), .val (.int (0 : Int32)), .val (.long q0), .second, .val (.long b), .second, .val (.int (1 : Int32)), .val (.int (0 : Int32)), .val (.int (0 : Int32))]) rfl kk) ?_
      refine Go.st (S' := T22.setTop (mkF m 143 #[.val (.long q0), .second, .val (.long q1), .second, .val (.int p2), .val (.int (p2 &&& (3 : Int32))), .val (.long b), .second, .val (.int (1 : Int32)), .val (.int (0 : Int32)), .val (.int (0 : Int32)), .val (.long q0), .second, .val (.long b), .second, .val (.int (1 : Int32)), .val (.int (0 : Int32)), .val (.int (0 : Int32))] [(.int (1 : Int32))])) (fun _ kk => XS.iload X22.here hx rfl (hb hby at_141) rfl kk) ?_
      refine Go.st (S' := T22.setTop (mkF m 145 #[.val (.long q0), .second, .val (.long q1), .second, .val (.int p2), .val (.int (p2 &&& (3 : Int32))), .val (.long b), .second, .val (.int (1 : Int32)), .val (.int (0 : Int32)), .val (.int (0 : Int32)), .val (.long q0), .second, .val (.long b), .second, .val (.int (1 : Int32)), .val (.int (0 : Int32)), .val (.int (0 : Int32))] [(.int (1 : Int32)), (.int (1 : Int32))])) (fun _ kk => XS.iload X22.here hx rfl (hb hby at_143) rfl kk) ?_
      refine Go.st (S' := T22.setTop (mkF m 148 #[.val (.long q0), .second, .val (.long q1), .second, .val (.int p2), .val (.int (p2 &&& (3 : Int32))), .val (.long b), .second, .val (.int (1 : Int32)), .val (.int (0 : Int32)), .val (.int (0 : Int32)), .val (.long q0), .second, .val (.long b), .second, .val (.int (1 : Int32)), .val (.int (0 : Int32)), .val (.int (0 : Int32))] [])) (fun _ kk => XS.icmpNo X22.here hx rfl (hb hby at_145) rfl (teq (by decide : (1 : Int32) = (1 : Int32))).2 kk) ?_
      refine Go.st (S' := T22.setTop (mkF m 150 #[.val (.long q0), .second, .val (.long q1), .second, .val (.int p2), .val (.int (p2 &&& (3 : Int32))), .val (.long b), .second, .val (.int (1 : Int32)), .val (.int (0 : Int32)), .val (.int (0 : Int32)), .val (.long q0), .second, .val (.long b), .second, .val (.int (1 : Int32)), .val (.int (0 : Int32)), .val (.int (0 : Int32))] [(.int (0 : Int32))])) (fun _ kk => XS.iload X22.here hx rfl (hb hby at_148) rfl kk) ?_
      refine Go.st (S' := T22.setTop (mkF m 152 #[.val (.long q0), .second, .val (.long q1), .second, .val (.int p2), .val (.int (p2 &&& (3 : Int32))), .val (.long b), .second, .val (.int (1 : Int32)), .val (.int (0 : Int32)), .val (.int (0 : Int32)), .val (.long q0), .second, .val (.long b), .second, .val (.int (1 : Int32)), .val (.int (0 : Int32)), .val (.int (0 : Int32))] [(.int (0 : Int32)), (.int (0 : Int32))])) (fun _ kk => XS.iload X22.here hx rfl (hb hby at_150) rfl kk) ?_
      refine Go.st (S' := T22.setTop (mkF m 155 #[.val (.long q0), .second, .val (.long q1), .second, .val (.int p2), .val (.int (p2 &&& (3 : Int32))), .val (.long b), .second, .val (.int (1 : Int32)), .val (.int (0 : Int32)), .val (.int (0 : Int32)), .val (.long q0), .second, .val (.long b), .second, .val (.int (1 : Int32)), .val (.int (0 : Int32)), .val (.int (0 : Int32))] [])) (fun _ kk => XS.icmpNo X22.here hx rfl (hb hby at_152) rfl (teq (by decide : (0 : Int32) = (0 : Int32))).2 kk) ?_
      refine Go.st (S' := T22.setTop (mkF m 157 #[.val (.long q0), .second, .val (.long q1), .second, .val (.int p2), .val (.int (p2 &&& (3 : Int32))), .val (.long b), .second, .val (.int (1 : Int32)), .val (.int (0 : Int32)), .val (.int (0 : Int32)), .val (.long q0), .second, .val (.long b), .second, .val (.int (1 : Int32)), .val (.int (0 : Int32)), .val (.int (0 : Int32))] [(.int (0 : Int32))])) (fun _ kk => XS.iload X22.here hx rfl (hb hby at_155) rfl kk) ?_
      refine Go.st (S' := T22.setTop (mkF m 159 #[.val (.long q0), .second, .val (.long q1), .second, .val (.int p2), .val (.int (p2 &&& (3 : Int32))), .val (.long b), .second, .val (.int (1 : Int32)), .val (.int (0 : Int32)), .val (.int (0 : Int32)), .val (.long q0), .second, .val (.long b), .second, .val (.int (1 : Int32)), .val (.int (0 : Int32)), .val (.int (0 : Int32))] [(.int (0 : Int32)), (.int (0 : Int32))])) (fun _ kk => XS.iload X22.here hx rfl (hb hby at_157) rfl kk) ?_
      refine Go.st (S' := T22.setTop (mkF m 162 #[.val (.long q0), .second, .val (.long q1), .second, .val (.int p2), .val (.int (p2 &&& (3 : Int32))), .val (.long b), .second, .val (.int (1 : Int32)), .val (.int (0 : Int32)), .val (.int (0 : Int32)), .val (.long q0), .second, .val (.long b), .second, .val (.int (1 : Int32)), .val (.int (0 : Int32)), .val (.int (0 : Int32))] [])) (fun _ kk => XS.icmpNo X22.here hx rfl (hb hby at_159) rfl (teq (by decide : (0 : Int32) = (0 : Int32))).2 kk) ?_
      refine Go.st (S' := T22.setTop (mkF m 163 #[.val (.long q0), .second, .val (.long q1), .second, .val (.int p2), .val (.int (p2 &&& (3 : Int32))), .val (.long b), .second, .val (.int (1 : Int32)), .val (.int (0 : Int32)), .val (.int (0 : Int32)), .val (.long q0), .second, .val (.long b), .second, .val (.int (1 : Int32)), .val (.int (0 : Int32)), .val (.int (0 : Int32))] [(.int (1 : Int32))])) (fun _ kk => XS.iconst X22.here hx rfl (hb hby at_162) kk) ?_
      refine Go.st (S' := T22.setTop (mkF m 167 #[.val (.long q0), .second, .val (.long q1), .second, .val (.int p2), .val (.int (p2 &&& (3 : Int32))), .val (.long b), .second, .val (.int (1 : Int32)), .val (.int (0 : Int32)), .val (.int (0 : Int32)), .val (.long q0), .second, .val (.long b), .second, .val (.int (1 : Int32)), .val (.int (0 : Int32)), .val (.int (0 : Int32))] [(.int (1 : Int32))])) (fun _ kk => XS.goto X22.here hx rfl (pc0 := 163) (pc' := 167) rfl (hb hby at_163) (by decide) (by decide) kk) ?_
      exact Go.retN X22 hx hlk (t := .boolean) Bd.returns (by simp) (hb hby at_167) (⟨rfl, N22⟩) (by decide) (by decide)
    · obtain ⟨T23, X23, e23, st23⟩ := getS2 X0 hx hZ hown (host := "") (Or.inl (hw _ (List.mem_of_getElem? (i := 0) rfl))) Via.refl e0 S_AT_LEAST (g := (mkF m 49 #[.val (.long q0), .second, .val (.long q1), .second, .val (.int p2), .val (.int (p2 &&& (3 : Int32))), .val (.long b), .second, .unset, .unset, .unset, .unset, .unset, .unset, .unset, .unset, .unset, .unset] [])) rfl (hb hby at_49)
      refine Go.st (S' := T23.setTop (mkF m 52 #[.val (.long q0), .second, .val (.long q1), .second, .val (.int p2), .val (.int (p2 &&& (3 : Int32))), .val (.long b), .second, .unset, .unset, .unset, .unset, .unset, .unset, .unset, .unset, .unset, .unset] [(.ref s0)])) st23 ?_
      refine Go.st (S' := T23.setTop (mkF m 53 #[.val (.long q0), .second, .val (.long q1), .second, .val (.int p2), .val (.int (p2 &&& (3 : Int32))), .val (.long b), .second, .unset, .unset, .unset, .unset, .unset, .unset, .unset, .unset, .unset, .unset] [(.long q0), (.ref s0)])) (fun _ kk => XS.lloadN X23.here hx rfl (hb hby at_52) rfl kk) ?_
      refine Go.st (S' := T23.setTop (mkF m 55 #[.val (.long q0), .second, .val (.long q1), .second, .val (.int p2), .val (.int (p2 &&& (3 : Int32))), .val (.long b), .second, .unset, .unset, .unset, .unset, .unset, .unset, .unset, .unset, .unset, .unset] [(.long b), (.long q0), (.ref s0)])) (fun _ kk => XS.lload X23.here hx rfl (hb hby at_53) rfl kk) ?_
      obtain ⟨cq24, kq24, q24a, q24b, q24c⟩ := isOf hZ e23 E_s0
      obtain ⟨_, _, ⟨T24, L24, k24, n24⟩, -, X24, ⟨Lc24, hQ24, l24, y24, z24⟩, st24⟩ := X23.virtualBack hx (y := (⟨"com/example/patient_snoop/patientsnoop/model/Relation", "holds", "(JJ)Z"⟩ : MethodName)) (z := (⟨"com/example/patient_snoop/patientsnoop/model/Relation", "holds", "(JJ)Z"⟩ : MethodName)) hown (mvT hZ (hw _ (List.mem_of_getElem? (i := 3) rfl))) (mvT hZ (hw _ (List.mem_of_getElem? (i := 4) rfl))) (notFace_of_selects (args := #[]) (mvT hZ (hw _ (List.mem_of_getElem? (i := 6) rfl)))) (mvT hZ (hw _ (List.mem_of_getElem? (i := 6) rfl))) (mvT hZ (hw _ (List.mem_of_getElem? (i := 5) rfl))) (by decide) (backOf (W := 0) (rmH0 l Z az hw [] s0 q0 b  h0 n0 Z0 F_s0 E_s0) hZ (hw _ (List.mem_of_getElem? (i := 7) rfl)) (hw _ (List.mem_of_getElem? (i := 1) rfl)) (by decide) (by decide)) q24a q24c (g := (mkF m 55 #[.val (.long q0), .second, .val (.long q1), .second, .val (.int p2), .val (.int (p2 &&& (3 : Int32))), .val (.long b), .second, .unset, .unset, .unset, .unset, .unset, .unset, .unset, .unset, .unset, .unset] [(.long b), (.long q0), (.ref s0)])) rfl (by rw [hml]; rfl) (Steps.refl _) (argsL := [(.long q0), (.long b)]) (rest := []) (lenOf pd_0 rfl) rfl (by show 2 * 0 + _ ≤ _; exact Nat.le_of_eq rfl) (hb hby at_55) (fun _ _ => ⟨rfl, e23, (by decide : 0 + 0 ≤ _), (by decide : 0 + 0 ≤ _)⟩)
      dsimp only [Pt.U, Pt.locs, Pt.cells, Pt.slots] at X24 l24 y24 z24 st24 hQ24
      subst l24 y24 z24
      obtain ⟨hv24, N24q, e24⟩ := hQ24
      rw [show fH0 q0 b = (1 : Int32) from by unfold fH0; rw [if_neg hc5]] at hv24
      subst hv24
      have N24 := Fr.app N0 N24q
      refine Go.tr (S' := T24.setTop (mkF m 58 #[.val (.long q0), .second, .val (.long q1), .second, .val (.int p2), .val (.int (p2 &&& (3 : Int32))), .val (.long b), .second, .unset, .unset, .unset, .unset, .unset, .unset, .unset, .unset, .unset, .unset] [(.int (1 : Int32))])) st24 ?_
      refine Go.st (S' := T24.setTop (mkF m 60 #[.val (.long q0), .second, .val (.long q1), .second, .val (.int p2), .val (.int (p2 &&& (3 : Int32))), .val (.long b), .second, .val (.int (1 : Int32)), .unset, .unset, .unset, .unset, .unset, .unset, .unset, .unset, .unset] [])) (fun _ kk => XS.istore X24.here hx rfl (hb hby at_58) rfl (l' := #[.val (.long q0), .second, .val (.long q1), .second, .val (.int p2), .val (.int (p2 &&& (3 : Int32))), .val (.long b), .second, .val (.int (1 : Int32)), .unset, .unset, .unset, .unset, .unset, .unset, .unset, .unset, .unset]) rfl kk) ?_
      obtain ⟨T25, X25, e25, st25⟩ := getS2 X24 hx hZ hown (host := "") (Or.inl (hw _ (List.mem_of_getElem? (i := 17) rfl))) Via.refl e24 S_AT_MOST (g := (mkF m 60 #[.val (.long q0), .second, .val (.long q1), .second, .val (.int p2), .val (.int (p2 &&& (3 : Int32))), .val (.long b), .second, .val (.int (1 : Int32)), .unset, .unset, .unset, .unset, .unset, .unset, .unset, .unset, .unset] [])) rfl (hb hby at_60)
      refine Go.st (S' := T25.setTop (mkF m 63 #[.val (.long q0), .second, .val (.long q1), .second, .val (.int p2), .val (.int (p2 &&& (3 : Int32))), .val (.long b), .second, .val (.int (1 : Int32)), .unset, .unset, .unset, .unset, .unset, .unset, .unset, .unset, .unset] [(.ref s1)])) st25 ?_
      refine Go.st (S' := T25.setTop (mkF m 64 #[.val (.long q0), .second, .val (.long q1), .second, .val (.int p2), .val (.int (p2 &&& (3 : Int32))), .val (.long b), .second, .val (.int (1 : Int32)), .unset, .unset, .unset, .unset, .unset, .unset, .unset, .unset, .unset] [(.long q0), (.ref s1)])) (fun _ kk => XS.lloadN X25.here hx rfl (hb hby at_63) rfl kk) ?_
      refine Go.st (S' := T25.setTop (mkF m 66 #[.val (.long q0), .second, .val (.long q1), .second, .val (.int p2), .val (.int (p2 &&& (3 : Int32))), .val (.long b), .second, .val (.int (1 : Int32)), .unset, .unset, .unset, .unset, .unset, .unset, .unset, .unset, .unset] [(.long b), (.long q0), (.ref s1)])) (fun _ kk => XS.lload X25.here hx rfl (hb hby at_64) rfl kk) ?_
      obtain ⟨cq26, kq26, q26a, q26b, q26c⟩ := isOf hZ e25 E_s1
      obtain ⟨_, _, ⟨T26, L26, k26, n26⟩, -, X26, ⟨Lc26, hQ26, l26, y26, z26⟩, st26⟩ := X25.virtualBack hx (y := (⟨"com/example/patient_snoop/patientsnoop/model/Relation", "holds", "(JJ)Z"⟩ : MethodName)) (z := (⟨"com/example/patient_snoop/patientsnoop/model/Relation", "holds", "(JJ)Z"⟩ : MethodName)) hown (mvT hZ (hw _ (List.mem_of_getElem? (i := 3) rfl))) (mvT hZ (hw _ (List.mem_of_getElem? (i := 4) rfl))) (notFace_of_selects (args := #[]) (mvT hZ (hw _ (List.mem_of_getElem? (i := 6) rfl)))) (mvT hZ (hw _ (List.mem_of_getElem? (i := 6) rfl))) (mvT hZ (hw _ (List.mem_of_getElem? (i := 5) rfl))) (by decide) (backOf (W := 0) (rmH1 l Z az hw [] s1 q0 b  h0 n0 Z0 F_s1 E_s1) hZ (hw _ (List.mem_of_getElem? (i := 7) rfl)) (hw _ (List.mem_of_getElem? (i := 1) rfl)) (by decide) (by decide)) q26a q26c (g := (mkF m 66 #[.val (.long q0), .second, .val (.long q1), .second, .val (.int p2), .val (.int (p2 &&& (3 : Int32))), .val (.long b), .second, .val (.int (1 : Int32)), .unset, .unset, .unset, .unset, .unset, .unset, .unset, .unset, .unset] [(.long b), (.long q0), (.ref s1)])) rfl (by rw [hml]; rfl) (Steps.refl _) (argsL := [(.long q0), (.long b)]) (rest := []) (lenOf pd_0 rfl) rfl (by show 2 * 0 + _ ≤ _; exact Nat.le_of_eq rfl) (hb hby at_66) (fun _ _ => ⟨rfl, e25, (by decide : 0 + 0 ≤ _), (by decide : 0 + 0 ≤ _)⟩)
      dsimp only [Pt.U, Pt.locs, Pt.cells, Pt.slots] at X26 l26 y26 z26 st26 hQ26
      subst l26 y26 z26
      obtain ⟨hv26, N26q, e26⟩ := hQ26
      rw [show fH1 q0 b = (1 : Int32) from by unfold fH1; rw [if_neg hc14]] at hv26
      subst hv26
      have N26 := Fr.app N24 N26q
      refine Go.tr (S' := T26.setTop (mkF m 69 #[.val (.long q0), .second, .val (.long q1), .second, .val (.int p2), .val (.int (p2 &&& (3 : Int32))), .val (.long b), .second, .val (.int (1 : Int32)), .unset, .unset, .unset, .unset, .unset, .unset, .unset, .unset, .unset] [(.int (1 : Int32))])) st26 ?_
      refine Go.st (S' := T26.setTop (mkF m 71 #[.val (.long q0), .second, .val (.long q1), .second, .val (.int p2), .val (.int (p2 &&& (3 : Int32))), .val (.long b), .second, .val (.int (1 : Int32)), .val (.int (1 : Int32)), .unset, .unset, .unset, .unset, .unset, .unset, .unset, .unset] [])) (fun _ kk => XS.istore X26.here hx rfl (hb hby at_69) rfl (l' := #[.val (.long q0), .second, .val (.long q1), .second, .val (.int p2), .val (.int (p2 &&& (3 : Int32))), .val (.long b), .second, .val (.int (1 : Int32)), .val (.int (1 : Int32)), .unset, .unset, .unset, .unset, .unset, .unset, .unset, .unset]) rfl kk) ?_
      obtain ⟨T27, X27, e27, st27⟩ := getS2 X26 hx hZ hown (host := "") (Or.inl (hw _ (List.mem_of_getElem? (i := 19) rfl))) Via.refl e26 S_EQUAL (g := (mkF m 71 #[.val (.long q0), .second, .val (.long q1), .second, .val (.int p2), .val (.int (p2 &&& (3 : Int32))), .val (.long b), .second, .val (.int (1 : Int32)), .val (.int (1 : Int32)), .unset, .unset, .unset, .unset, .unset, .unset, .unset, .unset] [])) rfl (hb hby at_71)
      refine Go.st (S' := T27.setTop (mkF m 74 #[.val (.long q0), .second, .val (.long q1), .second, .val (.int p2), .val (.int (p2 &&& (3 : Int32))), .val (.long b), .second, .val (.int (1 : Int32)), .val (.int (1 : Int32)), .unset, .unset, .unset, .unset, .unset, .unset, .unset, .unset] [(.ref s2)])) st27 ?_
      refine Go.st (S' := T27.setTop (mkF m 75 #[.val (.long q0), .second, .val (.long q1), .second, .val (.int p2), .val (.int (p2 &&& (3 : Int32))), .val (.long b), .second, .val (.int (1 : Int32)), .val (.int (1 : Int32)), .unset, .unset, .unset, .unset, .unset, .unset, .unset, .unset] [(.long q0), (.ref s2)])) (fun _ kk => XS.lloadN X27.here hx rfl (hb hby at_74) rfl kk) ?_
      refine Go.st (S' := T27.setTop (mkF m 77 #[.val (.long q0), .second, .val (.long q1), .second, .val (.int p2), .val (.int (p2 &&& (3 : Int32))), .val (.long b), .second, .val (.int (1 : Int32)), .val (.int (1 : Int32)), .unset, .unset, .unset, .unset, .unset, .unset, .unset, .unset] [(.long b), (.long q0), (.ref s2)])) (fun _ kk => XS.lload X27.here hx rfl (hb hby at_75) rfl kk) ?_
      obtain ⟨cq28, kq28, q28a, q28b, q28c⟩ := isOf hZ e27 E_s2
      obtain ⟨_, _, ⟨T28, L28, k28, n28⟩, -, X28, ⟨Lc28, hQ28, l28, y28, z28⟩, st28⟩ := X27.virtualBack hx (y := (⟨"com/example/patient_snoop/patientsnoop/model/Relation", "holds", "(JJ)Z"⟩ : MethodName)) (z := (⟨"com/example/patient_snoop/patientsnoop/model/Relation", "holds", "(JJ)Z"⟩ : MethodName)) hown (mvT hZ (hw _ (List.mem_of_getElem? (i := 3) rfl))) (mvT hZ (hw _ (List.mem_of_getElem? (i := 4) rfl))) (notFace_of_selects (args := #[]) (mvT hZ (hw _ (List.mem_of_getElem? (i := 6) rfl)))) (mvT hZ (hw _ (List.mem_of_getElem? (i := 6) rfl))) (mvT hZ (hw _ (List.mem_of_getElem? (i := 5) rfl))) (by decide) (backOf (W := 0) (rmH2 l Z az hw [] s2 q0 b  h0 n0 Z0 F_s2 E_s2) hZ (hw _ (List.mem_of_getElem? (i := 7) rfl)) (hw _ (List.mem_of_getElem? (i := 1) rfl)) (by decide) (by decide)) q28a q28c (g := (mkF m 77 #[.val (.long q0), .second, .val (.long q1), .second, .val (.int p2), .val (.int (p2 &&& (3 : Int32))), .val (.long b), .second, .val (.int (1 : Int32)), .val (.int (1 : Int32)), .unset, .unset, .unset, .unset, .unset, .unset, .unset, .unset] [(.long b), (.long q0), (.ref s2)])) rfl (by rw [hml]; rfl) (Steps.refl _) (argsL := [(.long q0), (.long b)]) (rest := []) (lenOf pd_0 rfl) rfl (by show 2 * 0 + _ ≤ _; exact Nat.le_of_eq rfl) (hb hby at_77) (fun _ _ => ⟨rfl, e27, (by decide : 0 + 0 ≤ _), (by decide : 0 + 0 ≤ _)⟩)
      dsimp only [Pt.U, Pt.locs, Pt.cells, Pt.slots] at X28 l28 y28 z28 st28 hQ28
      subst l28 y28 z28
      obtain ⟨hv28, N28q, e28⟩ := hQ28
      rw [show fH2 q0 b = (1 : Int32) from by unfold fH2; rw [if_pos (own_eq hc5 hc14)]] at hv28
      subst hv28
      have N28 := Fr.app N26 N28q
      refine Go.tr (S' := T28.setTop (mkF m 80 #[.val (.long q0), .second, .val (.long q1), .second, .val (.int p2), .val (.int (p2 &&& (3 : Int32))), .val (.long b), .second, .val (.int (1 : Int32)), .val (.int (1 : Int32)), .unset, .unset, .unset, .unset, .unset, .unset, .unset, .unset] [(.int (1 : Int32))])) st28 ?_
      refine Go.st (S' := T28.setTop (mkF m 82 #[.val (.long q0), .second, .val (.long q1), .second, .val (.int p2), .val (.int (p2 &&& (3 : Int32))), .val (.long b), .second, .val (.int (1 : Int32)), .val (.int (1 : Int32)), .val (.int (1 : Int32)), .unset, .unset, .unset, .unset, .unset, .unset, .unset] [])) (fun _ kk => XS.istore X28.here hx rfl (hb hby at_80) rfl (l' := #[.val (.long q0), .second, .val (.long q1), .second, .val (.int p2), .val (.int (p2 &&& (3 : Int32))), .val (.long b), .second, .val (.int (1 : Int32)), .val (.int (1 : Int32)), .val (.int (1 : Int32)), .unset, .unset, .unset, .unset, .unset, .unset, .unset]) rfl kk) ?_
      refine Go.st (S' := T28.setTop (mkF m 83 #[.val (.long q0), .second, .val (.long q1), .second, .val (.int p2), .val (.int (p2 &&& (3 : Int32))), .val (.long b), .second, .val (.int (1 : Int32)), .val (.int (1 : Int32)), .val (.int (1 : Int32)), .unset, .unset, .unset, .unset, .unset, .unset, .unset] [(.long q0)])) (fun _ kk => XS.lloadN X28.here hx rfl (hb hby at_82) rfl kk) ?_
      refine Go.st (S' := T28.setTop (mkF m 85 #[.val (.long q0), .second, .val (.long q1), .second, .val (.int p2), .val (.int (p2 &&& (3 : Int32))), .val (.long b), .second, .val (.int (1 : Int32)), .val (.int (1 : Int32)), .val (.int (1 : Int32)), .unset, .unset, .unset, .unset, .unset, .unset, .unset] [(.long b), (.long q0)])) (fun _ kk => XS.lload X28.here hx rfl (hb hby at_83) rfl kk) ?_
      obtain ⟨_, _, ⟨T29, L29, k29, n29⟩, -, X29, ⟨Lc29, hQ29, l29, y29, z29⟩, st29⟩ := Jvm.LawKit.callS X28 hx (y := (⟨"java/lang/Math", "max", "(JJ)J"⟩ : MethodName)) hown (mvT hZ (hw _ (List.mem_of_getElem? (i := 21) rfl))) (mvT hZ (hw _ (List.mem_of_getElem? (i := 22) rfl))) (mvT hZ (hw _ (List.mem_of_getElem? (i := 23) rfl))) (mvT hZ (hw _ (List.mem_of_getElem? (i := 24) rfl))) (by decide) (backOf (W := 0) (rmMax l Z az hw [] q0 b  h0 n0 Z0 ) hZ (hw _ (List.mem_of_getElem? (i := 24) rfl)) (hw _ (List.mem_of_getElem? (i := 23) rfl)) (by decide) (by decide)) (g := (mkF m 85 #[.val (.long q0), .second, .val (.long q1), .second, .val (.int p2), .val (.int (p2 &&& (3 : Int32))), .val (.long b), .second, .val (.int (1 : Int32)), .val (.int (1 : Int32)), .val (.int (1 : Int32)), .unset, .unset, .unset, .unset, .unset, .unset, .unset] [(.long b), (.long q0)])) rfl (by rw [hml]; rfl) (argsL := [(.long q0), (.long b)]) (rest := []) (lenOf pd_2 rfl) rfl (by show 2 * 0 + _ ≤ _; exact Nat.le_of_eq rfl) (hb hby at_85) (fun _ _ => ⟨rfl, e28, (by decide : 0 + 0 ≤ _), (by decide : 0 + 0 ≤ _)⟩)
      dsimp only [Pt.U, Pt.locs, Pt.cells, Pt.slots] at X29 l29 y29 z29 st29 hQ29
      subst l29 y29 z29
      obtain ⟨hv29, N29q, e29⟩ := hQ29
      rw [show fMax q0 b = q0 from by unfold fMax; rw [if_neg hc5]] at hv29
      subst hv29
      have N29 := Fr.app N28 N29q
      refine Go.st (S' := T29.setTop (mkF m 88 #[.val (.long q0), .second, .val (.long q1), .second, .val (.int p2), .val (.int (p2 &&& (3 : Int32))), .val (.long b), .second, .val (.int (1 : Int32)), .val (.int (1 : Int32)), .val (.int (1 : Int32)), .unset, .unset, .unset, .unset, .unset, .unset, .unset] [(.long q0)])) st29 ?_
      refine Go.st (S' := T29.setTop (mkF m 90 #[.val (.long q0), .second, .val (.long q1), .second, .val (.int p2), .val (.int (p2 &&& (3 : Int32))), .val (.long b), .second, .val (.int (1 : Int32)), .val (.int (1 : Int32)), .val (.int (1 : Int32)), .val (.long q0), .second, .unset, .unset, .unset, .unset, .unset] [])) (fun _ kk => XS.lstore X29.here hx rfl (hb hby at_88) rfl (l' := #[.val (.long q0), .second, .val (.long q1), .second, .val (.int p2), .val (.int (p2 &&& (3 : Int32))), .val (.long b), .second, .val (.int (1 : Int32)), .val (.int (1 : Int32)), .val (.int (1 : Int32)), .val (.long q0), .second, .unset, .unset, .unset, .unset, .unset]) rfl kk) ?_
      refine Go.st (S' := T29.setTop (mkF m 91 #[.val (.long q0), .second, .val (.long q1), .second, .val (.int p2), .val (.int (p2 &&& (3 : Int32))), .val (.long b), .second, .val (.int (1 : Int32)), .val (.int (1 : Int32)), .val (.int (1 : Int32)), .val (.long q0), .second, .unset, .unset, .unset, .unset, .unset] [(.long q0)])) (fun _ kk => XS.lloadN X29.here hx rfl (hb hby at_90) rfl kk) ?_
      refine Go.st (S' := T29.setTop (mkF m 93 #[.val (.long q0), .second, .val (.long q1), .second, .val (.int p2), .val (.int (p2 &&& (3 : Int32))), .val (.long b), .second, .val (.int (1 : Int32)), .val (.int (1 : Int32)), .val (.int (1 : Int32)), .val (.long q0), .second, .unset, .unset, .unset, .unset, .unset] [(.long b), (.long q0)])) (fun _ kk => XS.lload X29.here hx rfl (hb hby at_91) rfl kk) ?_
      obtain ⟨_, _, ⟨T30, L30, k30, n30⟩, -, X30, ⟨Lc30, hQ30, l30, y30, z30⟩, st30⟩ := Jvm.LawKit.callS X29 hx (y := (⟨"java/lang/Math", "min", "(JJ)J"⟩ : MethodName)) hown (mvT hZ (hw _ (List.mem_of_getElem? (i := 25) rfl))) (mvT hZ (hw _ (List.mem_of_getElem? (i := 26) rfl))) (mvT hZ (hw _ (List.mem_of_getElem? (i := 23) rfl))) (mvT hZ (hw _ (List.mem_of_getElem? (i := 27) rfl))) (by decide) (backOf (W := 0) (rmMin l Z az hw [] q0 b  h0 n0 Z0 ) hZ (hw _ (List.mem_of_getElem? (i := 27) rfl)) (hw _ (List.mem_of_getElem? (i := 23) rfl)) (by decide) (by decide)) (g := (mkF m 93 #[.val (.long q0), .second, .val (.long q1), .second, .val (.int p2), .val (.int (p2 &&& (3 : Int32))), .val (.long b), .second, .val (.int (1 : Int32)), .val (.int (1 : Int32)), .val (.int (1 : Int32)), .val (.long q0), .second, .unset, .unset, .unset, .unset, .unset] [(.long b), (.long q0)])) rfl (by rw [hml]; rfl) (argsL := [(.long q0), (.long b)]) (rest := []) (lenOf pd_2 rfl) rfl (by show 2 * 0 + _ ≤ _; exact Nat.le_of_eq rfl) (hb hby at_93) (fun _ _ => ⟨rfl, e29, (by decide : 0 + 0 ≤ _), (by decide : 0 + 0 ≤ _)⟩)
      dsimp only [Pt.U, Pt.locs, Pt.cells, Pt.slots] at X30 l30 y30 z30 st30 hQ30
      subst l30 y30 z30
      obtain ⟨hv30, N30q, e30⟩ := hQ30
      rw [show fMin q0 b = q0 from by unfold fMin; rw [if_neg hc14]] at hv30
      subst hv30
      have N30 := Fr.app N29 N30q
      refine Go.st (S' := T30.setTop (mkF m 96 #[.val (.long q0), .second, .val (.long q1), .second, .val (.int p2), .val (.int (p2 &&& (3 : Int32))), .val (.long b), .second, .val (.int (1 : Int32)), .val (.int (1 : Int32)), .val (.int (1 : Int32)), .val (.long q0), .second, .unset, .unset, .unset, .unset, .unset] [(.long q0)])) st30 ?_
      refine Go.st (S' := T30.setTop (mkF m 98 #[.val (.long q0), .second, .val (.long q1), .second, .val (.int p2), .val (.int (p2 &&& (3 : Int32))), .val (.long b), .second, .val (.int (1 : Int32)), .val (.int (1 : Int32)), .val (.int (1 : Int32)), .val (.long q0), .second, .val (.long q0), .second, .unset, .unset, .unset] [])) (fun _ kk => XS.lstore X30.here hx rfl (hb hby at_96) rfl (l' := #[.val (.long q0), .second, .val (.long q1), .second, .val (.int p2), .val (.int (p2 &&& (3 : Int32))), .val (.long b), .second, .val (.int (1 : Int32)), .val (.int (1 : Int32)), .val (.int (1 : Int32)), .val (.long q0), .second, .val (.long q0), .second, .unset, .unset, .unset]) rfl kk) ?_
      refine Go.st (S' := T30.setTop (mkF m 100 #[.val (.long q0), .second, .val (.long q1), .second, .val (.int p2), .val (.int (p2 &&& (3 : Int32))), .val (.long b), .second, .val (.int (1 : Int32)), .val (.int (1 : Int32)), .val (.int (1 : Int32)), .val (.long q0), .second, .val (.long q0), .second, .unset, .unset, .unset] [(.long q0)])) (fun _ kk => XS.lload X30.here hx rfl (hb hby at_98) rfl kk) ?_
      refine Go.st (S' := T30.setTop (mkF m 101 #[.val (.long q0), .second, .val (.long q1), .second, .val (.int p2), .val (.int (p2 &&& (3 : Int32))), .val (.long b), .second, .val (.int (1 : Int32)), .val (.int (1 : Int32)), .val (.int (1 : Int32)), .val (.long q0), .second, .val (.long q0), .second, .unset, .unset, .unset] [(.long q0), (.long q0)])) (fun _ kk => XS.lloadN X30.here hx rfl (hb hby at_100) rfl kk) ?_
      refine Go.st (S' := T30.setTop (mkF m 102 #[.val (.long q0), .second, .val (.long q1), .second, .val (.int p2), .val (.int (p2 &&& (3 : Int32))), .val (.long b), .second, .val (.int (1 : Int32)), .val (.int (1 : Int32)), .val (.int (1 : Int32)), .val (.long q0), .second, .val (.long q0), .second, .unset, .unset, .unset] [(.int (lcmpW q0 q0))])) (fun _ kk => XS.lcmp X30.here hx rfl (hb hby at_101) rfl kk) ?_
      refine Go.st (S' := T30.setTop (mkF m 105 #[.val (.long q0), .second, .val (.long q1), .second, .val (.int p2), .val (.int (p2 &&& (3 : Int32))), .val (.long b), .second, .val (.int (1 : Int32)), .val (.int (1 : Int32)), .val (.int (1 : Int32)), .val (.long q0), .second, .val (.long q0), .second, .unset, .unset, .unset] [])) (fun _ kk => XS.ifNo X30.here hx rfl (hb hby at_102) rfl ((if0 _ _).trans (teq ((lw_eq q0 q0).mpr (rfl : q0 = q0))).2) kk) ?_
      refine Go.st (S' := T30.setTop (mkF m 106 #[.val (.long q0), .second, .val (.long q1), .second, .val (.int p2), .val (.int (p2 &&& (3 : Int32))), .val (.long b), .second, .val (.int (1 : Int32)), .val (.int (1 : Int32)), .val (.int (1 : Int32)), .val (.long q0), .second, .val (.long q0), .second, .unset, .unset, .unset] [(.int (1 : Int32))])) (fun _ kk => XS.iconst X30.here hx rfl (hb hby at_105) kk) ?_
      refine Go.st (S' := T30.setTop (mkF m 110 #[.val (.long q0), .second, .val (.long q1), .second, .val (.int p2), .val (.int (p2 &&& (3 : Int32))), .val (.long b), .second, .val (.int (1 : Int32)), .val (.int (1 : Int32)), .val (.int (1 : Int32)), .val (.long q0), .second, .val (.long q0), .second, .unset, .unset, .unset] [(.int (1 : Int32))])) (fun _ kk => XS.goto X30.here hx rfl (pc0 := 106) (pc' := 110) rfl (hb hby at_106) (by decide) (by decide) kk) ?_
      refine Go.st (S' := T30.setTop (mkF m 112 #[.val (.long q0), .second, .val (.long q1), .second, .val (.int p2), .val (.int (p2 &&& (3 : Int32))), .val (.long b), .second, .val (.int (1 : Int32)), .val (.int (1 : Int32)), .val (.int (1 : Int32)), .val (.long q0), .second, .val (.long q0), .second, .val (.int (1 : Int32)), .unset, .unset] [])) (fun _ kk => XS.istore X30.here hx rfl (hb hby at_110) rfl (l' := #[.val (.long q0), .second, .val (.long q1), .second, .val (.int p2), .val (.int (p2 &&& (3 : Int32))), .val (.long b), .second, .val (.int (1 : Int32)), .val (.int (1 : Int32)), .val (.int (1 : Int32)), .val (.long q0), .second, .val (.long q0), .second, .val (.int (1 : Int32)), .unset, .unset]) rfl kk) ?_
      refine Go.st (S' := T30.setTop (mkF m 114 #[.val (.long q0), .second, .val (.long q1), .second, .val (.int p2), .val (.int (p2 &&& (3 : Int32))), .val (.long b), .second, .val (.int (1 : Int32)), .val (.int (1 : Int32)), .val (.int (1 : Int32)), .val (.long q0), .second, .val (.long q0), .second, .val (.int (1 : Int32)), .unset, .unset] [(.long q0)])) (fun _ kk => XS.lload X30.here hx rfl (hb hby at_112) rfl kk) ?_
      refine Go.st (S' := T30.setTop (mkF m 115 #[.val (.long q0), .second, .val (.long q1), .second, .val (.int p2), .val (.int (p2 &&& (3 : Int32))), .val (.long b), .second, .val (.int (1 : Int32)), .val (.int (1 : Int32)), .val (.int (1 : Int32)), .val (.long q0), .second, .val (.long q0), .second, .val (.int (1 : Int32)), .unset, .unset] [(.long q0), (.long q0)])) (fun _ kk => XS.lloadN X30.here hx rfl (hb hby at_114) rfl kk) ?_
      refine Go.st (S' := T30.setTop (mkF m 116 #[.val (.long q0), .second, .val (.long q1), .second, .val (.int p2), .val (.int (p2 &&& (3 : Int32))), .val (.long b), .second, .val (.int (1 : Int32)), .val (.int (1 : Int32)), .val (.int (1 : Int32)), .val (.long q0), .second, .val (.long q0), .second, .val (.int (1 : Int32)), .unset, .unset] [(.int (lcmpW q0 q0))])) (fun _ kk => XS.lcmp X30.here hx rfl (hb hby at_115) rfl kk) ?_
      refine Go.st (S' := T30.setTop (mkF m 119 #[.val (.long q0), .second, .val (.long q1), .second, .val (.int p2), .val (.int (p2 &&& (3 : Int32))), .val (.long b), .second, .val (.int (1 : Int32)), .val (.int (1 : Int32)), .val (.int (1 : Int32)), .val (.long q0), .second, .val (.long q0), .second, .val (.int (1 : Int32)), .unset, .unset] [])) (fun _ kk => XS.ifNo X30.here hx rfl (hb hby at_116) rfl ((if0 _ _).trans (teq ((lw_eq q0 q0).mpr (rfl : q0 = q0))).2) kk) ?_
      refine Go.st (S' := T30.setTop (mkF m 120 #[.val (.long q0), .second, .val (.long q1), .second, .val (.int p2), .val (.int (p2 &&& (3 : Int32))), .val (.long b), .second, .val (.int (1 : Int32)), .val (.int (1 : Int32)), .val (.int (1 : Int32)), .val (.long q0), .second, .val (.long q0), .second, .val (.int (1 : Int32)), .unset, .unset] [(.int (1 : Int32))])) (fun _ kk => XS.iconst X30.here hx rfl (hb hby at_119) kk) ?_
      refine Go.st (S' := T30.setTop (mkF m 124 #[.val (.long q0), .second, .val (.long q1), .second, .val (.int p2), .val (.int (p2 &&& (3 : Int32))), .val (.long b), .second, .val (.int (1 : Int32)), .val (.int (1 : Int32)), .val (.int (1 : Int32)), .val (.long q0), .second, .val (.long q0), .second, .val (.int (1 : Int32)), .unset, .unset] [(.int (1 : Int32))])) (fun _ kk => XS.goto X30.here hx rfl (pc0 := 120) (pc' := 124) rfl (hb hby at_120) (by decide) (by decide) kk) ?_
      refine Go.st (S' := T30.setTop (mkF m 126 #[.val (.long q0), .second, .val (.long q1), .second, .val (.int p2), .val (.int (p2 &&& (3 : Int32))), .val (.long b), .second, .val (.int (1 : Int32)), .val (.int (1 : Int32)), .val (.int (1 : Int32)), .val (.long q0), .second, .val (.long q0), .second, .val (.int (1 : Int32)), .val (.int (1 : Int32)), .unset] [])) (fun _ kk => XS.istore X30.here hx rfl (hb hby at_124) rfl (l' := #[.val (.long q0), .second, .val (.long q1), .second, .val (.int p2), .val (.int (p2 &&& (3 : Int32))), .val (.long b), .second, .val (.int (1 : Int32)), .val (.int (1 : Int32)), .val (.int (1 : Int32)), .val (.long q0), .second, .val (.long q0), .second, .val (.int (1 : Int32)), .val (.int (1 : Int32)), .unset]) rfl kk) ?_
      refine Go.st (S' := T30.setTop (mkF m 128 #[.val (.long q0), .second, .val (.long q1), .second, .val (.int p2), .val (.int (p2 &&& (3 : Int32))), .val (.long b), .second, .val (.int (1 : Int32)), .val (.int (1 : Int32)), .val (.int (1 : Int32)), .val (.long q0), .second, .val (.long q0), .second, .val (.int (1 : Int32)), .val (.int (1 : Int32)), .unset] [(.long q0)])) (fun _ kk => XS.lload X30.here hx rfl (hb hby at_126) rfl kk) ?_
      refine Go.st (S' := T30.setTop (mkF m 130 #[.val (.long q0), .second, .val (.long q1), .second, .val (.int p2), .val (.int (p2 &&& (3 : Int32))), .val (.long b), .second, .val (.int (1 : Int32)), .val (.int (1 : Int32)), .val (.int (1 : Int32)), .val (.long q0), .second, .val (.long q0), .second, .val (.int (1 : Int32)), .val (.int (1 : Int32)), .unset] [(.long q0), (.long q0)])) (fun _ kk => XS.lload X30.here hx rfl (hb hby at_128) rfl kk) ?_
      refine Go.st (S' := T30.setTop (mkF m 131 #[.val (.long q0), .second, .val (.long q1), .second, .val (.int p2), .val (.int (p2 &&& (3 : Int32))), .val (.long b), .second, .val (.int (1 : Int32)), .val (.int (1 : Int32)), .val (.int (1 : Int32)), .val (.long q0), .second, .val (.long q0), .second, .val (.int (1 : Int32)), .val (.int (1 : Int32)), .unset] [(.int (lcmpW q0 q0))])) (fun _ kk => XS.lcmp X30.here hx rfl (hb hby at_130) rfl kk) ?_
      refine Go.st (S' := T30.setTop (mkF m 134 #[.val (.long q0), .second, .val (.long q1), .second, .val (.int p2), .val (.int (p2 &&& (3 : Int32))), .val (.long b), .second, .val (.int (1 : Int32)), .val (.int (1 : Int32)), .val (.int (1 : Int32)), .val (.long q0), .second, .val (.long q0), .second, .val (.int (1 : Int32)), .val (.int (1 : Int32)), .unset] [])) (fun _ kk => XS.ifNo X30.here hx rfl (hb hby at_131) rfl ((if0 _ _).trans (teq ((lw_eq q0 q0).mpr (rfl : q0 = q0))).2) kk) ?_
      refine Go.st (S' := T30.setTop (mkF m 135 #[.val (.long q0), .second, .val (.long q1), .second, .val (.int p2), .val (.int (p2 &&& (3 : Int32))), .val (.long b), .second, .val (.int (1 : Int32)), .val (.int (1 : Int32)), .val (.int (1 : Int32)), .val (.long q0), .second, .val (.long q0), .second, .val (.int (1 : Int32)), .val (.int (1 : Int32)), .unset] [(.int (1 : Int32))])) (fun _ kk => XS.iconst X30.here hx rfl (hb hby at_134) kk) ?_
      refine Go.st (S' := T30.setTop (mkF m 139 #[.val (.long q0), .second, .val (.long q1), .second, .val (.int p2), .val (.int (p2 &&& (3 : Int32))), .val (.long b), .second, .val (.int (1 : Int32)), .val (.int (1 : Int32)), .val (.int (1 : Int32)), .val (.long q0), .second, .val (.long q0), .second, .val (.int (1 : Int32)), .val (.int (1 : Int32)), .unset] [(.int (1 : Int32))])) (fun _ kk => XS.goto X30.here hx rfl (pc0 := 135) (pc' := 139) rfl (hb hby at_135) (by decide) (by decide) kk) ?_
      refine Go.st (S' := T30.setTop (mkF m 141 #[.val (.long q0), .second, .val (.long q1), .second, .val (.int p2), .val (.int (p2 &&& (3 : Int32))), .val (.long b), .second, .val (.int (1 : Int32)), .val (.int (1 : Int32)), .val (.int (1 : Int32)), .val (.long q0), .second, .val (.long q0), .second, .val (.int (1 : Int32)), .val (.int (1 : Int32)), .val (.int (1 : Int32))] [])) (fun _ kk => XS.istore X30.here hx rfl (hb hby at_139) rfl (l' := #[.val (.long q0), .second, .val (.long q1), .second, .val (.int p2), .val (.int (p2 &&& (3 : Int32))), .val (.long b), .second, .val (.int (1 : Int32)), .val (.int (1 : Int32)), .val (.int (1 : Int32)), .val (.long q0), .second, .val (.long q0), .second, .val (.int (1 : Int32)), .val (.int (1 : Int32)), .val (.int (1 : Int32))]) rfl kk) ?_
      refine Go.st (S' := T30.setTop (mkF m 143 #[.val (.long q0), .second, .val (.long q1), .second, .val (.int p2), .val (.int (p2 &&& (3 : Int32))), .val (.long b), .second, .val (.int (1 : Int32)), .val (.int (1 : Int32)), .val (.int (1 : Int32)), .val (.long q0), .second, .val (.long q0), .second, .val (.int (1 : Int32)), .val (.int (1 : Int32)), .val (.int (1 : Int32))] [(.int (1 : Int32))])) (fun _ kk => XS.iload X30.here hx rfl (hb hby at_141) rfl kk) ?_
      refine Go.st (S' := T30.setTop (mkF m 145 #[.val (.long q0), .second, .val (.long q1), .second, .val (.int p2), .val (.int (p2 &&& (3 : Int32))), .val (.long b), .second, .val (.int (1 : Int32)), .val (.int (1 : Int32)), .val (.int (1 : Int32)), .val (.long q0), .second, .val (.long q0), .second, .val (.int (1 : Int32)), .val (.int (1 : Int32)), .val (.int (1 : Int32))] [(.int (1 : Int32)), (.int (1 : Int32))])) (fun _ kk => XS.iload X30.here hx rfl (hb hby at_143) rfl kk) ?_
      refine Go.st (S' := T30.setTop (mkF m 148 #[.val (.long q0), .second, .val (.long q1), .second, .val (.int p2), .val (.int (p2 &&& (3 : Int32))), .val (.long b), .second, .val (.int (1 : Int32)), .val (.int (1 : Int32)), .val (.int (1 : Int32)), .val (.long q0), .second, .val (.long q0), .second, .val (.int (1 : Int32)), .val (.int (1 : Int32)), .val (.int (1 : Int32))] [])) (fun _ kk => XS.icmpNo X30.here hx rfl (hb hby at_145) rfl (teq (by decide : (1 : Int32) = (1 : Int32))).2 kk) ?_
      refine Go.st (S' := T30.setTop (mkF m 150 #[.val (.long q0), .second, .val (.long q1), .second, .val (.int p2), .val (.int (p2 &&& (3 : Int32))), .val (.long b), .second, .val (.int (1 : Int32)), .val (.int (1 : Int32)), .val (.int (1 : Int32)), .val (.long q0), .second, .val (.long q0), .second, .val (.int (1 : Int32)), .val (.int (1 : Int32)), .val (.int (1 : Int32))] [(.int (1 : Int32))])) (fun _ kk => XS.iload X30.here hx rfl (hb hby at_148) rfl kk) ?_
      refine Go.st (S' := T30.setTop (mkF m 152 #[.val (.long q0), .second, .val (.long q1), .second, .val (.int p2), .val (.int (p2 &&& (3 : Int32))), .val (.long b), .second, .val (.int (1 : Int32)), .val (.int (1 : Int32)), .val (.int (1 : Int32)), .val (.long q0), .second, .val (.long q0), .second, .val (.int (1 : Int32)), .val (.int (1 : Int32)), .val (.int (1 : Int32))] [(.int (1 : Int32)), (.int (1 : Int32))])) (fun _ kk => XS.iload X30.here hx rfl (hb hby at_150) rfl kk) ?_
      refine Go.st (S' := T30.setTop (mkF m 155 #[.val (.long q0), .second, .val (.long q1), .second, .val (.int p2), .val (.int (p2 &&& (3 : Int32))), .val (.long b), .second, .val (.int (1 : Int32)), .val (.int (1 : Int32)), .val (.int (1 : Int32)), .val (.long q0), .second, .val (.long q0), .second, .val (.int (1 : Int32)), .val (.int (1 : Int32)), .val (.int (1 : Int32))] [])) (fun _ kk => XS.icmpNo X30.here hx rfl (hb hby at_152) rfl (teq (by decide : (1 : Int32) = (1 : Int32))).2 kk) ?_
      refine Go.st (S' := T30.setTop (mkF m 157 #[.val (.long q0), .second, .val (.long q1), .second, .val (.int p2), .val (.int (p2 &&& (3 : Int32))), .val (.long b), .second, .val (.int (1 : Int32)), .val (.int (1 : Int32)), .val (.int (1 : Int32)), .val (.long q0), .second, .val (.long q0), .second, .val (.int (1 : Int32)), .val (.int (1 : Int32)), .val (.int (1 : Int32))] [(.int (1 : Int32))])) (fun _ kk => XS.iload X30.here hx rfl (hb hby at_155) rfl kk) ?_
      refine Go.st (S' := T30.setTop (mkF m 159 #[.val (.long q0), .second, .val (.long q1), .second, .val (.int p2), .val (.int (p2 &&& (3 : Int32))), .val (.long b), .second, .val (.int (1 : Int32)), .val (.int (1 : Int32)), .val (.int (1 : Int32)), .val (.long q0), .second, .val (.long q0), .second, .val (.int (1 : Int32)), .val (.int (1 : Int32)), .val (.int (1 : Int32))] [(.int (1 : Int32)), (.int (1 : Int32))])) (fun _ kk => XS.iload X30.here hx rfl (hb hby at_157) rfl kk) ?_
      refine Go.st (S' := T30.setTop (mkF m 162 #[.val (.long q0), .second, .val (.long q1), .second, .val (.int p2), .val (.int (p2 &&& (3 : Int32))), .val (.long b), .second, .val (.int (1 : Int32)), .val (.int (1 : Int32)), .val (.int (1 : Int32)), .val (.long q0), .second, .val (.long q0), .second, .val (.int (1 : Int32)), .val (.int (1 : Int32)), .val (.int (1 : Int32))] [])) (fun _ kk => XS.icmpNo X30.here hx rfl (hb hby at_159) rfl (teq (by decide : (1 : Int32) = (1 : Int32))).2 kk) ?_
      refine Go.st (S' := T30.setTop (mkF m 163 #[.val (.long q0), .second, .val (.long q1), .second, .val (.int p2), .val (.int (p2 &&& (3 : Int32))), .val (.long b), .second, .val (.int (1 : Int32)), .val (.int (1 : Int32)), .val (.int (1 : Int32)), .val (.long q0), .second, .val (.long q0), .second, .val (.int (1 : Int32)), .val (.int (1 : Int32)), .val (.int (1 : Int32))] [(.int (1 : Int32))])) (fun _ kk => XS.iconst X30.here hx rfl (hb hby at_162) kk) ?_
      refine Go.st (S' := T30.setTop (mkF m 167 #[.val (.long q0), .second, .val (.long q1), .second, .val (.int p2), .val (.int (p2 &&& (3 : Int32))), .val (.long b), .second, .val (.int (1 : Int32)), .val (.int (1 : Int32)), .val (.int (1 : Int32)), .val (.long q0), .second, .val (.long q0), .second, .val (.int (1 : Int32)), .val (.int (1 : Int32)), .val (.int (1 : Int32))] [(.int (1 : Int32))])) (fun _ kk => XS.goto X30.here hx rfl (pc0 := 163) (pc' := 167) rfl (hb hby at_163) (by decide) (by decide) kk) ?_
      exact Go.retN X30 hx hlk (t := .boolean) Bd.returns (by simp) (hb hby at_167) (⟨rfl, N30⟩) (by decide) (by decide)
theorem own_fld {args : Array Value} {s : State} {t : Term} {a : Addr} {C n d : String} {k : Int32} (ev : t.eval args s none [] s = some (.ref a)) (h : (Cond.eq (.field t C n d) (.int k)).value args s none s [] = some true) : Fld s s.heap a C n d (.int k) := by
  obtain ⟨x, y, e1, e2, k1, k2⟩ := cmp_v (Or.inl h)
  cases Option.some.inj ((Term.int_eval k).symm.trans e2)
  obtain ⟨z, rfl⟩ := k2
  have q : (Cond.eq (.field t C n d) (.int k)).value args s none s [] = some (decide (z = k)) := by simp [Cond.value, e1, e2]
  cases gotT q h
  exact Fld.start ((fld_at ev).symm.trans e1)
set_option maxRecDepth 65536 in
set_option maxHeartbeats 40000000 in
theorem comes_1 {Post : Tables → Env → Array Value → State → Outcome → State → Prop} (hpost : ∀ tb e args s v u, (limb_1_1.after args s (.returned v) u = true ∧ limb_1_2.after args s (.returned v) u = true ∧ True) → FrameEnd s (.returned v) u (Jvm.fieldLocs frame_1_writes args s ++ Jvm.arrayLocs frame_1_arrays args s ++ Jvm.staticLocs frame_1_statics s) 0 0 → Post tb e args s (.returned v) u) :
    ArmFor flags0 classFile x code maxLocals ret World_1 tables_1 room_1 Calls_1 rest_1 Pre_1 Post := by
  intro l hfl _ _ p e ha hc hk s m args below hf hA hF happ hP
  obtain ⟨hcalls, hrest, hpre⟩ := hP
  obtain ⟨-, -, -, hnamed, -, -, -, hat⟩ := (Spec.applies_iff hf).mp happ
  obtain ⟨hg, hn⟩ := and_e (Cond.before_iff.mp (show (Jvm.Cond.and given_1 narrow_1).before args s = true from hpre))
  obtain ⟨g0, gr0⟩ := and_e hg
  obtain ⟨ga0, gr1⟩ := and_e gr0
  obtain ⟨ga1, gr2⟩ := and_e gr1
  have ga2 := gr2
  obtain ⟨w0, w1, w2, rfl⟩ : ∃ w0 w1 w2 : Value, args = #[w0, w1, w2] := by
    have hs : args.size = 3 := by simpa [Cond.value, given_1] using g0
    obtain ⟨L⟩ := args
    match L, hs with
    | [w0, w1, w2], _ => exact ⟨w0, w1, w2, rfl⟩
  have hw := fun d (hd : d ∈ tables_1) => atoms_spec (ws := Jvm.Cond.code x code maxLocals ret :: tables_1) hat d (List.mem_cons_of_mem _ hd)
  have hfit : Fit s := fun {y c} hc i hi => by
    obtain ⟨ha, rfl⟩ := Array.getElem?_eq_some_iff.mp hc
    have q := List.all_eq_true.mp ((Array.all_eq_true_iff_forall_mem.mp hF) _ (Array.getElem_mem ha)) i (List.mem_range.mpr hi)
    simpa [Array.getElem?_eq_getElem hi] using q
  obtain ⟨i0, ei0⟩ := isL_v ga0
  obtain rfl : w0 = (.long i0) := Option.some.inj ei0
  obtain ⟨i1, ei1⟩ := isL_v ga1
  obtain rfl : w1 = (.long i1) := Option.some.inj ei1
  obtain ⟨i2, ei2⟩ := is_v ga2
  obtain rfl : w2 = (.int i2) := Option.some.inj ei2
  obtain ⟨n0a, nr0⟩ := and_e hn
  obtain ⟨n1a, nr1⟩ := and_e nr0
  obtain ⟨n2a, nr2⟩ := and_e nr1
  obtain ⟨n3a, nr3⟩ := and_e nr2
  obtain ⟨n4a, nr4⟩ := and_e nr3
  have n5a := nr4
  obtain ⟨s0, es0⟩ := exa_v n0a
  have E_s0 := Exa.start es0 n0a
  have S_0 := Sta.start es0 (Or.inr ⟨(hw _ (List.mem_of_getElem? (i := 1) rfl)), (hw _ (List.mem_of_getElem? (i := 2) rfl))⟩)
  have F_s0 := own_fld es0 n1a
  obtain ⟨s1, es1⟩ := exa_v n2a
  have E_s1 := Exa.start es1 n2a
  have S_1 := Sta.start es1 (Or.inr ⟨(hw _ (List.mem_of_getElem? (i := 1) rfl)), (hw _ (List.mem_of_getElem? (i := 18) rfl))⟩)
  have F_s1 := own_fld es1 n3a
  obtain ⟨s2, es2⟩ := exa_v n4a
  have E_s2 := Exa.start es2 n4a
  have S_2 := Sta.start es2 (Or.inr ⟨(hw _ (List.mem_of_getElem? (i := 1) rfl)), (hw _ (List.mem_of_getElem? (i := 20) rfl))⟩)
  have F_s2 := own_fld es2 n5a
  obtain ⟨n, o, h1, h2, h3, _, L, rfl, ⟨rfl, N⟩, hq⟩ := rm0 l s _ hw tables_1 i0 i1 i2 s0 s1 s2 s.heap s.heap.size (Nat.le_refl _) S_0 E_s0 F_s0 S_1 E_s1 F_s1 S_2 E_s2 F_s2 p e ha hc hk s m _ below hf ((Spec.applies_iff_loose hf).mp happ).1 ⟨rfl, State.Warmed39.refl s, rfl⟩ trivial
  refine ⟨n, _, h1, h2, h3, hpost _ _ _ _ _ _ ⟨Cond.after_iff.mpr rfl, Cond.after_iff.mpr (eq_i res_at (Term.int_eval (1)) rfl), trivial⟩ ⟨hq.1, hq.2.1, (hq.2.2.sift fun y hy => Or.inr (N y hy)).mono (by decide) (by decide)⟩⟩
theorem main_1_1 : Claimed_1_1 := comes_1 fun _ _ _ _ _ _ h hF => ⟨h.1, hF⟩
theorem main_1_2 : Claimed_1_2 := comes_1 fun _ _ _ _ _ _ h hF => ⟨h.2.1, hF⟩
end Jvm.Pilot.@@N@@
namespace Jvm.Pilot.@@N@@
open Jvm Jvm.ClassFile Sem Op Lib Jvm.Free Jvm.Stand Jvm.Pilot.@@N@@.Jvm.D
/-! MADE BY PROGRAM (witnessworld.py) out of the Statement's table words and the real class files: 13 classes; the members and pool entries that the words name. The judged class is class 1, her method 1. -/
namespace start1
open Jvm.ClassFile
def u (s : String) : CpInfo := .utf8 (stringToUtf16 s)
/-- a pool by its gaps: so many unusable entries, then the entry; so many at the end -/
def gap : Nat → List CpInfo → List CpInfo
  | 0, r => r
  | n + 1, r => .unusable :: gap n r
def poolList (es : List (Nat × CpInfo)) (last : Nat) : List CpInfo := es.foldr (fun e r => gap e.1 (e.2 :: r)) (gap last [])
def pool (es : List (Nat × CpInfo)) (last : Nat) : Array CpInfo := ⟨poolList es last⟩
def fileOf (pool : Array CpInfo) (this : Nat) (attrs : Array Attribute := #[]) (ms : Array MethodInfo := #[]) (fl : Nat := 33) (sup : Nat := 0) (ifs : Array Nat := #[]) (fds : Array FieldInfo := #[]) : ClassFile where
  minorVersion := 0
  majorVersion := 65
  constantPool := pool
  accessFlags := fl
  thisClass := this
  superClass := sup
  interfaces := ifs
  fields := fds
  methods := ms
  attributes := attrs
def plain (name : String) (sup : Option ClassId) : Class where
  name := name
  kind := .ordinary
  loader := none
  accessFlags := 33
  super := sup
  interfaces := #[]
  cf := none
  fields := #[]
  methods := #[]
  instanceTypes := #[]
  staticTypes := #[]
  resolved := #[]
  callSites := []
  init := .initialized
  statics := none
  mirror := none

def pool0 : Array CpInfo := pool [(5, u "<init>"), (0, u "()V"), (1, .class_ 10), (1, u "java/lang/Object")] 113

def k0m0 : Method := { name := "<init>", desc := "()V", sig := { parameters := [], returnType := none }, accessFlags := 1, code := none }
/-- java/lang/Object -/
def k0 : Class := { plain "java/lang/Object" none with
  accessFlags := 33
  interfaces := #[]
  cf := some (fileOf pool0 8 #[] #[{ accessFlags := 1, nameIndex := 5, descriptorIndex := 6, attributes := #[] }] 33 0 #[] #[])
  fields := #[]
  methods := #[k0m0]
  instanceTypes := #[]
  staticTypes := #[]
  resolved := Array.replicate 124 none
  statics := none }

def pool1 : Array CpInfo := pool [(2, .class_ 4), (1, u "java/lang/Object"), (0, u "<init>"), (0, u "()V"), (0, .fieldref 8 9), (0, .class_ 10), (0, .nameAndType 11 12), (0, u "com/example/patient_snoop/patientsnoop/model/Relation"), (0, u "AT_LEAST"), (0, u "Lcom/example/patient_snoop/patientsnoop/model/Relation;"), (0, .methodref 8 14), (0, .nameAndType 15 16), (0, u "holds"), (0, u "(JJ)Z"), (0, .fieldref 8 18), (0, .nameAndType 19 12), (0, u "AT_MOST"), (0, .fieldref 8 21), (0, .nameAndType 22 12), (0, u "EQUAL"), (0, .methodref 24 25), (0, .class_ 26), (0, .nameAndType 27 28), (0, u "java/lang/Math"), (0, u "max"), (0, u "(JJ)J"), (0, .methodref 24 30), (0, .nameAndType 31 28), (0, u "min"), (0, .class_ 33), (0, u "com/example/patient_snoop/patientsnoop/model/RelationHoldsPinLaw"), (2, u "law"), (0, u "(JJI)Z")] 3

def k1m0 : Method := { name := "<init>", desc := "()V", sig := { parameters := [], returnType := none }, accessFlags := 1, code := none }
def k1c1 : Code := { maxStack := 5, maxLocals := 18, code := code, exceptionTable := #[], attributes := #[] }
def k1m1 : Method := { name := "law", desc := "(JJI)Z", sig := { parameters := [.long, .long, .int], returnType := some .boolean }, accessFlags := 9, code := some k1c1 }
/-- com/example/patient_snoop/patientsnoop/model/RelationHoldsPinLaw -/
def k1 : Class := { plain "com/example/patient_snoop/patientsnoop/model/RelationHoldsPinLaw" (some 0) with
  accessFlags := 49
  interfaces := #[]
  cf := some (fileOf pool1 32 #[] #[{ accessFlags := 1, nameIndex := 5, descriptorIndex := 6, attributes := #[] }, { accessFlags := 9, nameIndex := 36, descriptorIndex := 37, attributes := #[] }] 49 2 #[] #[])
  fields := #[]
  methods := #[k1m0, k1m1]
  instanceTypes := #[]
  staticTypes := #[]
  resolved := Array.replicate 41 none
  statics := none }

def pool2 : Array CpInfo := pool [(1, .class_ 2), (0, u "java/lang/constant/Constable"), (0, .class_ 4), (0, u "java/lang/Object")] 6

/-- java/lang/constant/Constable -/
def k2 : Class := { plain "java/lang/constant/Constable" (some 0) with
  accessFlags := 1537
  interfaces := #[]
  cf := some (fileOf pool2 1 #[] #[] 1537 3 #[] #[])
  fields := #[]
  methods := #[]
  instanceTypes := #[]
  staticTypes := #[]
  resolved := Array.replicate 11 none
  statics := none }

def pool3 : Array CpInfo := pool [(1, .class_ 2), (0, u "java/lang/Comparable"), (0, .class_ 4), (0, u "java/lang/Object")] 7

/-- java/lang/Comparable -/
def k3 : Class := { plain "java/lang/Comparable" (some 0) with
  accessFlags := 1537
  interfaces := #[]
  cf := some (fileOf pool3 1 #[] #[] 1537 3 #[] #[])
  fields := #[]
  methods := #[]
  instanceTypes := #[]
  staticTypes := #[]
  resolved := Array.replicate 12 none
  statics := none }

def pool4 : Array CpInfo := pool [(1, .class_ 2), (0, u "java/io/Serializable"), (0, .class_ 4), (0, u "java/lang/Object")] 2

/-- java/io/Serializable -/
def k4 : Class := { plain "java/io/Serializable" (some 0) with
  accessFlags := 1537
  interfaces := #[]
  cf := some (fileOf pool4 1 #[] #[] 1537 3 #[] #[])
  fields := #[]
  methods := #[]
  instanceTypes := #[]
  staticTypes := #[]
  resolved := Array.replicate 7 none
  statics := none }

def pool5 : Array CpInfo := pool [(2, .class_ 4), (1, u "java/lang/Enum"), (0, u "name"), (0, u "Ljava/lang/String;"), (0, .fieldref 2 8), (0, .nameAndType 9 10), (0, u "ordinal"), (0, u "I"), (1, .class_ 14), (1, u "java/lang/Object"), (4, u "hash"), (86, .class_ 108), (1, u "java/lang/Enum$EnumDesc"), (2, .class_ 112), (0, u "java/lang/constant/Constable"), (0, .class_ 114), (0, u "java/lang/Comparable"), (0, .class_ 116), (0, u "java/io/Serializable"), (9, u "()I")] 77

def k5c0 : Code := { maxStack := 1, maxLocals := 1, code := jdk_37_method_2_code, exceptionTable := #[], attributes := #[] }
def k5m0 : Method := { name := "ordinal", desc := "()I", sig := { parameters := [], returnType := some .int }, accessFlags := 17, code := some k5c0 }
/-- java/lang/Enum -/
def k5 : Class := { plain "java/lang/Enum" (some 0) with
  accessFlags := 1057
  interfaces := #[2, 3, 4]
  cf := some (fileOf pool5 2 #[.nestMembers #[106]] #[{ accessFlags := 17, nameIndex := 9, descriptorIndex := 126, attributes := #[] }] 1057 12 #[111, 113, 115] #[{ accessFlags := 18, nameIndex := 5, descriptorIndex := 6, attributes := #[] }, { accessFlags := 18, nameIndex := 9, descriptorIndex := 10, attributes := #[] }, { accessFlags := 2, nameIndex := 19, descriptorIndex := 10, attributes := #[] }])
  fields := #[{ name := "name", type := (.object "java/lang/String"), accessFlags := 18, slot := 0, constantValue := 0 }, { name := "ordinal", type := .int, accessFlags := 18, slot := 1, constantValue := 0 }, { name := "hash", type := .int, accessFlags := 2, slot := 2, constantValue := 0 }]
  methods := #[k5m0]
  instanceTypes := #[(.object "java/lang/String"), .int, .int]
  staticTypes := #[]
  resolved := Array.replicate 204 none
  statics := none }

def pool6 : Array CpInfo := pool [(1, .class_ 2), (0, u "com/example/patient_snoop/patientsnoop/model/Relation"), (2, u "AT_LEAST"), (0, u "Lcom/example/patient_snoop/patientsnoop/model/Relation;"), (2, u "AT_MOST"), (2, u "EQUAL"), (2, u "$VALUES"), (0, u "[Lcom/example/patient_snoop/patientsnoop/model/Relation;"), (6, .class_ 25), (1, u "java/lang/Enum"), (8, u "symbol"), (0, u "Ljava/lang/String;"), (20, .methodref 1 57), (0, .nameAndType 58 59), (0, u "ordinal"), (0, u "()I"), (31, u "holds"), (0, u "(JJ)Z")] 5

def k6c0 : Code := { maxStack := 4, maxLocals := 5, code := prog_26_method_6_code, exceptionTable := #[], attributes := #[] }
def k6m0 : Method := { name := "holds", desc := "(JJ)Z", sig := { parameters := [.long, .long], returnType := some .boolean }, accessFlags := 1, code := some k6c0 }
/-- com/example/patient_snoop/patientsnoop/model/Relation -/
def k6 : Class := { plain "com/example/patient_snoop/patientsnoop/model/Relation" (some 5) with
  accessFlags := 16433
  interfaces := #[]
  cf := some (fileOf pool6 1 #[] #[{ accessFlags := 1, nameIndex := 91, descriptorIndex := 92, attributes := #[] }] 16433 23 #[] #[{ accessFlags := 16409, nameIndex := 5, descriptorIndex := 6, attributes := #[] }, { accessFlags := 16409, nameIndex := 9, descriptorIndex := 6, attributes := #[] }, { accessFlags := 16409, nameIndex := 12, descriptorIndex := 6, attributes := #[] }, { accessFlags := 18, nameIndex := 34, descriptorIndex := 35, attributes := #[] }, { accessFlags := 4122, nameIndex := 15, descriptorIndex := 16, attributes := #[] }])
  fields := #[{ name := "AT_LEAST", type := (.object "com/example/patient_snoop/patientsnoop/model/Relation"), accessFlags := 16409, slot := 0, constantValue := 0 }, { name := "AT_MOST", type := (.object "com/example/patient_snoop/patientsnoop/model/Relation"), accessFlags := 16409, slot := 1, constantValue := 0 }, { name := "EQUAL", type := (.object "com/example/patient_snoop/patientsnoop/model/Relation"), accessFlags := 16409, slot := 2, constantValue := 0 }, { name := "symbol", type := (.object "java/lang/String"), accessFlags := 18, slot := 3, constantValue := 0 }, { name := "$VALUES", type := (.array (.object "com/example/patient_snoop/patientsnoop/model/Relation")), accessFlags := 4122, slot := 3, constantValue := 0 }]
  methods := #[k6m0]
  instanceTypes := #[(.object "java/lang/String"), .int, .int, (.object "java/lang/String")]
  staticTypes := #[(.object "com/example/patient_snoop/patientsnoop/model/Relation"), (.object "com/example/patient_snoop/patientsnoop/model/Relation"), (.object "com/example/patient_snoop/patientsnoop/model/Relation"), (.array (.object "com/example/patient_snoop/patientsnoop/model/Relation"))]
  resolved := Array.replicate 98 none
  statics := some 0 }

def pool7 : Array CpInfo := pool [(1, .class_ 2), (0, u "java/lang/Math"), (1, .class_ 6), (1, u "java/lang/Object"), (0, u "<init>"), (0, u "()V"), (89, .class_ 100), (1, u "java/lang/Math$RandomNumberGeneratorHolder"), (20, u "(JJ)J"), (50, u "negativeZeroFloatBits"), (0, u "J"), (2, u "negativeZeroDoubleBits"), (21, u "max"), (2, u "min"), (43, u "$assertionsDisabled"), (0, u "Z"), (91, u "twoToTheDoubleScaleDown"), (0, u "D"), (4, u "twoToTheDoubleScaleUp"), (9, u "E"), (3, u "PI"), (2, u "TAU"), (2, u "DEGREES_TO_RADIANS"), (0, u "RADIANS_TO_DEGREES")] 94

def k7m0 : Method := { name := "<init>", desc := "()V", sig := { parameters := [], returnType := none }, accessFlags := 2, code := none }
def k7c1 : Code := { maxStack := 4, maxLocals := 4, code := jdk_29_method_66_code, exceptionTable := #[], attributes := #[] }
def k7m1 : Method := { name := "max", desc := "(JJ)J", sig := { parameters := [.long, .long], returnType := some .long }, accessFlags := 9, code := some k7c1 }
def k7c2 : Code := { maxStack := 4, maxLocals := 4, code := jdk_29_method_70_code, exceptionTable := #[], attributes := #[] }
def k7m2 : Method := { name := "min", desc := "(JJ)J", sig := { parameters := [.long, .long], returnType := some .long }, accessFlags := 9, code := some k7c2 }
/-- java/lang/Math -/
def k7 : Class := { plain "java/lang/Math" (some 0) with
  accessFlags := 49
  interfaces := #[]
  cf := some (fileOf pool7 1 #[.nestMembers #[98]] #[{ accessFlags := 2, nameIndex := 7, descriptorIndex := 8, attributes := #[] }, { accessFlags := 9, nameIndex := 198, descriptorIndex := 121, attributes := #[] }, { accessFlags := 9, nameIndex := 201, descriptorIndex := 121, attributes := #[] }] 49 4 #[] #[{ accessFlags := 25, nameIndex := 354, descriptorIndex := 339, attributes := #[] }, { accessFlags := 25, nameIndex := 358, descriptorIndex := 339, attributes := #[] }, { accessFlags := 25, nameIndex := 361, descriptorIndex := 339, attributes := #[] }, { accessFlags := 26, nameIndex := 364, descriptorIndex := 339, attributes := #[] }, { accessFlags := 26, nameIndex := 365, descriptorIndex := 339, attributes := #[] }, { accessFlags := 26, nameIndex := 172, descriptorIndex := 173, attributes := #[] }, { accessFlags := 26, nameIndex := 176, descriptorIndex := 173, attributes := #[] }, { accessFlags := 8, nameIndex := 344, descriptorIndex := 339, attributes := #[] }, { accessFlags := 8, nameIndex := 338, descriptorIndex := 339, attributes := #[] }, { accessFlags := 4120, nameIndex := 245, descriptorIndex := 246, attributes := #[] }])
  fields := #[{ name := "E", type := .double, accessFlags := 25, slot := 0, constantValue := 0 }, { name := "PI", type := .double, accessFlags := 25, slot := 1, constantValue := 0 }, { name := "TAU", type := .double, accessFlags := 25, slot := 2, constantValue := 0 }, { name := "DEGREES_TO_RADIANS", type := .double, accessFlags := 26, slot := 3, constantValue := 0 }, { name := "RADIANS_TO_DEGREES", type := .double, accessFlags := 26, slot := 4, constantValue := 0 }, { name := "negativeZeroFloatBits", type := .long, accessFlags := 26, slot := 5, constantValue := 0 }, { name := "negativeZeroDoubleBits", type := .long, accessFlags := 26, slot := 6, constantValue := 0 }, { name := "twoToTheDoubleScaleUp", type := .double, accessFlags := 8, slot := 7, constantValue := 0 }, { name := "twoToTheDoubleScaleDown", type := .double, accessFlags := 8, slot := 8, constantValue := 0 }, { name := "$assertionsDisabled", type := .boolean, accessFlags := 4120, slot := 9, constantValue := 0 }]
  methods := #[k7m0, k7m1, k7m2]
  instanceTypes := #[]
  staticTypes := #[.double, .double, .double, .double, .double, .long, .long, .double, .double, .boolean]
  resolved := Array.replicate 460 none
  statics := none }

def pool8 : Array CpInfo := pool [(1, u "java/lang/Cloneable"), (0, .class_ 1), (0, u "java/lang/Object"), (0, .class_ 3)] 3

/-- java/lang/Cloneable -/
def k8 : Class := { plain "java/lang/Cloneable" (some 0) with
  accessFlags := 1537
  interfaces := #[]
  cf := some (fileOf pool8 2 #[] #[] 1537 4 #[] #[])
  fields := #[]
  methods := #[]
  instanceTypes := #[]
  staticTypes := #[]
  resolved := Array.replicate 8 none
  statics := none }

/-- the primitive byte -/
def k9 : Class := { plain "byte" none with kind := .primitive 'B', accessFlags := 0x411 }
/-- [B -/
def k10 : Class := { plain "[B" (some 0) with kind := .array 9 .byte, interfaces := #[8, 4], accessFlags := 1041 }

/-- the primitive int -/
def k11 : Class := { plain "int" none with kind := .primitive 'I', accessFlags := 0x411 }
/-- [I -/
def k12 : Class := { plain "[I" (some 0) with kind := .array 11 .int, interfaces := #[8, 4], accessFlags := 1041 }

def heap : Heap := #[{ cls := 6, slots := #[.ref 1, .ref 2, .ref 3, .null], vm := .statics 6 },
  { cls := 6, slots := #[.null, .int 0, .int 0, .null], vm := .none },
  { cls := 6, slots := #[.null, .int 1, .int 0, .null], vm := .none },
  { cls := 6, slots := #[.null, .int 2, .int 0, .null], vm := .none }]
def classes : Array Class := #[k0, k1, k2, k3, k4, k5, k6, k7, k8, k9, k10, k11, k12]
def interned : List (Array UInt16 × Addr) := []
def slotsUsed : Nat := 16
def theMethod : MethodId := ⟨1, 1⟩
def args0 : Array Value := #[.long 5, .long 7, .int 0]
def aboutOver (below : List Frame) : State where
  vm := { classes := classes, interned := interned.toArray }
  heap := heap
  slotsUsed := slotsUsed
  threads := #[{ frames := .invoking theMethod args0 :: below }]
def below0 : List Frame := [.native { method := ⟨0, 0⟩, args := #[] }]
def about1 : State := aboutOver below0
def p0 : Program := .bare "" "" ""
def e0 : Env := launch0.env 0 0 0
theorem w_frames : about1.frames = Frame.invoking theMethod args0 :: below0 := rfl
set_option maxRecDepth 65536 in
theorem w_args : argsFit about1.vm theMethod args0 = true := by decide +kernel
set_option maxRecDepth 65536 in
theorem w_heap : heapFits about1 = true := by decide +kernel
set_option maxRecDepth 65536 in
theorem w_runnable : about1.curStatus? = some .runnable := by decide +kernel
set_option maxRecDepth 65536 in
theorem w_alone : about1.alone = true := by decide +kernel
set_option maxRecDepth 65536 in
theorem w_named : about1.methodNamed? x = some theMethod := by decide +kernel
set_option maxRecDepth 65536 in
theorem w_hears : about1.hears theMethod below0 = true := by decide +kernel
set_option maxRecDepth 65536 in
theorem w_ripe : about1.ripe theMethod args0 below0 = true := by decide +kernel
theorem w_running : about1.status = .running := rfl
set_option maxRecDepth 65536 in
theorem w_room : about1.hasRoom e0.platform room_1 = true :=
  launch0.hasRoom_least _ room_1 (by decide +kernel) (by decide +kernel) (by decide +kernel) (by decide +kernel) (by decide +kernel) (by decide +kernel)
theorem allAtoms_all (ts : List Jvm.Cond) (a : Array Jvm.Value) (st : Jvm.State) : (allAtoms ts).before a st = ts.all (fun c => c.before a st) := by
  induction ts with
  | nil => rfl
  | cons c t ih =>
    show (Jvm.Cond.and c (allAtoms t)).before a st = _
    rw [Jvm.Cond.before_and, ih, List.all_cons]
def words1 : List Jvm.Cond := Jvm.Cond.code x code maxLocals ret :: tables_1
/-- a 'code' word, met by the world's own term for the bytes: nothing is compared byte by byte -/
theorem code_word {y : MethodName} {bytes : ByteArray} {mx : Nat} {rt : Option FieldType} {a : Array Value} {s : State} {m : MethodId} {meth : Method} {c : Code} (h1 : s.methodNamed? y = some m) (h2 : s.vm.method? m = some meth) (h3 : meth.code = some c) (h4 : c.code = bytes)
    (h5 : (c.maxLocals == mx && c.exceptionTable.isEmpty && decide (c.maxStack ≤ mostOperands) && decide (meth.sig.returnType = rt) && !meth.locks && decide (parseMethodDescriptor y.desc = some meth.sig)) = true) : (Jvm.Cond.code y bytes mx rt).before a s = true := by
  simp only [Bool.and_eq_true, beq_iff_eq, Bool.not_eq_true', decide_eq_true_eq] at h5
  obtain ⟨⟨⟨⟨⟨g1, g2⟩, g3⟩, g4⟩, g5⟩, g6⟩ := h5
  simp [Cond.before, Cond.holds, Cond.value, h1, h2, h3, h4, g1, g2, g3, g4, g5, g6]
def isCode : Jvm.Cond → Bool
  | .code _ _ _ _ => true
  | _ => false
theorem all_split {L : List Jvm.Cond} {P : Jvm.Cond → Bool} (h1 : L.all (fun c => isCode c || P c) = true) (h2 : ∀ c ∈ L.filter isCode, P c = true) : L.all P = true := by
  refine List.all_eq_true.mpr fun c hc => ?_
  have h := List.all_eq_true.mp h1 c hc
  rcases Bool.eq_false_or_eq_true (isCode c) with hi | hi
  · exact h2 c (List.mem_filter.mpr ⟨hc, hi⟩)
  · simpa [hi] using h
set_option maxRecDepth 65536 in
theorem w_c0 : (Jvm.Cond.code x code maxLocals ret).before args0 about1 = true := code_word (m := ⟨1, 1⟩) (meth := k1m1) (c := k1c1) (by decide +kernel) rfl rfl rfl (by decide +kernel)
set_option maxRecDepth 65536 in
theorem w_c1 : (Jvm.Cond.code ({ cls := "com/example/patient_snoop/patientsnoop/model/Relation", name := "holds", desc := "(JJ)Z" } : Jvm.MethodName) prog_26_method_6_code (5 : Nat) (Option.some Jvm.ClassFile.FieldType.boolean)).before args0 about1 = true := code_word (m := ⟨6, 0⟩) (meth := k6m0) (c := k6c0) (by decide +kernel) rfl rfl rfl (by decide +kernel)
set_option maxRecDepth 65536 in
theorem w_c2 : (Jvm.Cond.code ({ cls := "java/lang/Enum", name := "ordinal", desc := "()I" } : Jvm.MethodName) jdk_37_method_2_code (1 : Nat) (Option.some Jvm.ClassFile.FieldType.int)).before args0 about1 = true := code_word (m := ⟨5, 0⟩) (meth := k5m0) (c := k5c0) (by decide +kernel) rfl rfl rfl (by decide +kernel)
set_option maxRecDepth 65536 in
theorem w_c3 : (Jvm.Cond.code ({ cls := "java/lang/Math", name := "max", desc := "(JJ)J" } : Jvm.MethodName) jdk_29_method_66_code (4 : Nat) (Option.some Jvm.ClassFile.FieldType.long)).before args0 about1 = true := code_word (m := ⟨7, 1⟩) (meth := k7m1) (c := k7c1) (by decide +kernel) rfl rfl rfl (by decide +kernel)
set_option maxRecDepth 65536 in
theorem w_c4 : (Jvm.Cond.code ({ cls := "java/lang/Math", name := "min", desc := "(JJ)J" } : Jvm.MethodName) jdk_29_method_70_code (4 : Nat) (Option.some Jvm.ClassFile.FieldType.long)).before args0 about1 = true := code_word (m := ⟨7, 2⟩) (meth := k7m2) (c := k7c2) (by decide +kernel) rfl rfl rfl (by decide +kernel)
def codes1 : List Jvm.Cond := [Jvm.Cond.code x code maxLocals ret, Jvm.Cond.code ({ cls := "com/example/patient_snoop/patientsnoop/model/Relation", name := "holds", desc := "(JJ)Z" } : Jvm.MethodName) prog_26_method_6_code (5 : Nat) (Option.some Jvm.ClassFile.FieldType.boolean), Jvm.Cond.code ({ cls := "java/lang/Enum", name := "ordinal", desc := "()I" } : Jvm.MethodName) jdk_37_method_2_code (1 : Nat) (Option.some Jvm.ClassFile.FieldType.int), Jvm.Cond.code ({ cls := "java/lang/Math", name := "max", desc := "(JJ)J" } : Jvm.MethodName) jdk_29_method_66_code (4 : Nat) (Option.some Jvm.ClassFile.FieldType.long), Jvm.Cond.code ({ cls := "java/lang/Math", name := "min", desc := "(JJ)J" } : Jvm.MethodName) jdk_29_method_70_code (4 : Nat) (Option.some Jvm.ClassFile.FieldType.long)]
set_option maxRecDepth 65536 in
theorem codes_eq : words1.filter isCode = codes1 := rfl
theorem w_codes : ∀ c ∈ words1.filter isCode, c.before args0 about1 = true := by
  rw [codes_eq]
  intro c hc
  simp only [codes1, List.mem_cons, List.not_mem_nil, or_false] at hc
  rcases hc with rfl | rfl | rfl | rfl | rfl
  · exact w_c0
  · exact w_c1
  · exact w_c2
  · exact w_c3
  · exact w_c4
set_option maxRecDepth 65536 in
theorem w_t1 : (words1.take 24).all (fun c => isCode c || c.before args0 about1) = true := by decide +kernel
set_option maxRecDepth 65536 in
theorem w_t2 : (words1.drop 24).all (fun c => isCode c || c.before args0 about1) = true := by decide +kernel
theorem w_tables : (allAtoms (Jvm.Cond.code x code maxLocals ret :: tables_1)).before args0 about1 = true := by
  rw [allAtoms_all]
  show words1.all (fun c => c.before args0 about1) = true
  refine all_split ?_ w_codes
  rw [← List.take_append_drop 24 words1, List.all_append, w_t1, w_t2]
  rfl
set_option maxRecDepth 65536 in
theorem w_case : (Jvm.Cond.and given_1 narrow_1).before args0 about1 = true := by decide +kernel
theorem w_applies : (headSpec (Jvm.Cond.code x code maxLocals ret :: tables_1) room_1).applies x e0.platform about1 = true :=
  (Spec.applies_iff w_frames).mpr ⟨w_running, w_runnable, w_alone, w_named, w_hears, w_ripe, w_room, w_tables⟩
theorem atStart : AtStart classFile x code maxLocals ret World_1 tables_1 room_1 Calls_1 rest_1 Pre_1 launch0 p0 e0 about1 theMethod args0 below0 :=
  ⟨lists_1, trivial, launch0.admits_env _ _ _, launch0.least_env, fairChoices_fair.cas, fairChoices_fair.clock, w_frames, w_args, w_heap, w_applies, trivial, trivial, w_case⟩
end start1
theorem witness_1 : WitnessClaimed_1 := ⟨start1.p0, start1.e0, start1.about1, start1.theMethod, start1.args0, start1.below0, start1.atStart⟩
end Jvm.Pilot.@@N@@
