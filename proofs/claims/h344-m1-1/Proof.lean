import JvmDerived
import JvmDerived.Pilot.@@N@@Statement
import JvmDerived.Pilot.@@N@@Code
set_option linter.unusedVariables false
set_option linter.unusedSimpArgs false
namespace Jvm.Pilot.@@N@@
open Jvm Jvm.ClassFile Sem Op Lib Jvm.Free Jvm.Stand Jvm.LawKit Jvm.RoadKit Bundle Jvm.Pilot.@@N@@.Jvm.D
section OwnKit
variable {p : Program} {l : Launch} {e : Env} {R : Room} {s : State} {m : MethodId} {args : Array Value} {below : List Frame} {meth : Method} {c : Code} {T : State} {locs : List Loc} {cells slots ck sk : Nat} {S S' t : State} {Q : Option Value → Heap → List Loc → Prop}
/-- from S the run comes to a return of which Q is said -/
def Go (p : Program) (e : Env) (below : List Frame) (s : State) (Q : Option Value → Heap → List Loc → Prop) (ck sk : Nat) (S : State) : Prop :=
  ∃ s₂ o, Steps p.tables e below S s₂ ∧ s₂.status = .running ∧ Ended s₂ below o ∧ ∃ v L, o = .returned v ∧ Q v s₂.heap L ∧ FrameEnd s o s₂ L ck sk
theorem Go.st (h : ∀ t, Steps p.tables e below S' t → Steps p.tables e below S t) (k : Go p e below s Q ck sk S') : Go p e below s Q ck sk S := by
  obtain ⟨s₂, o, h1, r⟩ := k
  exact ⟨s₂, o, h _ h1, r⟩
theorem Go.tr (h : Steps p.tables e below S S') (k : Go p e below s Q ck sk S') : Go p e below s Q ck sk S := Go.st (fun _ q => h.trans q) k
theorem via (h : Steps p.tables e below S' t → Steps p.tables e below S t) (k : Steps p.tables e below S' t) : Steps p.tables e below S t := h k
theorem Go.retW (X : Stand p l e R s m args below meth c T locs cells slots) (hx : p.tables.exec = Jvm.exec) (hlk : meth.locks = false) {pc : Nat} {Ls : Array Slot} {w : Value} {ty : FieldType} {i : Instr} {rest : List Value} (hret : meth.sig.returnType = some ty) (hn : narrow ty w = w)
    (hi : (i = .ireturn ∧ (ty = .int ∨ ty = .boolean ∨ ty = .byte ∨ ty = .char ∨ ty = .short) ∧ ∃ z, w = .int z) ∨ (i = .lreturn ∧ ty = .long ∧ ∃ z, w = .long z) ∨ (i = .dreturn ∧ ty = .double ∧ ∃ z, w = .double z) ∨ (i = .freturn ∧ ty = .float ∧ ∃ z, w = .float z) ∨ (i = .areturn ∧ ty.isReference = true ∧ w.isRef = true))
    (hd : decode c.code pc = .ok (i, 1)) (hQ : Q (some w) T.heap locs) (hc : cells ≤ ck) (hs : slots ≤ sk) : Go p e below s Q ck sk (T.setTop (mkF m pc Ls (w :: rest))) := by
  obtain ⟨fs, hr, hrun, hended, hW, hsame⟩ := X.leave (v := some w) (fun h => by rw [hret] at h; cases h)
  exact ⟨_, _, retOut X hx hret hn hi hd hr, hrun, hended, _, _, rfl, hQ, ⟨_, rfl⟩, hW, hsame.mono hc hs⟩
theorem Go.retI (X : Stand p l e R s m args below meth c T locs cells slots) (hx : p.tables.exec = Jvm.exec) (hlk : meth.locks = false) {pc : Nat} {Ls : Array Slot} {z : Int32} {rest : List Value} (hret : meth.sig.returnType = some .int) (hd : decode c.code pc = .ok (.ireturn, 1)) (hQ : Q (some (.int z)) T.heap locs) (hc : cells ≤ ck) (hs : slots ≤ sk) : Go p e below s Q ck sk (T.setTop (mkF m pc Ls (.int z :: rest))) :=
  Go.retW X hx hlk hret rfl (Or.inl ⟨rfl, Or.inl rfl, _, rfl⟩) hd hQ hc hs
theorem Go.retJ (X : Stand p l e R s m args below meth c T locs cells slots) (hx : p.tables.exec = Jvm.exec) (hlk : meth.locks = false) {pc : Nat} {Ls : Array Slot} {z : Int64} {rest : List Value} (hret : meth.sig.returnType = some .long) (hd : decode c.code pc = .ok (.lreturn, 1)) (hQ : Q (some (.long z)) T.heap locs) (hc : cells ≤ ck) (hs : slots ≤ sk) : Go p e below s Q ck sk (T.setTop (mkF m pc Ls (.long z :: rest))) :=
  Go.retW X hx hlk hret rfl (Or.inr (Or.inl ⟨rfl, rfl, _, rfl⟩)) hd hQ hc hs
theorem Go.retA (X : Stand p l e R s m args below meth c T locs cells slots) (hx : p.tables.exec = Jvm.exec) (hlk : meth.locks = false) {pc : Nat} {Ls : Array Slot} {w : Value} {ty : FieldType} {rest : List Value} (hret : meth.sig.returnType = some ty) (ht : ty.isReference = true) (hw : w.isRef = true) (hd : decode c.code pc = .ok (.areturn, 1)) (hQ : Q (some w) T.heap locs) (hc : cells ≤ ck) (hs : slots ≤ sk) : Go p e below s Q ck sk (T.setTop (mkF m pc Ls (w :: rest))) :=
  Go.retW X hx hlk hret (by cases ty <;> first | (cases ht; done) | (cases w <;> first | rfl | cases hw)) (Or.inr (Or.inr (Or.inr (Or.inr ⟨rfl, ht, hw⟩)))) hd hQ hc hs
theorem Go.retN (X : Stand p l e R s m args below meth c T locs cells slots) (hx : p.tables.exec = Jvm.exec) (hlk : meth.locks = false) {pc : Nat} {Ls : Array Slot} {z : Int32} {t : FieldType} {rest : List Value} (hret : meth.sig.returnType = some t) (ht : t = .boolean ∨ t = .byte ∨ t = .char ∨ t = .short) (hd : decode c.code pc = .ok (.ireturn, 1)) (hQ : Q (some (.int (nar t z))) T.heap locs) (hc : cells ≤ ck) (hs : slots ≤ sk) : Go p e below s Q ck sk (T.setTop (mkF m pc Ls (.int z :: rest))) := by
  obtain ⟨fs, hr, hrun, hended, hW, hsame⟩ := X.leave (v := some (.int (nar t z))) (fun h => by rw [hret] at h; cases h)
  exact ⟨_, _, Jvm.RoadKit.retN X hx hret ht hd hr, hrun, hended, _, _, rfl, hQ, ⟨_, rfl⟩, hW, hsame.mono hc hs⟩
theorem Go.ret0 (X : Stand p l e R s m args below meth c T locs cells slots) (hx : p.tables.exec = Jvm.exec) (hlk : meth.locks = false) {pc : Nat} {Ls : Array Slot} (hret : meth.sig.returnType = none) (hd : decode c.code pc = .ok (.return_, 1)) (hQ : Q none T.heap locs) (hc : cells ≤ ck) (hs : slots ≤ sk) : Go p e below s Q ck sk (T.setTop (mkF m pc Ls [])) := by
  obtain ⟨fs, hr, hrun, hended, hW, hsame⟩ := X.leave (v := none) (fun _ => rfl)
  exact ⟨_, _, X.returnOut hx hret hd hr, hrun, hended, _, _, rfl, hQ, ⟨_, rfl⟩, hW, hsame.mono hc hs⟩
/-- what a body leaves that writes nothing -/
def PQ (w : Value) (n0 : Nat) (h0 : Heap) (v : Option Value) (h : Heap) (L : List Loc) : Prop := v = some w ∧ Fr n0 L ∧ h = h0
/-- what the law leaves -/
def LQ (n0 : Nat) (v : Option Value) (h : Heap) (L : List Loc) : Prop := v = some (.int 1) ∧ Fr n0 L
/-- the j-th of a list of ints -/
def bt (bs : List Int32) (j : Int32) : Int32 := bs.getD j.toNatClampNeg 0
theorem own_at {bs : List Int32} {c : Cell} {j : Int32} (H : Has c (bs.map .int) (.int 0)) (hin : ¬ (j < 0 ∨ c.slots.size ≤ j.toNatClampNeg)) : c.slots[j.toNatClampNeg]? = some (.int (bt bs j)) :=
  Has.at H hin (by unfold bt; simp only [List.getD, List.getElem?_map]; cases bs[j.toNatClampNeg]? <;> rfl)
theorem own_len {t : Term} {a : Addr} {cl : Cell} {n : Int32} (ev : t.eval args s none [] s = some (.ref a)) (ha : s.arrayAt? a = some cl) (h : (Cond.eq (.length t) (.int n)).value args s none s [] = some true) : cl.slots.size < 2 ^ 31 ∧ cl.slots.size.toInt32 = n := by
  by_cases q : cl.slots.size < 2 ^ 31
  · exact ⟨q, gotT (Cond.eq_ints (len_f ev ha q) (Term.int_eval n)) h⟩
  · exfalso
    simp [Cond.value, Term.eval, ev, ha, q] at h
theorem own_size {cl : Cell} {n : Int32} {k : Nat} (q : cl.slots.size < 2 ^ 31 ∧ cl.slots.size.toInt32 = n) (hk : n.toInt = k) : cl.slots.size = k := by
  have h := len_toInt q.1
  rw [q.2, hk] at h
  omega
end OwnKit

theorem pd_0 : parseMethodDescriptor "([I)V" = some ⟨[(.array .int)], none⟩ := by decide +kernel
theorem pd_1 : parseMethodDescriptor "()V" = some ⟨[], none⟩ := by decide +kernel
theorem pd_2 : parseMethodDescriptor "()Ljava/lang/Object;" = some ⟨[], some (.object "java/lang/Object")⟩ := by decide +kernel
theorem pd_3 : parseMethodDescriptor "()J" = some ⟨[], some .long⟩ := by decide +kernel
def Q_rmC0 (Z : State) (a0 : Addr)  (kk : ClassId) (h0 : Heap) (n0 : Nat) (v : Option Value) (h : Heap) (L : List Loc) : Prop := ∃ t : Addr, v = none ∧ Fr n0 L ∧ Keep h0 h [a0] ∧ Exa Z h a0 "com/example/patient_snoop/patientsnoop/model/Configuration" ∧ Fld Z h a0 "com/example/patient_snoop/patientsnoop/model/Configuration" "counts" "[I" (.ref t) ∧ Arv Z h t kk .int (0 : Int32) [] (.int (0 : Int32)) ∧ h0.size ≤ t
theorem d1_0 : decode prog_19_method_1_code 0 = .ok (.aload_n 0, 1) := by decide +kernel
theorem d1_1 : decode prog_19_method_1_code 1 = .ok (.invokespecial 1, 3) := by decide +kernel
theorem d1_4 : decode prog_19_method_1_code 4 = .ok (.aload_n 0, 1) := by decide +kernel
theorem d1_5 : decode prog_19_method_1_code 5 = .ok (.aload_n 1, 1) := by decide +kernel
theorem d1_6 : decode prog_19_method_1_code 6 = .ok (.invokevirtual 7, 3) := by decide +kernel
theorem d1_9 : decode prog_19_method_1_code 9 = .ok (.checkcast 8, 3) := by decide +kernel
theorem d1_12 : decode prog_19_method_1_code 12 = .ok (.putfield 13, 3) := by decide +kernel
theorem d1_15 : decode prog_19_method_1_code 15 = .ok (.aload_n 0, 1) := by decide +kernel
theorem d1_16 : decode prog_19_method_1_code 16 = .ok (.getfield 13, 3) := by decide +kernel
theorem d1_19 : decode prog_19_method_1_code 19 = .ok (.astore_n 2, 1) := by decide +kernel
theorem d1_20 : decode prog_19_method_1_code 20 = .ok (.aload_n 2, 1) := by decide +kernel
theorem d1_21 : decode prog_19_method_1_code 21 = .ok (.arraylength, 1) := by decide +kernel
theorem d1_22 : decode prog_19_method_1_code 22 = .ok (.istore_n 3, 1) := by decide +kernel
theorem d1_23 : decode prog_19_method_1_code 23 = .ok (.iconst 0, 1) := by decide +kernel
theorem d1_24 : decode prog_19_method_1_code 24 = .ok (.istore 4, 2) := by decide +kernel
theorem d1_26 : decode prog_19_method_1_code 26 = .ok (.iload 4, 2) := by decide +kernel
theorem d1_28 : decode prog_19_method_1_code 28 = .ok (.iload_n 3, 1) := by decide +kernel
theorem d1_29 : decode prog_19_method_1_code 29 = .ok (.if_icmp .ge 35, 3) := by decide +kernel
theorem d1_32 : decode prog_19_method_1_code 32 = .ok (.aload_n 2, 1) := by decide +kernel
theorem d1_33 : decode prog_19_method_1_code 33 = .ok (.iload 4, 2) := by decide +kernel
theorem d1_35 : decode prog_19_method_1_code 35 = .ok (.iaload, 1) := by decide +kernel
theorem d1_36 : decode prog_19_method_1_code 36 = .ok (.istore 5, 2) := by decide +kernel
theorem d1_38 : decode prog_19_method_1_code 38 = .ok (.iload 5, 2) := by decide +kernel
theorem d1_40 : decode prog_19_method_1_code 40 = .ok (.ifCond .ge 18, 3) := by decide +kernel
theorem d1_43 : decode prog_19_method_1_code 43 = .ok (.new 18, 3) := by decide +kernel
theorem d1_46 : decode prog_19_method_1_code 46 = .ok (.dup, 1) := by decide +kernel
theorem d1_47 : decode prog_19_method_1_code 47 = .ok (.iload 5, 2) := by decide +kernel
theorem d1_49 : decode prog_19_method_1_code 49 = .ok (.invokedynamic 20, 5) := by decide +kernel
theorem d1_54 : decode prog_19_method_1_code 54 = .ok (.invokespecial 24, 3) := by decide +kernel
theorem d1_57 : decode prog_19_method_1_code 57 = .ok (.athrow, 1) := by decide +kernel
theorem d1_58 : decode prog_19_method_1_code 58 = .ok (.iinc 4 1, 3) := by decide +kernel
theorem d1_61 : decode prog_19_method_1_code 61 = .ok (.goto (-35), 3) := by decide +kernel
theorem d1_64 : decode prog_19_method_1_code 64 = .ok (.return_, 1) := by decide +kernel
theorem pn_0 : plainName "com/example/patient_snoop/patientsnoop/model/Configuration" = true := by first | (simp [plainName, overriddenIn]; done) | decide +kernel
theorem ef_1 (m : MethodId) (a0 : Addr) (a1 : Addr) : entryFrame m #[(.ref a0), (.ref a1)] 6 = mkF m 0 #[.val (.ref a0), .val (.ref a1), .unset, .unset, .unset, .unset] [] := by first | (simp [entryFrame, mkF, argsToLocals, Value.category]; done) | rfl
set_option maxRecDepth 65536 in
set_option maxHeartbeats 40000000 in
theorem rmC0 (l : Launch) (Z : State) (az : Array Value) (hw : ∀ d ∈ tables_1, d.before az Z = true) (ws : List Jvm.Cond) (a0 : Addr) (a1 : Addr)  (kk : ClassId) (h0 : Heap) (n0 : Nat) (Z0 : n0 ≤ h0.size) (E_a0 : Exa Z h0 a0 "com/example/patient_snoop/patientsnoop/model/Configuration") (g_a0 : n0 ≤ a0) (F_counts : Fld Z h0 a0 "com/example/patient_snoop/patientsnoop/model/Configuration" "counts" "[I" .null) (E_a1 : Exa Z h0 a1 "[I") (V_a1 : Arv Z h0 a1 kk .int (0 : Int32) [] (.int (0 : Int32)))  :
    MetFree l (⟨"com/example/patient_snoop/patientsnoop/model/Configuration", "<init>", "([I)V"⟩ : MethodName) (head1 (Jvm.Cond.code (⟨"com/example/patient_snoop/patientsnoop/model/Configuration", "<init>", "([I)V"⟩ : MethodName) prog_19_method_1_code 6 none :: ws) ({ frames := 1, cells := 1, slots := 0, locals := 20 } : Room)) (fun a U => a = #[(.ref a0), (.ref a1)] ∧ Z.Warmed39 U.vm ∧ U.heap = h0) (fun _ _ _ _ _ => True) (fun _ U o U' => ∃ v L, o = .returned v ∧ (Q_rmC0 Z a0  kk h0 n0) v U'.heap L ∧ FrameEnd U o U' L ({ frames := 1, cells := 1, slots := 0, locals := 20 } : Room).cells ({ frames := 1, cells := 1, slots := 0, locals := 20 } : Room).slots) := by
  refine MetFree.of_bodySF (plainFor_of_name pn_0) hisR ?_
  intro p e s m args below meth c s₁ Bd hml0 hP hK
  obtain ⟨rfl, hZ, hh⟩ := hP
  have hx := Bd.exec
  have hby := Bd.bytes
  have hlk : meth.locks = false := Bd.notSynchronized
  have hml : c.maxLocals = 6 := hml0
  have hown : s.vm.findClass "com/example/patient_snoop/patientsnoop/model/Configuration" = some m.cls := findClass_of_methodNamed Bd.named
  have hnm := (name_of_methodNamed Bd.named Bd.method).1
  have X0 : Stand p l e ({ frames := 1, cells := 1, slots := 0, locals := 20 } : Room) s m #[(.ref a0), (.ref a1)] below meth c s₁ [] 0 0 := Stand.of_body Bd
  have e0 : s₁.heap = h0 := by rw [← hh, Bd.state]; rfl
  have N0 := Fr.nil n0
  show Go p e below s ((Q_rmC0 Z a0  kk h0 n0)) ({ frames := 1, cells := 1, slots := 0, locals := 20 } : Room).cells ({ frames := 1, cells := 1, slots := 0, locals := 20 } : Room).slots (s₁.setTop (entryFrame m #[(.ref a0), (.ref a1)] 6))
  rw [ef_1 m a0 a1]
  have ne_a0_a1 : a0 ≠ a1 := ne_exa E_a0 E_a1 (by decide)
  refine Go.st (S' := s₁.setTop (mkF m 1 #[.val (.ref a0), .val (.ref a1), .unset, .unset, .unset, .unset] [(.ref a0)])) (fun _ kk => XS.aloadN X0.here hx rfl (hb hby d1_0) rfl rfl kk) ?_
  obtain ⟨T1, X1, e1, st1⟩ := initO X0 hx hZ hown (hw _ (List.mem_of_getElem? (i := 8) rfl)) (hw _ (List.mem_of_getElem? (i := 9) rfl)) (hw _ (List.mem_of_getElem? (i := 10) rfl)) e0 (g := (mkF m 1 #[.val (.ref a0), .val (.ref a1), .unset, .unset, .unset, .unset] [(.ref a0)])) rfl (by rw [hml]; rfl) rfl (hb hby d1_1) (by decide) (W := 0) (by show 2 * 0 + _ ≤ _; exact Nat.le_of_eq rfl) (by decide)
  refine Go.st (S' := T1.setTop (mkF m 4 #[.val (.ref a0), .val (.ref a1), .unset, .unset, .unset, .unset] [])) st1 ?_
  refine Go.st (S' := T1.setTop (mkF m 5 #[.val (.ref a0), .val (.ref a1), .unset, .unset, .unset, .unset] [(.ref a0)])) (fun _ kk => XS.aloadN X1.here hx rfl (hb hby d1_4) rfl rfl kk) ?_
  refine Go.st (S' := T1.setTop (mkF m 6 #[.val (.ref a0), .val (.ref a1), .unset, .unset, .unset, .unset] [(.ref a1), (.ref a0)])) (fun _ kk => XS.aloadN X1.here hx rfl (hb hby d1_5) rfl rfl kk) ?_
  obtain ⟨T2, h2, X2, e2, E2, A2, E_b2, st2⟩ := cloneH X1 hx hZ hown (hw _ (List.mem_of_getElem? (i := 11) rfl)) (hw _ (List.mem_of_getElem? (i := 12) rfl)) (hw _ (List.mem_of_getElem? (i := 16) rfl)) (hw _ (List.mem_of_getElem? (i := 14) rfl)) (hw _ (List.mem_of_getElem? (i := 15) rfl)) (hw _ (List.mem_of_getElem? (i := 17) rfl)) e1 (Arv.arh V_a1) E_a1 (g := (mkF m 6 #[.val (.ref a0), .val (.ref a1), .unset, .unset, .unset, .unset] [(.ref a1), (.ref a0)])) rfl (by rw [hml]; rfl) rfl (hb hby d1_6) (by decide) (W := 1) (cap := 0) (by show 2 * 0 + _ ≤ _; exact Nat.le_of_eq rfl) (by decide) (by decide) (by decide) (by decide)
  obtain ⟨b2, g2⟩ : ∃ z, z = h0.size := ⟨_, rfl⟩
  rw [← g2] at A2 E_b2 st2
  have ne_a0_b2 : a0 ≠ b2 := Nat.ne_of_lt (Nat.lt_of_lt_of_le E_a0.lt (Nat.le_of_eq g2.symm))
  have ne_a1_b2 : a1 ≠ b2 := Nat.ne_of_lt (Nat.lt_of_lt_of_le E_a1.lt (Nat.le_of_eq g2.symm))
  have g_b2 : n0 ≤ b2 := Nat.le_trans Z0 (Nat.le_of_eq g2.symm)
  have sz_b2 : h0.size ≤ b2 := Nat.le_trans (Keep.refl h0 [a0]).1 (Nat.le_of_eq g2.symm)
  have E_a0 := E_a0.ext E2
  have F_counts := F_counts.ext E2
  have E_a1 := E_a1.ext E2
  have V_a1 := V_a1.ext E2
  have Zs3 := Nat.le_trans Z0 E2.1
  have Kp4 := (Keep.refl h0 [a0]).ext E2
  have V_b2 : Arv Z h2 b2 kk .int (0 : Int32) [] (.int (0 : Int32)) := A2
  refine Go.st (S' := T2.setTop (mkF m 9 #[.val (.ref a0), .val (.ref a1), .unset, .unset, .unset, .unset] [(.ref b2), (.ref a0)])) st2 ?_
  obtain ⟨T5, X5, e5, st5⟩ := castY X2 hx hZ hown (hw _ (List.mem_of_getElem? (i := 18) rfl)) e2 (Ins.self E_b2) (g := (mkF m 9 #[.val (.ref a0), .val (.ref a1), .unset, .unset, .unset, .unset] [(.ref b2), (.ref a0)])) rfl rfl (hb hby d1_9)
  refine Go.st (S' := T5.setTop (mkF m 12 #[.val (.ref a0), .val (.ref a1), .unset, .unset, .unset, .unset] [(.ref b2), (.ref a0)])) st5 ?_
  obtain ⟨T6, h6, X6, e6, W6, st6⟩ := putF X5 hx hZ hown (host := "") (Or.inl (hw _ (List.mem_of_getElem? (i := 20) rfl))) Via.refl e5 F_counts E_a0 (Or.inr ⟨(hw _ (List.mem_of_getElem? (i := 21) rfl)), rfl, hnm⟩) (hw _ (List.mem_of_getElem? (i := 3) rfl)) (ty := (.array .int)) (by decide) rfl rfl (g := (mkF m 12 #[.val (.ref a0), .val (.ref a1), .unset, .unset, .unset, .unset] [(.ref b2), (.ref a0)])) rfl rfl (hb hby d1_12)
  have N6 := Fr.snoc X6 N0 g_a0
  have F_counts := F_counts.same W6
  have E_a0 := E_a0.wr W6
  have E_a1 := E_a1.wr W6
  have V_a1 := V_a1.other W6 (Ne.symm ne_a0_a1)
  have E_b2 := E_b2.wr W6
  have V_b2 := V_b2.other W6 (Ne.symm ne_a0_b2)
  have Zs7 := Nat.le_trans Zs3 (Keep.of_wr W6).1
  have Kp8 := Kp4.wr W6 (Or.inl (List.mem_of_getElem? (i := 0) rfl))
  refine Go.st (S' := T6.setTop (mkF m 15 #[.val (.ref a0), .val (.ref a1), .unset, .unset, .unset, .unset] [])) st6 ?_
  refine Go.st (S' := T6.setTop (mkF m 16 #[.val (.ref a0), .val (.ref a1), .unset, .unset, .unset, .unset] [(.ref a0)])) (fun _ kk => XS.aloadN X6.here hx rfl (hb hby d1_15) rfl rfl kk) ?_
  obtain ⟨T9, X9, e9, st9⟩ := getF X6 hx hZ hown (host := "") (Or.inl (hw _ (List.mem_of_getElem? (i := 20) rfl))) Via.refl e6 F_counts (g := (mkF m 16 #[.val (.ref a0), .val (.ref a1), .unset, .unset, .unset, .unset] [(.ref a0)])) rfl rfl (hb hby d1_16)
  refine Go.st (S' := T9.setTop (mkF m 19 #[.val (.ref a0), .val (.ref a1), .unset, .unset, .unset, .unset] [(.ref b2)])) st9 ?_
  refine Go.st (S' := T9.setTop (mkF m 20 #[.val (.ref a0), .val (.ref a1), .val (.ref b2), .unset, .unset, .unset] [])) (fun _ kk => XS.astoreN X9.here hx rfl (hb hby d1_19) rfl rfl (l' := #[.val (.ref a0), .val (.ref a1), .val (.ref b2), .unset, .unset, .unset]) rfl kk) ?_
  refine Go.st (S' := T9.setTop (mkF m 21 #[.val (.ref a0), .val (.ref a1), .val (.ref b2), .unset, .unset, .unset] [(.ref b2)])) (fun _ kk => XS.aloadN X9.here hx rfl (hb hby d1_20) rfl rfl kk) ?_
  obtain ⟨cl10, Ar10, -, S10, Ng10, -, -⟩ := (id V_b2)
  refine Go.st (S' := T9.setTop (mkF m 22 #[.val (.ref a0), .val (.ref a1), .val (.ref b2), .unset, .unset, .unset] [(.int (0 : Int32))])) (fun _ kk => X9.arraylength hx (by rw [e9]; exact Ar10.1) (State.isArrayOf_alike hZ.alike Ar10.2.1) (g := (mkF m 21 #[.val (.ref a0), .val (.ref a1), .val (.ref b2), .unset, .unset, .unset] [(.ref b2)])) rfl rfl (hb hby d1_21) _ (by rw [len_of S10 Ng10]; exact kk)) ?_
  refine Go.st (S' := T9.setTop (mkF m 23 #[.val (.ref a0), .val (.ref a1), .val (.ref b2), .val (.int (0 : Int32)), .unset, .unset] [])) (fun _ kk => XS.istoreN X9.here hx rfl (hb hby d1_22) rfl (l' := #[.val (.ref a0), .val (.ref a1), .val (.ref b2), .val (.int (0 : Int32)), .unset, .unset]) rfl kk) ?_
  refine Go.st (S' := T9.setTop (mkF m 24 #[.val (.ref a0), .val (.ref a1), .val (.ref b2), .val (.int (0 : Int32)), .unset, .unset] [(.int (0 : Int32))])) (fun _ kk => XS.iconst X9.here hx rfl (hb hby d1_23) kk) ?_
  refine Go.st (S' := T9.setTop (mkF m 26 #[.val (.ref a0), .val (.ref a1), .val (.ref b2), .val (.int (0 : Int32)), .val (.int (0 : Int32)), .unset] [])) (fun _ kk => XS.istore X9.here hx rfl (hb hby d1_24) rfl (l' := #[.val (.ref a0), .val (.ref a1), .val (.ref b2), .val (.int (0 : Int32)), .val (.int (0 : Int32)), .unset]) rfl kk) ?_
  refine Go.st (S' := T9.setTop (mkF m 28 #[.val (.ref a0), .val (.ref a1), .val (.ref b2), .val (.int (0 : Int32)), .val (.int (0 : Int32)), .unset] [(.int (0 : Int32))])) (fun _ kk => XS.iload X9.here hx rfl (hb hby d1_26) rfl kk) ?_
  refine Go.st (S' := T9.setTop (mkF m 29 #[.val (.ref a0), .val (.ref a1), .val (.ref b2), .val (.int (0 : Int32)), .val (.int (0 : Int32)), .unset] [(.int (0 : Int32)), (.int (0 : Int32))])) (fun _ kk => XS.iloadN X9.here hx rfl (hb hby d1_28) rfl kk) ?_
  refine Go.st (S' := T9.setTop (mkF m 64 #[.val (.ref a0), .val (.ref a1), .val (.ref b2), .val (.int (0 : Int32)), .val (.int (0 : Int32)), .unset] [])) (fun _ kk => XS.icmpYes X9.here hx rfl (pc0 := 29) (pc' := 64) rfl (hb hby d1_29) rfl (flt (by decide : ¬ ((0 : Int32) < (0 : Int32)))).2.1 (by decide) (by decide) kk) ?_
  exact Go.ret0 X9 hx hlk Bd.returns (hb hby d1_64) (by rw [e9]; exact ⟨_, rfl, N6, Kp8, E_a0, F_counts, V_b2, sz_b2⟩) (by decide) (by decide)
def fS0  : Int64 := (0 : Int64)
theorem d3_0 : decode prog_19_method_4_code 0 = .ok (.lconst 0, 1) := by decide +kernel
theorem d3_1 : decode prog_19_method_4_code 1 = .ok (.lstore_n 1, 1) := by decide +kernel
theorem d3_2 : decode prog_19_method_4_code 2 = .ok (.aload_n 0, 1) := by decide +kernel
theorem d3_3 : decode prog_19_method_4_code 3 = .ok (.getfield 13, 3) := by decide +kernel
theorem d3_6 : decode prog_19_method_4_code 6 = .ok (.astore_n 3, 1) := by decide +kernel
theorem d3_7 : decode prog_19_method_4_code 7 = .ok (.aload_n 3, 1) := by decide +kernel
theorem d3_8 : decode prog_19_method_4_code 8 = .ok (.arraylength, 1) := by decide +kernel
theorem d3_9 : decode prog_19_method_4_code 9 = .ok (.istore 4, 2) := by decide +kernel
theorem d3_11 : decode prog_19_method_4_code 11 = .ok (.iconst 0, 1) := by decide +kernel
theorem d3_12 : decode prog_19_method_4_code 12 = .ok (.istore 5, 2) := by decide +kernel
theorem d3_14 : decode prog_19_method_4_code 14 = .ok (.iload 5, 2) := by decide +kernel
theorem d3_16 : decode prog_19_method_4_code 16 = .ok (.iload 4, 2) := by decide +kernel
theorem d3_18 : decode prog_19_method_4_code 18 = .ok (.if_icmp .ge 21, 3) := by decide +kernel
theorem d3_21 : decode prog_19_method_4_code 21 = .ok (.aload_n 3, 1) := by decide +kernel
theorem d3_22 : decode prog_19_method_4_code 22 = .ok (.iload 5, 2) := by decide +kernel
theorem d3_24 : decode prog_19_method_4_code 24 = .ok (.iaload, 1) := by decide +kernel
theorem d3_25 : decode prog_19_method_4_code 25 = .ok (.istore 6, 2) := by decide +kernel
theorem d3_27 : decode prog_19_method_4_code 27 = .ok (.lload_n 1, 1) := by decide +kernel
theorem d3_28 : decode prog_19_method_4_code 28 = .ok (.iload 6, 2) := by decide +kernel
theorem d3_30 : decode prog_19_method_4_code 30 = .ok (.i2l, 1) := by decide +kernel
theorem d3_31 : decode prog_19_method_4_code 31 = .ok (.ladd, 1) := by decide +kernel
theorem d3_32 : decode prog_19_method_4_code 32 = .ok (.lstore_n 1, 1) := by decide +kernel
theorem d3_33 : decode prog_19_method_4_code 33 = .ok (.iinc 5 1, 3) := by decide +kernel
theorem d3_36 : decode prog_19_method_4_code 36 = .ok (.goto (-22), 3) := by decide +kernel
theorem d3_39 : decode prog_19_method_4_code 39 = .ok (.lload_n 1, 1) := by decide +kernel
theorem d3_40 : decode prog_19_method_4_code 40 = .ok (.lreturn, 1) := by decide +kernel
theorem ef_3 (m : MethodId) (a0 : Addr) : entryFrame m #[(.ref a0)] 7 = mkF m 0 #[.val (.ref a0), .unset, .unset, .unset, .unset, .unset, .unset] [] := by first | (simp [entryFrame, mkF, argsToLocals, Value.category]; done) | rfl
set_option maxRecDepth 65536 in
set_option maxHeartbeats 40000000 in
theorem rmS0 (l : Launch) (Z : State) (az : Array Value) (hw : ∀ d ∈ tables_1, d.before az Z = true) (ws : List Jvm.Cond) (a0 : Addr) (t : Addr) (kk : ClassId)  (h0 : Heap) (n0 : Nat) (Z0 : n0 ≤ h0.size) (F_counts : Fld Z h0 a0 "com/example/patient_snoop/patientsnoop/model/Configuration" "counts" "[I" (.ref t)) (V_t : Arv Z h0 t kk .int (0 : Int32) [] (.int (0 : Int32))) :
    MetFree l (⟨"com/example/patient_snoop/patientsnoop/model/Configuration", "caches", "()J"⟩ : MethodName) (head1 (Jvm.Cond.code (⟨"com/example/patient_snoop/patientsnoop/model/Configuration", "caches", "()J"⟩ : MethodName) prog_19_method_4_code 7 (some .long) :: ws) ({ frames := 0, cells := 0, slots := 0, locals := 0 } : Room)) (fun a U => a = #[(.ref a0)] ∧ Z.Warmed39 U.vm ∧ U.heap = h0) (fun _ _ _ _ _ => True) (fun _ U o U' => ∃ v L, o = .returned v ∧ (PQ (.long (fS0 )) n0 h0) v U'.heap L ∧ FrameEnd U o U' L ({ frames := 0, cells := 0, slots := 0, locals := 0 } : Room).cells ({ frames := 0, cells := 0, slots := 0, locals := 0 } : Room).slots) := by
  refine MetFree.of_bodySF (plainFor_of_name pn_0) hisR ?_
  intro p e s m args below meth c s₁ Bd hml0 hP hK
  obtain ⟨rfl, hZ, hh⟩ := hP
  have hx := Bd.exec
  have hby := Bd.bytes
  have hlk : meth.locks = false := Bd.notSynchronized
  have hml : c.maxLocals = 7 := hml0
  have hown : s.vm.findClass "com/example/patient_snoop/patientsnoop/model/Configuration" = some m.cls := findClass_of_methodNamed Bd.named
  have hnm := (name_of_methodNamed Bd.named Bd.method).1
  have X0 : Stand p l e ({ frames := 0, cells := 0, slots := 0, locals := 0 } : Room) s m #[(.ref a0)] below meth c s₁ [] 0 0 := Stand.of_body Bd
  have e0 : s₁.heap = h0 := by rw [← hh, Bd.state]; rfl
  have N0 := Fr.nil n0
  show Go p e below s ((PQ (.long (fS0 )) n0 h0)) ({ frames := 0, cells := 0, slots := 0, locals := 0 } : Room).cells ({ frames := 0, cells := 0, slots := 0, locals := 0 } : Room).slots (s₁.setTop (entryFrame m #[(.ref a0)] 7))
  rw [ef_3 m a0]
  refine Go.st (S' := s₁.setTop (mkF m 1 #[.val (.ref a0), .unset, .unset, .unset, .unset, .unset, .unset] [(.long (0 : Int64))])) (fun _ kk => XS.lconst X0.here hx rfl (hb hby d3_0) kk) ?_
  refine Go.st (S' := s₁.setTop (mkF m 2 #[.val (.ref a0), .val (.long (0 : Int64)), .second, .unset, .unset, .unset, .unset] [])) (fun _ kk => XS.lstoreN X0.here hx rfl (hb hby d3_1) rfl (l' := #[.val (.ref a0), .val (.long (0 : Int64)), .second, .unset, .unset, .unset, .unset]) rfl kk) ?_
  refine Go.st (S' := s₁.setTop (mkF m 3 #[.val (.ref a0), .val (.long (0 : Int64)), .second, .unset, .unset, .unset, .unset] [(.ref a0)])) (fun _ kk => XS.aloadN X0.here hx rfl (hb hby d3_2) rfl rfl kk) ?_
  obtain ⟨T1, X1, e1, st1⟩ := getF X0 hx hZ hown (host := "") (Or.inl (hw _ (List.mem_of_getElem? (i := 20) rfl))) Via.refl e0 F_counts (g := (mkF m 3 #[.val (.ref a0), .val (.long (0 : Int64)), .second, .unset, .unset, .unset, .unset] [(.ref a0)])) rfl rfl (hb hby d3_3)
  refine Go.st (S' := T1.setTop (mkF m 6 #[.val (.ref a0), .val (.long (0 : Int64)), .second, .unset, .unset, .unset, .unset] [(.ref t)])) st1 ?_
  refine Go.st (S' := T1.setTop (mkF m 7 #[.val (.ref a0), .val (.long (0 : Int64)), .second, .val (.ref t), .unset, .unset, .unset] [])) (fun _ kk => XS.astoreN X1.here hx rfl (hb hby d3_6) rfl rfl (l' := #[.val (.ref a0), .val (.long (0 : Int64)), .second, .val (.ref t), .unset, .unset, .unset]) rfl kk) ?_
  refine Go.st (S' := T1.setTop (mkF m 8 #[.val (.ref a0), .val (.long (0 : Int64)), .second, .val (.ref t), .unset, .unset, .unset] [(.ref t)])) (fun _ kk => XS.aloadN X1.here hx rfl (hb hby d3_7) rfl rfl kk) ?_
  obtain ⟨cl2, Ar2, -, S2, Ng2, -, -⟩ := (id V_t)
  refine Go.st (S' := T1.setTop (mkF m 9 #[.val (.ref a0), .val (.long (0 : Int64)), .second, .val (.ref t), .unset, .unset, .unset] [(.int (0 : Int32))])) (fun _ kk => X1.arraylength hx (by rw [e1]; exact Ar2.1) (State.isArrayOf_alike hZ.alike Ar2.2.1) (g := (mkF m 8 #[.val (.ref a0), .val (.long (0 : Int64)), .second, .val (.ref t), .unset, .unset, .unset] [(.ref t)])) rfl rfl (hb hby d3_8) _ (by rw [len_of S2 Ng2]; exact kk)) ?_
  refine Go.st (S' := T1.setTop (mkF m 11 #[.val (.ref a0), .val (.long (0 : Int64)), .second, .val (.ref t), .val (.int (0 : Int32)), .unset, .unset] [])) (fun _ kk => XS.istore X1.here hx rfl (hb hby d3_9) rfl (l' := #[.val (.ref a0), .val (.long (0 : Int64)), .second, .val (.ref t), .val (.int (0 : Int32)), .unset, .unset]) rfl kk) ?_
  refine Go.st (S' := T1.setTop (mkF m 12 #[.val (.ref a0), .val (.long (0 : Int64)), .second, .val (.ref t), .val (.int (0 : Int32)), .unset, .unset] [(.int (0 : Int32))])) (fun _ kk => XS.iconst X1.here hx rfl (hb hby d3_11) kk) ?_
  refine Go.st (S' := T1.setTop (mkF m 14 #[.val (.ref a0), .val (.long (0 : Int64)), .second, .val (.ref t), .val (.int (0 : Int32)), .val (.int (0 : Int32)), .unset] [])) (fun _ kk => XS.istore X1.here hx rfl (hb hby d3_12) rfl (l' := #[.val (.ref a0), .val (.long (0 : Int64)), .second, .val (.ref t), .val (.int (0 : Int32)), .val (.int (0 : Int32)), .unset]) rfl kk) ?_
  refine Go.st (S' := T1.setTop (mkF m 16 #[.val (.ref a0), .val (.long (0 : Int64)), .second, .val (.ref t), .val (.int (0 : Int32)), .val (.int (0 : Int32)), .unset] [(.int (0 : Int32))])) (fun _ kk => XS.iload X1.here hx rfl (hb hby d3_14) rfl kk) ?_
  refine Go.st (S' := T1.setTop (mkF m 18 #[.val (.ref a0), .val (.long (0 : Int64)), .second, .val (.ref t), .val (.int (0 : Int32)), .val (.int (0 : Int32)), .unset] [(.int (0 : Int32)), (.int (0 : Int32))])) (fun _ kk => XS.iload X1.here hx rfl (hb hby d3_16) rfl kk) ?_
  refine Go.st (S' := T1.setTop (mkF m 39 #[.val (.ref a0), .val (.long (0 : Int64)), .second, .val (.ref t), .val (.int (0 : Int32)), .val (.int (0 : Int32)), .unset] [])) (fun _ kk => XS.icmpYes X1.here hx rfl (pc0 := 18) (pc' := 39) rfl (hb hby d3_18) rfl (flt (by decide : ¬ ((0 : Int32) < (0 : Int32)))).2.1 (by decide) (by decide) kk) ?_
  refine Go.st (S' := T1.setTop (mkF m 40 #[.val (.ref a0), .val (.long (0 : Int64)), .second, .val (.ref t), .val (.int (0 : Int32)), .val (.int (0 : Int32)), .unset] [(.long (0 : Int64))])) (fun _ kk => XS.lloadN X1.here hx rfl (hb hby d3_39) rfl kk) ?_
  exact Go.retJ X1 hx hlk Bd.returns (hb hby d3_40) (⟨congrArg (fun q => some (Value.long q)) (Eq.symm (show fS0  = (0 : Int64) from by rfl)), N0, e1⟩) (by decide) (by decide)
def Q_rmC1 (Z : State) (a0 : Addr) (x0 : Int32) (kk : ClassId) (h0 : Heap) (n0 : Nat) (v : Option Value) (h : Heap) (L : List Loc) : Prop := ∃ t : Addr, v = none ∧ Fr n0 L ∧ Keep h0 h [a0] ∧ Exa Z h a0 "com/example/patient_snoop/patientsnoop/model/Configuration" ∧ Fld Z h a0 "com/example/patient_snoop/patientsnoop/model/Configuration" "counts" "[I" (.ref t) ∧ Arv Z h t kk .int (1 : Int32) [(.int x0)] (.int (0 : Int32)) ∧ h0.size ≤ t
set_option maxRecDepth 65536 in
set_option maxHeartbeats 40000000 in
theorem rmC1 (l : Launch) (Z : State) (az : Array Value) (hw : ∀ d ∈ tables_1, d.before az Z = true) (ws : List Jvm.Cond) (a0 : Addr) (a1 : Addr) (x0 : Int32) (kk : ClassId) (h0 : Heap) (n0 : Nat) (Z0 : n0 ≤ h0.size) (E_a0 : Exa Z h0 a0 "com/example/patient_snoop/patientsnoop/model/Configuration") (g_a0 : n0 ≤ a0) (F_counts : Fld Z h0 a0 "com/example/patient_snoop/patientsnoop/model/Configuration" "counts" "[I" .null) (E_a1 : Exa Z h0 a1 "[I") (V_a1 : Arv Z h0 a1 kk .int (1 : Int32) [(.int x0)] (.int (0 : Int32))) (hx0 : ¬ x0 < (0 : Int32)) :
    MetFree l (⟨"com/example/patient_snoop/patientsnoop/model/Configuration", "<init>", "([I)V"⟩ : MethodName) (head1 (Jvm.Cond.code (⟨"com/example/patient_snoop/patientsnoop/model/Configuration", "<init>", "([I)V"⟩ : MethodName) prog_19_method_1_code 6 none :: ws) ({ frames := 1, cells := 1, slots := 1, locals := 20 } : Room)) (fun a U => a = #[(.ref a0), (.ref a1)] ∧ Z.Warmed39 U.vm ∧ U.heap = h0) (fun _ _ _ _ _ => True) (fun _ U o U' => ∃ v L, o = .returned v ∧ (Q_rmC1 Z a0 x0 kk h0 n0) v U'.heap L ∧ FrameEnd U o U' L ({ frames := 1, cells := 1, slots := 1, locals := 20 } : Room).cells ({ frames := 1, cells := 1, slots := 1, locals := 20 } : Room).slots) := by
  refine MetFree.of_bodySF (plainFor_of_name pn_0) hisR ?_
  intro p e s m args below meth c s₁ Bd hml0 hP hK
  obtain ⟨rfl, hZ, hh⟩ := hP
  have hx := Bd.exec
  have hby := Bd.bytes
  have hlk : meth.locks = false := Bd.notSynchronized
  have hml : c.maxLocals = 6 := hml0
  have hown : s.vm.findClass "com/example/patient_snoop/patientsnoop/model/Configuration" = some m.cls := findClass_of_methodNamed Bd.named
  have hnm := (name_of_methodNamed Bd.named Bd.method).1
  have X0 : Stand p l e ({ frames := 1, cells := 1, slots := 1, locals := 20 } : Room) s m #[(.ref a0), (.ref a1)] below meth c s₁ [] 0 0 := Stand.of_body Bd
  have e0 : s₁.heap = h0 := by rw [← hh, Bd.state]; rfl
  have N0 := Fr.nil n0
  show Go p e below s ((Q_rmC1 Z a0 x0 kk h0 n0)) ({ frames := 1, cells := 1, slots := 1, locals := 20 } : Room).cells ({ frames := 1, cells := 1, slots := 1, locals := 20 } : Room).slots (s₁.setTop (entryFrame m #[(.ref a0), (.ref a1)] 6))
  rw [ef_1 m a0 a1]
  have ne_a0_a1 : a0 ≠ a1 := ne_exa E_a0 E_a1 (by decide)
  refine Go.st (S' := s₁.setTop (mkF m 1 #[.val (.ref a0), .val (.ref a1), .unset, .unset, .unset, .unset] [(.ref a0)])) (fun _ kk => XS.aloadN X0.here hx rfl (hb hby d1_0) rfl rfl kk) ?_
  obtain ⟨T1, X1, e1, st1⟩ := initO X0 hx hZ hown (hw _ (List.mem_of_getElem? (i := 8) rfl)) (hw _ (List.mem_of_getElem? (i := 9) rfl)) (hw _ (List.mem_of_getElem? (i := 10) rfl)) e0 (g := (mkF m 1 #[.val (.ref a0), .val (.ref a1), .unset, .unset, .unset, .unset] [(.ref a0)])) rfl (by rw [hml]; rfl) rfl (hb hby d1_1) (by decide) (W := 0) (by show 2 * 0 + _ ≤ _; exact Nat.le_of_eq rfl) (by decide)
  refine Go.st (S' := T1.setTop (mkF m 4 #[.val (.ref a0), .val (.ref a1), .unset, .unset, .unset, .unset] [])) st1 ?_
  refine Go.st (S' := T1.setTop (mkF m 5 #[.val (.ref a0), .val (.ref a1), .unset, .unset, .unset, .unset] [(.ref a0)])) (fun _ kk => XS.aloadN X1.here hx rfl (hb hby d1_4) rfl rfl kk) ?_
  refine Go.st (S' := T1.setTop (mkF m 6 #[.val (.ref a0), .val (.ref a1), .unset, .unset, .unset, .unset] [(.ref a1), (.ref a0)])) (fun _ kk => XS.aloadN X1.here hx rfl (hb hby d1_5) rfl rfl kk) ?_
  obtain ⟨T2, h2, X2, e2, E2, A2, E_b2, st2⟩ := cloneH X1 hx hZ hown (hw _ (List.mem_of_getElem? (i := 11) rfl)) (hw _ (List.mem_of_getElem? (i := 12) rfl)) (hw _ (List.mem_of_getElem? (i := 16) rfl)) (hw _ (List.mem_of_getElem? (i := 14) rfl)) (hw _ (List.mem_of_getElem? (i := 15) rfl)) (hw _ (List.mem_of_getElem? (i := 17) rfl)) e1 (Arv.arh V_a1) E_a1 (g := (mkF m 6 #[.val (.ref a0), .val (.ref a1), .unset, .unset, .unset, .unset] [(.ref a1), (.ref a0)])) rfl (by rw [hml]; rfl) rfl (hb hby d1_6) (by decide) (W := 1) (cap := 1) (by show 2 * 0 + _ ≤ _; exact Nat.le_of_eq rfl) (by decide) (by decide) (by decide) (by decide)
  obtain ⟨b2, g2⟩ : ∃ z, z = h0.size := ⟨_, rfl⟩
  rw [← g2] at A2 E_b2 st2
  have ne_a0_b2 : a0 ≠ b2 := Nat.ne_of_lt (Nat.lt_of_lt_of_le E_a0.lt (Nat.le_of_eq g2.symm))
  have ne_a1_b2 : a1 ≠ b2 := Nat.ne_of_lt (Nat.lt_of_lt_of_le E_a1.lt (Nat.le_of_eq g2.symm))
  have g_b2 : n0 ≤ b2 := Nat.le_trans Z0 (Nat.le_of_eq g2.symm)
  have sz_b2 : h0.size ≤ b2 := Nat.le_trans (Keep.refl h0 [a0]).1 (Nat.le_of_eq g2.symm)
  have E_a0 := E_a0.ext E2
  have F_counts := F_counts.ext E2
  have E_a1 := E_a1.ext E2
  have V_a1 := V_a1.ext E2
  have Zs3 := Nat.le_trans Z0 E2.1
  have Kp4 := (Keep.refl h0 [a0]).ext E2
  have V_b2 : Arv Z h2 b2 kk .int (1 : Int32) [(.int x0)] (.int (0 : Int32)) := A2
  refine Go.st (S' := T2.setTop (mkF m 9 #[.val (.ref a0), .val (.ref a1), .unset, .unset, .unset, .unset] [(.ref b2), (.ref a0)])) st2 ?_
  obtain ⟨T5, X5, e5, st5⟩ := castY X2 hx hZ hown (hw _ (List.mem_of_getElem? (i := 18) rfl)) e2 (Ins.self E_b2) (g := (mkF m 9 #[.val (.ref a0), .val (.ref a1), .unset, .unset, .unset, .unset] [(.ref b2), (.ref a0)])) rfl rfl (hb hby d1_9)
  refine Go.st (S' := T5.setTop (mkF m 12 #[.val (.ref a0), .val (.ref a1), .unset, .unset, .unset, .unset] [(.ref b2), (.ref a0)])) st5 ?_
  obtain ⟨T6, h6, X6, e6, W6, st6⟩ := putF X5 hx hZ hown (host := "") (Or.inl (hw _ (List.mem_of_getElem? (i := 20) rfl))) Via.refl e5 F_counts E_a0 (Or.inr ⟨(hw _ (List.mem_of_getElem? (i := 21) rfl)), rfl, hnm⟩) (hw _ (List.mem_of_getElem? (i := 3) rfl)) (ty := (.array .int)) (by decide) rfl rfl (g := (mkF m 12 #[.val (.ref a0), .val (.ref a1), .unset, .unset, .unset, .unset] [(.ref b2), (.ref a0)])) rfl rfl (hb hby d1_12)
  have N6 := Fr.snoc X6 N0 g_a0
  have F_counts := F_counts.same W6
  have E_a0 := E_a0.wr W6
  have E_a1 := E_a1.wr W6
  have V_a1 := V_a1.other W6 (Ne.symm ne_a0_a1)
  have E_b2 := E_b2.wr W6
  have V_b2 := V_b2.other W6 (Ne.symm ne_a0_b2)
  have Zs7 := Nat.le_trans Zs3 (Keep.of_wr W6).1
  have Kp8 := Kp4.wr W6 (Or.inl (List.mem_of_getElem? (i := 0) rfl))
  refine Go.st (S' := T6.setTop (mkF m 15 #[.val (.ref a0), .val (.ref a1), .unset, .unset, .unset, .unset] [])) st6 ?_
  refine Go.st (S' := T6.setTop (mkF m 16 #[.val (.ref a0), .val (.ref a1), .unset, .unset, .unset, .unset] [(.ref a0)])) (fun _ kk => XS.aloadN X6.here hx rfl (hb hby d1_15) rfl rfl kk) ?_
  obtain ⟨T9, X9, e9, st9⟩ := getF X6 hx hZ hown (host := "") (Or.inl (hw _ (List.mem_of_getElem? (i := 20) rfl))) Via.refl e6 F_counts (g := (mkF m 16 #[.val (.ref a0), .val (.ref a1), .unset, .unset, .unset, .unset] [(.ref a0)])) rfl rfl (hb hby d1_16)
  refine Go.st (S' := T9.setTop (mkF m 19 #[.val (.ref a0), .val (.ref a1), .unset, .unset, .unset, .unset] [(.ref b2)])) st9 ?_
  refine Go.st (S' := T9.setTop (mkF m 20 #[.val (.ref a0), .val (.ref a1), .val (.ref b2), .unset, .unset, .unset] [])) (fun _ kk => XS.astoreN X9.here hx rfl (hb hby d1_19) rfl rfl (l' := #[.val (.ref a0), .val (.ref a1), .val (.ref b2), .unset, .unset, .unset]) rfl kk) ?_
  refine Go.st (S' := T9.setTop (mkF m 21 #[.val (.ref a0), .val (.ref a1), .val (.ref b2), .unset, .unset, .unset] [(.ref b2)])) (fun _ kk => XS.aloadN X9.here hx rfl (hb hby d1_20) rfl rfl kk) ?_
  obtain ⟨cl10, Ar10, -, S10, Ng10, -, -⟩ := (id V_b2)
  refine Go.st (S' := T9.setTop (mkF m 22 #[.val (.ref a0), .val (.ref a1), .val (.ref b2), .unset, .unset, .unset] [(.int (1 : Int32))])) (fun _ kk => X9.arraylength hx (by rw [e9]; exact Ar10.1) (State.isArrayOf_alike hZ.alike Ar10.2.1) (g := (mkF m 21 #[.val (.ref a0), .val (.ref a1), .val (.ref b2), .unset, .unset, .unset] [(.ref b2)])) rfl rfl (hb hby d1_21) _ (by rw [len_of S10 Ng10]; exact kk)) ?_
  refine Go.st (S' := T9.setTop (mkF m 23 #[.val (.ref a0), .val (.ref a1), .val (.ref b2), .val (.int (1 : Int32)), .unset, .unset] [])) (fun _ kk => XS.istoreN X9.here hx rfl (hb hby d1_22) rfl (l' := #[.val (.ref a0), .val (.ref a1), .val (.ref b2), .val (.int (1 : Int32)), .unset, .unset]) rfl kk) ?_
  refine Go.st (S' := T9.setTop (mkF m 24 #[.val (.ref a0), .val (.ref a1), .val (.ref b2), .val (.int (1 : Int32)), .unset, .unset] [(.int (0 : Int32))])) (fun _ kk => XS.iconst X9.here hx rfl (hb hby d1_23) kk) ?_
  refine Go.st (S' := T9.setTop (mkF m 26 #[.val (.ref a0), .val (.ref a1), .val (.ref b2), .val (.int (1 : Int32)), .val (.int (0 : Int32)), .unset] [])) (fun _ kk => XS.istore X9.here hx rfl (hb hby d1_24) rfl (l' := #[.val (.ref a0), .val (.ref a1), .val (.ref b2), .val (.int (1 : Int32)), .val (.int (0 : Int32)), .unset]) rfl kk) ?_
  refine Go.st (S' := T9.setTop (mkF m 28 #[.val (.ref a0), .val (.ref a1), .val (.ref b2), .val (.int (1 : Int32)), .val (.int (0 : Int32)), .unset] [(.int (0 : Int32))])) (fun _ kk => XS.iload X9.here hx rfl (hb hby d1_26) rfl kk) ?_
  refine Go.st (S' := T9.setTop (mkF m 29 #[.val (.ref a0), .val (.ref a1), .val (.ref b2), .val (.int (1 : Int32)), .val (.int (0 : Int32)), .unset] [(.int (1 : Int32)), (.int (0 : Int32))])) (fun _ kk => XS.iloadN X9.here hx rfl (hb hby d1_28) rfl kk) ?_
  refine Go.st (S' := T9.setTop (mkF m 32 #[.val (.ref a0), .val (.ref a1), .val (.ref b2), .val (.int (1 : Int32)), .val (.int (0 : Int32)), .unset] [])) (fun _ kk => XS.icmpNo X9.here hx rfl (hb hby d1_29) rfl (tlt (by decide : (0 : Int32) < (1 : Int32))).2.1 kk) ?_
  refine Go.st (S' := T9.setTop (mkF m 33 #[.val (.ref a0), .val (.ref a1), .val (.ref b2), .val (.int (1 : Int32)), .val (.int (0 : Int32)), .unset] [(.ref b2)])) (fun _ kk => XS.aloadN X9.here hx rfl (hb hby d1_32) rfl rfl kk) ?_
  refine Go.st (S' := T9.setTop (mkF m 35 #[.val (.ref a0), .val (.ref a1), .val (.ref b2), .val (.int (1 : Int32)), .val (.int (0 : Int32)), .unset] [(.int (0 : Int32)), (.ref b2)])) (fun _ kk => XS.iload X9.here hx rfl (hb hby d1_33) rfl kk) ?_
  obtain ⟨cl11, Ar11, q11, S11, Ng11, H11, G11⟩ := (id V_b2)
  have hin11 : ¬ ((0 : Int32) < 0 ∨ cl11.slots.size ≤ ((0 : Int32)).toNatClampNeg) := inb_of S11 ⟨by decide, by decide⟩
  have hat11 : cl11.slots[((0 : Int32)).toNatClampNeg]? = some (.int x0) := Has.at H11 hin11 rfl
  refine Go.st (S' := T9.setTop (mkF m 36 #[.val (.ref a0), .val (.ref a1), .val (.ref b2), .val (.int (1 : Int32)), .val (.int (0 : Int32)), .unset] [(.int x0)])) (fun _ kk => X9.iaload hx (j := (0 : Int32)) (v := (.int x0)) (by rw [e9]; exact Ar11.1) (State.isArrayOf_alike hZ.alike Ar11.2.1) Ar11.2.2 hin11 hat11 (g := (mkF m 35 #[.val (.ref a0), .val (.ref a1), .val (.ref b2), .val (.int (1 : Int32)), .val (.int (0 : Int32)), .unset] [(.int (0 : Int32)), (.ref b2)])) rfl rfl (hb hby d1_35) _ kk) ?_
  refine Go.st (S' := T9.setTop (mkF m 38 #[.val (.ref a0), .val (.ref a1), .val (.ref b2), .val (.int (1 : Int32)), .val (.int (0 : Int32)), .val (.int x0)] [])) (fun _ kk => XS.istore X9.here hx rfl (hb hby d1_36) rfl (l' := #[.val (.ref a0), .val (.ref a1), .val (.ref b2), .val (.int (1 : Int32)), .val (.int (0 : Int32)), .val (.int x0)]) rfl kk) ?_
  refine Go.st (S' := T9.setTop (mkF m 40 #[.val (.ref a0), .val (.ref a1), .val (.ref b2), .val (.int (1 : Int32)), .val (.int (0 : Int32)), .val (.int x0)] [(.int x0)])) (fun _ kk => XS.iload X9.here hx rfl (hb hby d1_38) rfl kk) ?_
  refine Go.st (S' := T9.setTop (mkF m 58 #[.val (.ref a0), .val (.ref a1), .val (.ref b2), .val (.int (1 : Int32)), .val (.int (0 : Int32)), .val (.int x0)] [])) (fun _ kk => XS.ifYes X9.here hx rfl (pc0 := 40) (pc' := 58) rfl (hb hby d1_40) rfl ((if0 _ _).trans (flt hx0).2.1) (by decide) (by decide) kk) ?_
  refine Go.st (S' := T9.setTop (mkF m 61 #[.val (.ref a0), .val (.ref a1), .val (.ref b2), .val (.int (1 : Int32)), .val (.int (1 : Int32)), .val (.int x0)] [])) (fun _ kk => XS.iinc X9.here hx rfl (hb hby d1_58) rfl (l' := #[.val (.ref a0), .val (.ref a1), .val (.ref b2), .val (.int (1 : Int32)), .val (.int (1 : Int32)), .val (.int x0)]) rfl kk) ?_
  refine Go.st (S' := T9.setTop (mkF m 26 #[.val (.ref a0), .val (.ref a1), .val (.ref b2), .val (.int (1 : Int32)), .val (.int (1 : Int32)), .val (.int x0)] [])) (fun _ kk => XS.goto X9.here hx rfl (pc0 := 61) (pc' := 26) rfl (hb hby d1_61) (by decide) (by decide) kk) ?_
  refine Go.st (S' := T9.setTop (mkF m 28 #[.val (.ref a0), .val (.ref a1), .val (.ref b2), .val (.int (1 : Int32)), .val (.int (1 : Int32)), .val (.int x0)] [(.int (1 : Int32))])) (fun _ kk => XS.iload X9.here hx rfl (hb hby d1_26) rfl kk) ?_
  refine Go.st (S' := T9.setTop (mkF m 29 #[.val (.ref a0), .val (.ref a1), .val (.ref b2), .val (.int (1 : Int32)), .val (.int (1 : Int32)), .val (.int x0)] [(.int (1 : Int32)), (.int (1 : Int32))])) (fun _ kk => XS.iloadN X9.here hx rfl (hb hby d1_28) rfl kk) ?_
  refine Go.st (S' := T9.setTop (mkF m 64 #[.val (.ref a0), .val (.ref a1), .val (.ref b2), .val (.int (1 : Int32)), .val (.int (1 : Int32)), .val (.int x0)] [])) (fun _ kk => XS.icmpYes X9.here hx rfl (pc0 := 29) (pc' := 64) rfl (hb hby d1_29) rfl (flt (by decide : ¬ ((1 : Int32) < (1 : Int32)))).2.1 (by decide) (by decide) kk) ?_
  exact Go.ret0 X9 hx hlk Bd.returns (hb hby d1_64) (by rw [e9]; exact ⟨_, rfl, N6, Kp8, E_a0, F_counts, V_b2, sz_b2⟩) (by decide) (by decide)
def fS1 (x0 : Int32) : Int64 := ((0 : Int64) + (x0.toInt64))
set_option maxRecDepth 65536 in
set_option maxHeartbeats 40000000 in
theorem rmS1 (l : Launch) (Z : State) (az : Array Value) (hw : ∀ d ∈ tables_1, d.before az Z = true) (ws : List Jvm.Cond) (a0 : Addr) (t : Addr) (kk : ClassId) (x0 : Int32) (h0 : Heap) (n0 : Nat) (Z0 : n0 ≤ h0.size) (F_counts : Fld Z h0 a0 "com/example/patient_snoop/patientsnoop/model/Configuration" "counts" "[I" (.ref t)) (V_t : Arv Z h0 t kk .int (1 : Int32) [(.int x0)] (.int (0 : Int32))) :
    MetFree l (⟨"com/example/patient_snoop/patientsnoop/model/Configuration", "caches", "()J"⟩ : MethodName) (head1 (Jvm.Cond.code (⟨"com/example/patient_snoop/patientsnoop/model/Configuration", "caches", "()J"⟩ : MethodName) prog_19_method_4_code 7 (some .long) :: ws) ({ frames := 0, cells := 0, slots := 0, locals := 0 } : Room)) (fun a U => a = #[(.ref a0)] ∧ Z.Warmed39 U.vm ∧ U.heap = h0) (fun _ _ _ _ _ => True) (fun _ U o U' => ∃ v L, o = .returned v ∧ (PQ (.long (fS1 x0)) n0 h0) v U'.heap L ∧ FrameEnd U o U' L ({ frames := 0, cells := 0, slots := 0, locals := 0 } : Room).cells ({ frames := 0, cells := 0, slots := 0, locals := 0 } : Room).slots) := by
  refine MetFree.of_bodySF (plainFor_of_name pn_0) hisR ?_
  intro p e s m args below meth c s₁ Bd hml0 hP hK
  obtain ⟨rfl, hZ, hh⟩ := hP
  have hx := Bd.exec
  have hby := Bd.bytes
  have hlk : meth.locks = false := Bd.notSynchronized
  have hml : c.maxLocals = 7 := hml0
  have hown : s.vm.findClass "com/example/patient_snoop/patientsnoop/model/Configuration" = some m.cls := findClass_of_methodNamed Bd.named
  have hnm := (name_of_methodNamed Bd.named Bd.method).1
  have X0 : Stand p l e ({ frames := 0, cells := 0, slots := 0, locals := 0 } : Room) s m #[(.ref a0)] below meth c s₁ [] 0 0 := Stand.of_body Bd
  have e0 : s₁.heap = h0 := by rw [← hh, Bd.state]; rfl
  have N0 := Fr.nil n0
  show Go p e below s ((PQ (.long (fS1 x0)) n0 h0)) ({ frames := 0, cells := 0, slots := 0, locals := 0 } : Room).cells ({ frames := 0, cells := 0, slots := 0, locals := 0 } : Room).slots (s₁.setTop (entryFrame m #[(.ref a0)] 7))
  rw [ef_3 m a0]
  refine Go.st (S' := s₁.setTop (mkF m 1 #[.val (.ref a0), .unset, .unset, .unset, .unset, .unset, .unset] [(.long (0 : Int64))])) (fun _ kk => XS.lconst X0.here hx rfl (hb hby d3_0) kk) ?_
  refine Go.st (S' := s₁.setTop (mkF m 2 #[.val (.ref a0), .val (.long (0 : Int64)), .second, .unset, .unset, .unset, .unset] [])) (fun _ kk => XS.lstoreN X0.here hx rfl (hb hby d3_1) rfl (l' := #[.val (.ref a0), .val (.long (0 : Int64)), .second, .unset, .unset, .unset, .unset]) rfl kk) ?_
  refine Go.st (S' := s₁.setTop (mkF m 3 #[.val (.ref a0), .val (.long (0 : Int64)), .second, .unset, .unset, .unset, .unset] [(.ref a0)])) (fun _ kk => XS.aloadN X0.here hx rfl (hb hby d3_2) rfl rfl kk) ?_
  obtain ⟨T1, X1, e1, st1⟩ := getF X0 hx hZ hown (host := "") (Or.inl (hw _ (List.mem_of_getElem? (i := 20) rfl))) Via.refl e0 F_counts (g := (mkF m 3 #[.val (.ref a0), .val (.long (0 : Int64)), .second, .unset, .unset, .unset, .unset] [(.ref a0)])) rfl rfl (hb hby d3_3)
  refine Go.st (S' := T1.setTop (mkF m 6 #[.val (.ref a0), .val (.long (0 : Int64)), .second, .unset, .unset, .unset, .unset] [(.ref t)])) st1 ?_
  refine Go.st (S' := T1.setTop (mkF m 7 #[.val (.ref a0), .val (.long (0 : Int64)), .second, .val (.ref t), .unset, .unset, .unset] [])) (fun _ kk => XS.astoreN X1.here hx rfl (hb hby d3_6) rfl rfl (l' := #[.val (.ref a0), .val (.long (0 : Int64)), .second, .val (.ref t), .unset, .unset, .unset]) rfl kk) ?_
  refine Go.st (S' := T1.setTop (mkF m 8 #[.val (.ref a0), .val (.long (0 : Int64)), .second, .val (.ref t), .unset, .unset, .unset] [(.ref t)])) (fun _ kk => XS.aloadN X1.here hx rfl (hb hby d3_7) rfl rfl kk) ?_
  obtain ⟨cl2, Ar2, -, S2, Ng2, -, -⟩ := (id V_t)
  refine Go.st (S' := T1.setTop (mkF m 9 #[.val (.ref a0), .val (.long (0 : Int64)), .second, .val (.ref t), .unset, .unset, .unset] [(.int (1 : Int32))])) (fun _ kk => X1.arraylength hx (by rw [e1]; exact Ar2.1) (State.isArrayOf_alike hZ.alike Ar2.2.1) (g := (mkF m 8 #[.val (.ref a0), .val (.long (0 : Int64)), .second, .val (.ref t), .unset, .unset, .unset] [(.ref t)])) rfl rfl (hb hby d3_8) _ (by rw [len_of S2 Ng2]; exact kk)) ?_
  refine Go.st (S' := T1.setTop (mkF m 11 #[.val (.ref a0), .val (.long (0 : Int64)), .second, .val (.ref t), .val (.int (1 : Int32)), .unset, .unset] [])) (fun _ kk => XS.istore X1.here hx rfl (hb hby d3_9) rfl (l' := #[.val (.ref a0), .val (.long (0 : Int64)), .second, .val (.ref t), .val (.int (1 : Int32)), .unset, .unset]) rfl kk) ?_
  refine Go.st (S' := T1.setTop (mkF m 12 #[.val (.ref a0), .val (.long (0 : Int64)), .second, .val (.ref t), .val (.int (1 : Int32)), .unset, .unset] [(.int (0 : Int32))])) (fun _ kk => XS.iconst X1.here hx rfl (hb hby d3_11) kk) ?_
  refine Go.st (S' := T1.setTop (mkF m 14 #[.val (.ref a0), .val (.long (0 : Int64)), .second, .val (.ref t), .val (.int (1 : Int32)), .val (.int (0 : Int32)), .unset] [])) (fun _ kk => XS.istore X1.here hx rfl (hb hby d3_12) rfl (l' := #[.val (.ref a0), .val (.long (0 : Int64)), .second, .val (.ref t), .val (.int (1 : Int32)), .val (.int (0 : Int32)), .unset]) rfl kk) ?_
  refine Go.st (S' := T1.setTop (mkF m 16 #[.val (.ref a0), .val (.long (0 : Int64)), .second, .val (.ref t), .val (.int (1 : Int32)), .val (.int (0 : Int32)), .unset] [(.int (0 : Int32))])) (fun _ kk => XS.iload X1.here hx rfl (hb hby d3_14) rfl kk) ?_
  refine Go.st (S' := T1.setTop (mkF m 18 #[.val (.ref a0), .val (.long (0 : Int64)), .second, .val (.ref t), .val (.int (1 : Int32)), .val (.int (0 : Int32)), .unset] [(.int (1 : Int32)), (.int (0 : Int32))])) (fun _ kk => XS.iload X1.here hx rfl (hb hby d3_16) rfl kk) ?_
  refine Go.st (S' := T1.setTop (mkF m 21 #[.val (.ref a0), .val (.long (0 : Int64)), .second, .val (.ref t), .val (.int (1 : Int32)), .val (.int (0 : Int32)), .unset] [])) (fun _ kk => XS.icmpNo X1.here hx rfl (hb hby d3_18) rfl (tlt (by decide : (0 : Int32) < (1 : Int32))).2.1 kk) ?_
  refine Go.st (S' := T1.setTop (mkF m 22 #[.val (.ref a0), .val (.long (0 : Int64)), .second, .val (.ref t), .val (.int (1 : Int32)), .val (.int (0 : Int32)), .unset] [(.ref t)])) (fun _ kk => XS.aloadN X1.here hx rfl (hb hby d3_21) rfl rfl kk) ?_
  refine Go.st (S' := T1.setTop (mkF m 24 #[.val (.ref a0), .val (.long (0 : Int64)), .second, .val (.ref t), .val (.int (1 : Int32)), .val (.int (0 : Int32)), .unset] [(.int (0 : Int32)), (.ref t)])) (fun _ kk => XS.iload X1.here hx rfl (hb hby d3_22) rfl kk) ?_
  obtain ⟨cl3, Ar3, q3, S3, Ng3, H3, G3⟩ := (id V_t)
  have hin3 : ¬ ((0 : Int32) < 0 ∨ cl3.slots.size ≤ ((0 : Int32)).toNatClampNeg) := inb_of S3 ⟨by decide, by decide⟩
  have hat3 : cl3.slots[((0 : Int32)).toNatClampNeg]? = some (.int x0) := Has.at H3 hin3 rfl
  refine Go.st (S' := T1.setTop (mkF m 25 #[.val (.ref a0), .val (.long (0 : Int64)), .second, .val (.ref t), .val (.int (1 : Int32)), .val (.int (0 : Int32)), .unset] [(.int x0)])) (fun _ kk => X1.iaload hx (j := (0 : Int32)) (v := (.int x0)) (by rw [e1]; exact Ar3.1) (State.isArrayOf_alike hZ.alike Ar3.2.1) Ar3.2.2 hin3 hat3 (g := (mkF m 24 #[.val (.ref a0), .val (.long (0 : Int64)), .second, .val (.ref t), .val (.int (1 : Int32)), .val (.int (0 : Int32)), .unset] [(.int (0 : Int32)), (.ref t)])) rfl rfl (hb hby d3_24) _ kk) ?_
  refine Go.st (S' := T1.setTop (mkF m 27 #[.val (.ref a0), .val (.long (0 : Int64)), .second, .val (.ref t), .val (.int (1 : Int32)), .val (.int (0 : Int32)), .val (.int x0)] [])) (fun _ kk => XS.istore X1.here hx rfl (hb hby d3_25) rfl (l' := #[.val (.ref a0), .val (.long (0 : Int64)), .second, .val (.ref t), .val (.int (1 : Int32)), .val (.int (0 : Int32)), .val (.int x0)]) rfl kk) ?_
  refine Go.st (S' := T1.setTop (mkF m 28 #[.val (.ref a0), .val (.long (0 : Int64)), .second, .val (.ref t), .val (.int (1 : Int32)), .val (.int (0 : Int32)), .val (.int x0)] [(.long (0 : Int64))])) (fun _ kk => XS.lloadN X1.here hx rfl (hb hby d3_27) rfl kk) ?_
  refine Go.st (S' := T1.setTop (mkF m 30 #[.val (.ref a0), .val (.long (0 : Int64)), .second, .val (.ref t), .val (.int (1 : Int32)), .val (.int (0 : Int32)), .val (.int x0)] [(.int x0), (.long (0 : Int64))])) (fun _ kk => XS.iload X1.here hx rfl (hb hby d3_28) rfl kk) ?_
  refine Go.st (S' := T1.setTop (mkF m 31 #[.val (.ref a0), .val (.long (0 : Int64)), .second, .val (.ref t), .val (.int (1 : Int32)), .val (.int (0 : Int32)), .val (.int x0)] [(.long (x0.toInt64)), (.long (0 : Int64))])) (fun _ kk => XS.i2l X1.here hx rfl (hb hby d3_30) rfl kk) ?_
  refine Go.st (S' := T1.setTop (mkF m 32 #[.val (.ref a0), .val (.long (0 : Int64)), .second, .val (.ref t), .val (.int (1 : Int32)), .val (.int (0 : Int32)), .val (.int x0)] [(.long ((0 : Int64) + (x0.toInt64)))])) (fun _ kk => XS.ladd X1.here hx rfl (hb hby d3_31) rfl kk) ?_
  refine Go.st (S' := T1.setTop (mkF m 33 #[.val (.ref a0), .val (.long ((0 : Int64) + (x0.toInt64))), .second, .val (.ref t), .val (.int (1 : Int32)), .val (.int (0 : Int32)), .val (.int x0)] [])) (fun _ kk => XS.lstoreN X1.here hx rfl (hb hby d3_32) rfl (l' := #[.val (.ref a0), .val (.long ((0 : Int64) + (x0.toInt64))), .second, .val (.ref t), .val (.int (1 : Int32)), .val (.int (0 : Int32)), .val (.int x0)]) rfl kk) ?_
  refine Go.st (S' := T1.setTop (mkF m 36 #[.val (.ref a0), .val (.long ((0 : Int64) + (x0.toInt64))), .second, .val (.ref t), .val (.int (1 : Int32)), .val (.int (1 : Int32)), .val (.int x0)] [])) (fun _ kk => XS.iinc X1.here hx rfl (hb hby d3_33) rfl (l' := #[.val (.ref a0), .val (.long ((0 : Int64) + (x0.toInt64))), .second, .val (.ref t), .val (.int (1 : Int32)), .val (.int (1 : Int32)), .val (.int x0)]) rfl kk) ?_
  refine Go.st (S' := T1.setTop (mkF m 14 #[.val (.ref a0), .val (.long ((0 : Int64) + (x0.toInt64))), .second, .val (.ref t), .val (.int (1 : Int32)), .val (.int (1 : Int32)), .val (.int x0)] [])) (fun _ kk => XS.goto X1.here hx rfl (pc0 := 36) (pc' := 14) rfl (hb hby d3_36) (by decide) (by decide) kk) ?_
  refine Go.st (S' := T1.setTop (mkF m 16 #[.val (.ref a0), .val (.long ((0 : Int64) + (x0.toInt64))), .second, .val (.ref t), .val (.int (1 : Int32)), .val (.int (1 : Int32)), .val (.int x0)] [(.int (1 : Int32))])) (fun _ kk => XS.iload X1.here hx rfl (hb hby d3_14) rfl kk) ?_
  refine Go.st (S' := T1.setTop (mkF m 18 #[.val (.ref a0), .val (.long ((0 : Int64) + (x0.toInt64))), .second, .val (.ref t), .val (.int (1 : Int32)), .val (.int (1 : Int32)), .val (.int x0)] [(.int (1 : Int32)), (.int (1 : Int32))])) (fun _ kk => XS.iload X1.here hx rfl (hb hby d3_16) rfl kk) ?_
  refine Go.st (S' := T1.setTop (mkF m 39 #[.val (.ref a0), .val (.long ((0 : Int64) + (x0.toInt64))), .second, .val (.ref t), .val (.int (1 : Int32)), .val (.int (1 : Int32)), .val (.int x0)] [])) (fun _ kk => XS.icmpYes X1.here hx rfl (pc0 := 18) (pc' := 39) rfl (hb hby d3_18) rfl (flt (by decide : ¬ ((1 : Int32) < (1 : Int32)))).2.1 (by decide) (by decide) kk) ?_
  refine Go.st (S' := T1.setTop (mkF m 40 #[.val (.ref a0), .val (.long ((0 : Int64) + (x0.toInt64))), .second, .val (.ref t), .val (.int (1 : Int32)), .val (.int (1 : Int32)), .val (.int x0)] [(.long ((0 : Int64) + (x0.toInt64)))])) (fun _ kk => XS.lloadN X1.here hx rfl (hb hby d3_39) rfl kk) ?_
  exact Go.retJ X1 hx hlk Bd.returns (hb hby d3_40) (⟨congrArg (fun q => some (Value.long q)) (Eq.symm (show fS1 x0 = ((0 : Int64) + (x0.toInt64)) from by rfl)), N0, e1⟩) (by decide) (by decide)
def Q_rmC2 (Z : State) (a0 : Addr) (x0 x1 : Int32) (kk : ClassId) (h0 : Heap) (n0 : Nat) (v : Option Value) (h : Heap) (L : List Loc) : Prop := ∃ t : Addr, v = none ∧ Fr n0 L ∧ Keep h0 h [a0] ∧ Exa Z h a0 "com/example/patient_snoop/patientsnoop/model/Configuration" ∧ Fld Z h a0 "com/example/patient_snoop/patientsnoop/model/Configuration" "counts" "[I" (.ref t) ∧ Arv Z h t kk .int (2 : Int32) [(.int x0), (.int x1)] (.int (0 : Int32)) ∧ h0.size ≤ t
set_option maxRecDepth 65536 in
set_option maxHeartbeats 40000000 in
theorem rmC2 (l : Launch) (Z : State) (az : Array Value) (hw : ∀ d ∈ tables_1, d.before az Z = true) (ws : List Jvm.Cond) (a0 : Addr) (a1 : Addr) (x0 x1 : Int32) (kk : ClassId) (h0 : Heap) (n0 : Nat) (Z0 : n0 ≤ h0.size) (E_a0 : Exa Z h0 a0 "com/example/patient_snoop/patientsnoop/model/Configuration") (g_a0 : n0 ≤ a0) (F_counts : Fld Z h0 a0 "com/example/patient_snoop/patientsnoop/model/Configuration" "counts" "[I" .null) (E_a1 : Exa Z h0 a1 "[I") (V_a1 : Arv Z h0 a1 kk .int (2 : Int32) [(.int x0), (.int x1)] (.int (0 : Int32))) (hx0 : ¬ x0 < (0 : Int32)) (hx1 : ¬ x1 < (0 : Int32)) :
    MetFree l (⟨"com/example/patient_snoop/patientsnoop/model/Configuration", "<init>", "([I)V"⟩ : MethodName) (head1 (Jvm.Cond.code (⟨"com/example/patient_snoop/patientsnoop/model/Configuration", "<init>", "([I)V"⟩ : MethodName) prog_19_method_1_code 6 none :: ws) ({ frames := 1, cells := 1, slots := 2, locals := 20 } : Room)) (fun a U => a = #[(.ref a0), (.ref a1)] ∧ Z.Warmed39 U.vm ∧ U.heap = h0) (fun _ _ _ _ _ => True) (fun _ U o U' => ∃ v L, o = .returned v ∧ (Q_rmC2 Z a0 x0 x1 kk h0 n0) v U'.heap L ∧ FrameEnd U o U' L ({ frames := 1, cells := 1, slots := 2, locals := 20 } : Room).cells ({ frames := 1, cells := 1, slots := 2, locals := 20 } : Room).slots) := by
  refine MetFree.of_bodySF (plainFor_of_name pn_0) hisR ?_
  intro p e s m args below meth c s₁ Bd hml0 hP hK
  obtain ⟨rfl, hZ, hh⟩ := hP
  have hx := Bd.exec
  have hby := Bd.bytes
  have hlk : meth.locks = false := Bd.notSynchronized
  have hml : c.maxLocals = 6 := hml0
  have hown : s.vm.findClass "com/example/patient_snoop/patientsnoop/model/Configuration" = some m.cls := findClass_of_methodNamed Bd.named
  have hnm := (name_of_methodNamed Bd.named Bd.method).1
  have X0 : Stand p l e ({ frames := 1, cells := 1, slots := 2, locals := 20 } : Room) s m #[(.ref a0), (.ref a1)] below meth c s₁ [] 0 0 := Stand.of_body Bd
  have e0 : s₁.heap = h0 := by rw [← hh, Bd.state]; rfl
  have N0 := Fr.nil n0
  show Go p e below s ((Q_rmC2 Z a0 x0 x1 kk h0 n0)) ({ frames := 1, cells := 1, slots := 2, locals := 20 } : Room).cells ({ frames := 1, cells := 1, slots := 2, locals := 20 } : Room).slots (s₁.setTop (entryFrame m #[(.ref a0), (.ref a1)] 6))
  rw [ef_1 m a0 a1]
  have ne_a0_a1 : a0 ≠ a1 := ne_exa E_a0 E_a1 (by decide)
  refine Go.st (S' := s₁.setTop (mkF m 1 #[.val (.ref a0), .val (.ref a1), .unset, .unset, .unset, .unset] [(.ref a0)])) (fun _ kk => XS.aloadN X0.here hx rfl (hb hby d1_0) rfl rfl kk) ?_
  obtain ⟨T1, X1, e1, st1⟩ := initO X0 hx hZ hown (hw _ (List.mem_of_getElem? (i := 8) rfl)) (hw _ (List.mem_of_getElem? (i := 9) rfl)) (hw _ (List.mem_of_getElem? (i := 10) rfl)) e0 (g := (mkF m 1 #[.val (.ref a0), .val (.ref a1), .unset, .unset, .unset, .unset] [(.ref a0)])) rfl (by rw [hml]; rfl) rfl (hb hby d1_1) (by decide) (W := 0) (by show 2 * 0 + _ ≤ _; exact Nat.le_of_eq rfl) (by decide)
  refine Go.st (S' := T1.setTop (mkF m 4 #[.val (.ref a0), .val (.ref a1), .unset, .unset, .unset, .unset] [])) st1 ?_
  refine Go.st (S' := T1.setTop (mkF m 5 #[.val (.ref a0), .val (.ref a1), .unset, .unset, .unset, .unset] [(.ref a0)])) (fun _ kk => XS.aloadN X1.here hx rfl (hb hby d1_4) rfl rfl kk) ?_
  refine Go.st (S' := T1.setTop (mkF m 6 #[.val (.ref a0), .val (.ref a1), .unset, .unset, .unset, .unset] [(.ref a1), (.ref a0)])) (fun _ kk => XS.aloadN X1.here hx rfl (hb hby d1_5) rfl rfl kk) ?_
  obtain ⟨T2, h2, X2, e2, E2, A2, E_b2, st2⟩ := cloneH X1 hx hZ hown (hw _ (List.mem_of_getElem? (i := 11) rfl)) (hw _ (List.mem_of_getElem? (i := 12) rfl)) (hw _ (List.mem_of_getElem? (i := 16) rfl)) (hw _ (List.mem_of_getElem? (i := 14) rfl)) (hw _ (List.mem_of_getElem? (i := 15) rfl)) (hw _ (List.mem_of_getElem? (i := 17) rfl)) e1 (Arv.arh V_a1) E_a1 (g := (mkF m 6 #[.val (.ref a0), .val (.ref a1), .unset, .unset, .unset, .unset] [(.ref a1), (.ref a0)])) rfl (by rw [hml]; rfl) rfl (hb hby d1_6) (by decide) (W := 1) (cap := 2) (by show 2 * 0 + _ ≤ _; exact Nat.le_of_eq rfl) (by decide) (by decide) (by decide) (by decide)
  obtain ⟨b2, g2⟩ : ∃ z, z = h0.size := ⟨_, rfl⟩
  rw [← g2] at A2 E_b2 st2
  have ne_a0_b2 : a0 ≠ b2 := Nat.ne_of_lt (Nat.lt_of_lt_of_le E_a0.lt (Nat.le_of_eq g2.symm))
  have ne_a1_b2 : a1 ≠ b2 := Nat.ne_of_lt (Nat.lt_of_lt_of_le E_a1.lt (Nat.le_of_eq g2.symm))
  have g_b2 : n0 ≤ b2 := Nat.le_trans Z0 (Nat.le_of_eq g2.symm)
  have sz_b2 : h0.size ≤ b2 := Nat.le_trans (Keep.refl h0 [a0]).1 (Nat.le_of_eq g2.symm)
  have E_a0 := E_a0.ext E2
  have F_counts := F_counts.ext E2
  have E_a1 := E_a1.ext E2
  have V_a1 := V_a1.ext E2
  have Zs3 := Nat.le_trans Z0 E2.1
  have Kp4 := (Keep.refl h0 [a0]).ext E2
  have V_b2 : Arv Z h2 b2 kk .int (2 : Int32) [(.int x0), (.int x1)] (.int (0 : Int32)) := A2
  refine Go.st (S' := T2.setTop (mkF m 9 #[.val (.ref a0), .val (.ref a1), .unset, .unset, .unset, .unset] [(.ref b2), (.ref a0)])) st2 ?_
  obtain ⟨T5, X5, e5, st5⟩ := castY X2 hx hZ hown (hw _ (List.mem_of_getElem? (i := 18) rfl)) e2 (Ins.self E_b2) (g := (mkF m 9 #[.val (.ref a0), .val (.ref a1), .unset, .unset, .unset, .unset] [(.ref b2), (.ref a0)])) rfl rfl (hb hby d1_9)
  refine Go.st (S' := T5.setTop (mkF m 12 #[.val (.ref a0), .val (.ref a1), .unset, .unset, .unset, .unset] [(.ref b2), (.ref a0)])) st5 ?_
  obtain ⟨T6, h6, X6, e6, W6, st6⟩ := putF X5 hx hZ hown (host := "") (Or.inl (hw _ (List.mem_of_getElem? (i := 20) rfl))) Via.refl e5 F_counts E_a0 (Or.inr ⟨(hw _ (List.mem_of_getElem? (i := 21) rfl)), rfl, hnm⟩) (hw _ (List.mem_of_getElem? (i := 3) rfl)) (ty := (.array .int)) (by decide) rfl rfl (g := (mkF m 12 #[.val (.ref a0), .val (.ref a1), .unset, .unset, .unset, .unset] [(.ref b2), (.ref a0)])) rfl rfl (hb hby d1_12)
  have N6 := Fr.snoc X6 N0 g_a0
  have F_counts := F_counts.same W6
  have E_a0 := E_a0.wr W6
  have E_a1 := E_a1.wr W6
  have V_a1 := V_a1.other W6 (Ne.symm ne_a0_a1)
  have E_b2 := E_b2.wr W6
  have V_b2 := V_b2.other W6 (Ne.symm ne_a0_b2)
  have Zs7 := Nat.le_trans Zs3 (Keep.of_wr W6).1
  have Kp8 := Kp4.wr W6 (Or.inl (List.mem_of_getElem? (i := 0) rfl))
  refine Go.st (S' := T6.setTop (mkF m 15 #[.val (.ref a0), .val (.ref a1), .unset, .unset, .unset, .unset] [])) st6 ?_
  refine Go.st (S' := T6.setTop (mkF m 16 #[.val (.ref a0), .val (.ref a1), .unset, .unset, .unset, .unset] [(.ref a0)])) (fun _ kk => XS.aloadN X6.here hx rfl (hb hby d1_15) rfl rfl kk) ?_
  obtain ⟨T9, X9, e9, st9⟩ := getF X6 hx hZ hown (host := "") (Or.inl (hw _ (List.mem_of_getElem? (i := 20) rfl))) Via.refl e6 F_counts (g := (mkF m 16 #[.val (.ref a0), .val (.ref a1), .unset, .unset, .unset, .unset] [(.ref a0)])) rfl rfl (hb hby d1_16)
  refine Go.st (S' := T9.setTop (mkF m 19 #[.val (.ref a0), .val (.ref a1), .unset, .unset, .unset, .unset] [(.ref b2)])) st9 ?_
  refine Go.st (S' := T9.setTop (mkF m 20 #[.val (.ref a0), .val (.ref a1), .val (.ref b2), .unset, .unset, .unset] [])) (fun _ kk => XS.astoreN X9.here hx rfl (hb hby d1_19) rfl rfl (l' := #[.val (.ref a0), .val (.ref a1), .val (.ref b2), .unset, .unset, .unset]) rfl kk) ?_
  refine Go.st (S' := T9.setTop (mkF m 21 #[.val (.ref a0), .val (.ref a1), .val (.ref b2), .unset, .unset, .unset] [(.ref b2)])) (fun _ kk => XS.aloadN X9.here hx rfl (hb hby d1_20) rfl rfl kk) ?_
  obtain ⟨cl10, Ar10, -, S10, Ng10, -, -⟩ := (id V_b2)
  refine Go.st (S' := T9.setTop (mkF m 22 #[.val (.ref a0), .val (.ref a1), .val (.ref b2), .unset, .unset, .unset] [(.int (2 : Int32))])) (fun _ kk => X9.arraylength hx (by rw [e9]; exact Ar10.1) (State.isArrayOf_alike hZ.alike Ar10.2.1) (g := (mkF m 21 #[.val (.ref a0), .val (.ref a1), .val (.ref b2), .unset, .unset, .unset] [(.ref b2)])) rfl rfl (hb hby d1_21) _ (by rw [len_of S10 Ng10]; exact kk)) ?_
  refine Go.st (S' := T9.setTop (mkF m 23 #[.val (.ref a0), .val (.ref a1), .val (.ref b2), .val (.int (2 : Int32)), .unset, .unset] [])) (fun _ kk => XS.istoreN X9.here hx rfl (hb hby d1_22) rfl (l' := #[.val (.ref a0), .val (.ref a1), .val (.ref b2), .val (.int (2 : Int32)), .unset, .unset]) rfl kk) ?_
  refine Go.st (S' := T9.setTop (mkF m 24 #[.val (.ref a0), .val (.ref a1), .val (.ref b2), .val (.int (2 : Int32)), .unset, .unset] [(.int (0 : Int32))])) (fun _ kk => XS.iconst X9.here hx rfl (hb hby d1_23) kk) ?_
  refine Go.st (S' := T9.setTop (mkF m 26 #[.val (.ref a0), .val (.ref a1), .val (.ref b2), .val (.int (2 : Int32)), .val (.int (0 : Int32)), .unset] [])) (fun _ kk => XS.istore X9.here hx rfl (hb hby d1_24) rfl (l' := #[.val (.ref a0), .val (.ref a1), .val (.ref b2), .val (.int (2 : Int32)), .val (.int (0 : Int32)), .unset]) rfl kk) ?_
  refine Go.st (S' := T9.setTop (mkF m 28 #[.val (.ref a0), .val (.ref a1), .val (.ref b2), .val (.int (2 : Int32)), .val (.int (0 : Int32)), .unset] [(.int (0 : Int32))])) (fun _ kk => XS.iload X9.here hx rfl (hb hby d1_26) rfl kk) ?_
  refine Go.st (S' := T9.setTop (mkF m 29 #[.val (.ref a0), .val (.ref a1), .val (.ref b2), .val (.int (2 : Int32)), .val (.int (0 : Int32)), .unset] [(.int (2 : Int32)), (.int (0 : Int32))])) (fun _ kk => XS.iloadN X9.here hx rfl (hb hby d1_28) rfl kk) ?_
  refine Go.st (S' := T9.setTop (mkF m 32 #[.val (.ref a0), .val (.ref a1), .val (.ref b2), .val (.int (2 : Int32)), .val (.int (0 : Int32)), .unset] [])) (fun _ kk => XS.icmpNo X9.here hx rfl (hb hby d1_29) rfl (tlt (by decide : (0 : Int32) < (2 : Int32))).2.1 kk) ?_
  refine Go.st (S' := T9.setTop (mkF m 33 #[.val (.ref a0), .val (.ref a1), .val (.ref b2), .val (.int (2 : Int32)), .val (.int (0 : Int32)), .unset] [(.ref b2)])) (fun _ kk => XS.aloadN X9.here hx rfl (hb hby d1_32) rfl rfl kk) ?_
  refine Go.st (S' := T9.setTop (mkF m 35 #[.val (.ref a0), .val (.ref a1), .val (.ref b2), .val (.int (2 : Int32)), .val (.int (0 : Int32)), .unset] [(.int (0 : Int32)), (.ref b2)])) (fun _ kk => XS.iload X9.here hx rfl (hb hby d1_33) rfl kk) ?_
  obtain ⟨cl11, Ar11, q11, S11, Ng11, H11, G11⟩ := (id V_b2)
  have hin11 : ¬ ((0 : Int32) < 0 ∨ cl11.slots.size ≤ ((0 : Int32)).toNatClampNeg) := inb_of S11 ⟨by decide, by decide⟩
  have hat11 : cl11.slots[((0 : Int32)).toNatClampNeg]? = some (.int x0) := Has.at H11 hin11 rfl
  refine Go.st (S' := T9.setTop (mkF m 36 #[.val (.ref a0), .val (.ref a1), .val (.ref b2), .val (.int (2 : Int32)), .val (.int (0 : Int32)), .unset] [(.int x0)])) (fun _ kk => X9.iaload hx (j := (0 : Int32)) (v := (.int x0)) (by rw [e9]; exact Ar11.1) (State.isArrayOf_alike hZ.alike Ar11.2.1) Ar11.2.2 hin11 hat11 (g := (mkF m 35 #[.val (.ref a0), .val (.ref a1), .val (.ref b2), .val (.int (2 : Int32)), .val (.int (0 : Int32)), .unset] [(.int (0 : Int32)), (.ref b2)])) rfl rfl (hb hby d1_35) _ kk) ?_
  refine Go.st (S' := T9.setTop (mkF m 38 #[.val (.ref a0), .val (.ref a1), .val (.ref b2), .val (.int (2 : Int32)), .val (.int (0 : Int32)), .val (.int x0)] [])) (fun _ kk => XS.istore X9.here hx rfl (hb hby d1_36) rfl (l' := #[.val (.ref a0), .val (.ref a1), .val (.ref b2), .val (.int (2 : Int32)), .val (.int (0 : Int32)), .val (.int x0)]) rfl kk) ?_
  refine Go.st (S' := T9.setTop (mkF m 40 #[.val (.ref a0), .val (.ref a1), .val (.ref b2), .val (.int (2 : Int32)), .val (.int (0 : Int32)), .val (.int x0)] [(.int x0)])) (fun _ kk => XS.iload X9.here hx rfl (hb hby d1_38) rfl kk) ?_
  refine Go.st (S' := T9.setTop (mkF m 58 #[.val (.ref a0), .val (.ref a1), .val (.ref b2), .val (.int (2 : Int32)), .val (.int (0 : Int32)), .val (.int x0)] [])) (fun _ kk => XS.ifYes X9.here hx rfl (pc0 := 40) (pc' := 58) rfl (hb hby d1_40) rfl ((if0 _ _).trans (flt hx0).2.1) (by decide) (by decide) kk) ?_
  refine Go.st (S' := T9.setTop (mkF m 61 #[.val (.ref a0), .val (.ref a1), .val (.ref b2), .val (.int (2 : Int32)), .val (.int (1 : Int32)), .val (.int x0)] [])) (fun _ kk => XS.iinc X9.here hx rfl (hb hby d1_58) rfl (l' := #[.val (.ref a0), .val (.ref a1), .val (.ref b2), .val (.int (2 : Int32)), .val (.int (1 : Int32)), .val (.int x0)]) rfl kk) ?_
  refine Go.st (S' := T9.setTop (mkF m 26 #[.val (.ref a0), .val (.ref a1), .val (.ref b2), .val (.int (2 : Int32)), .val (.int (1 : Int32)), .val (.int x0)] [])) (fun _ kk => XS.goto X9.here hx rfl (pc0 := 61) (pc' := 26) rfl (hb hby d1_61) (by decide) (by decide) kk) ?_
  refine Go.st (S' := T9.setTop (mkF m 28 #[.val (.ref a0), .val (.ref a1), .val (.ref b2), .val (.int (2 : Int32)), .val (.int (1 : Int32)), .val (.int x0)] [(.int (1 : Int32))])) (fun _ kk => XS.iload X9.here hx rfl (hb hby d1_26) rfl kk) ?_
  refine Go.st (S' := T9.setTop (mkF m 29 #[.val (.ref a0), .val (.ref a1), .val (.ref b2), .val (.int (2 : Int32)), .val (.int (1 : Int32)), .val (.int x0)] [(.int (2 : Int32)), (.int (1 : Int32))])) (fun _ kk => XS.iloadN X9.here hx rfl (hb hby d1_28) rfl kk) ?_
  refine Go.st (S' := T9.setTop (mkF m 32 #[.val (.ref a0), .val (.ref a1), .val (.ref b2), .val (.int (2 : Int32)), .val (.int (1 : Int32)), .val (.int x0)] [])) (fun _ kk => XS.icmpNo X9.here hx rfl (hb hby d1_29) rfl (tlt (by decide : (1 : Int32) < (2 : Int32))).2.1 kk) ?_
  refine Go.st (S' := T9.setTop (mkF m 33 #[.val (.ref a0), .val (.ref a1), .val (.ref b2), .val (.int (2 : Int32)), .val (.int (1 : Int32)), .val (.int x0)] [(.ref b2)])) (fun _ kk => XS.aloadN X9.here hx rfl (hb hby d1_32) rfl rfl kk) ?_
  refine Go.st (S' := T9.setTop (mkF m 35 #[.val (.ref a0), .val (.ref a1), .val (.ref b2), .val (.int (2 : Int32)), .val (.int (1 : Int32)), .val (.int x0)] [(.int (1 : Int32)), (.ref b2)])) (fun _ kk => XS.iload X9.here hx rfl (hb hby d1_33) rfl kk) ?_
  obtain ⟨cl12, Ar12, q12, S12, Ng12, H12, G12⟩ := (id V_b2)
  have hin12 : ¬ ((1 : Int32) < 0 ∨ cl12.slots.size ≤ ((1 : Int32)).toNatClampNeg) := inb_of S12 ⟨by decide, by decide⟩
  have hat12 : cl12.slots[((1 : Int32)).toNatClampNeg]? = some (.int x1) := Has.at H12 hin12 rfl
  refine Go.st (S' := T9.setTop (mkF m 36 #[.val (.ref a0), .val (.ref a1), .val (.ref b2), .val (.int (2 : Int32)), .val (.int (1 : Int32)), .val (.int x0)] [(.int x1)])) (fun _ kk => X9.iaload hx (j := (1 : Int32)) (v := (.int x1)) (by rw [e9]; exact Ar12.1) (State.isArrayOf_alike hZ.alike Ar12.2.1) Ar12.2.2 hin12 hat12 (g := (mkF m 35 #[.val (.ref a0), .val (.ref a1), .val (.ref b2), .val (.int (2 : Int32)), .val (.int (1 : Int32)), .val (.int x0)] [(.int (1 : Int32)), (.ref b2)])) rfl rfl (hb hby d1_35) _ kk) ?_
  refine Go.st (S' := T9.setTop (mkF m 38 #[.val (.ref a0), .val (.ref a1), .val (.ref b2), .val (.int (2 : Int32)), .val (.int (1 : Int32)), .val (.int x1)] [])) (fun _ kk => XS.istore X9.here hx rfl (hb hby d1_36) rfl (l' := #[.val (.ref a0), .val (.ref a1), .val (.ref b2), .val (.int (2 : Int32)), .val (.int (1 : Int32)), .val (.int x1)]) rfl kk) ?_
  refine Go.st (S' := T9.setTop (mkF m 40 #[.val (.ref a0), .val (.ref a1), .val (.ref b2), .val (.int (2 : Int32)), .val (.int (1 : Int32)), .val (.int x1)] [(.int x1)])) (fun _ kk => XS.iload X9.here hx rfl (hb hby d1_38) rfl kk) ?_
  refine Go.st (S' := T9.setTop (mkF m 58 #[.val (.ref a0), .val (.ref a1), .val (.ref b2), .val (.int (2 : Int32)), .val (.int (1 : Int32)), .val (.int x1)] [])) (fun _ kk => XS.ifYes X9.here hx rfl (pc0 := 40) (pc' := 58) rfl (hb hby d1_40) rfl ((if0 _ _).trans (flt hx1).2.1) (by decide) (by decide) kk) ?_
  refine Go.st (S' := T9.setTop (mkF m 61 #[.val (.ref a0), .val (.ref a1), .val (.ref b2), .val (.int (2 : Int32)), .val (.int (2 : Int32)), .val (.int x1)] [])) (fun _ kk => XS.iinc X9.here hx rfl (hb hby d1_58) rfl (l' := #[.val (.ref a0), .val (.ref a1), .val (.ref b2), .val (.int (2 : Int32)), .val (.int (2 : Int32)), .val (.int x1)]) rfl kk) ?_
  refine Go.st (S' := T9.setTop (mkF m 26 #[.val (.ref a0), .val (.ref a1), .val (.ref b2), .val (.int (2 : Int32)), .val (.int (2 : Int32)), .val (.int x1)] [])) (fun _ kk => XS.goto X9.here hx rfl (pc0 := 61) (pc' := 26) rfl (hb hby d1_61) (by decide) (by decide) kk) ?_
  refine Go.st (S' := T9.setTop (mkF m 28 #[.val (.ref a0), .val (.ref a1), .val (.ref b2), .val (.int (2 : Int32)), .val (.int (2 : Int32)), .val (.int x1)] [(.int (2 : Int32))])) (fun _ kk => XS.iload X9.here hx rfl (hb hby d1_26) rfl kk) ?_
  refine Go.st (S' := T9.setTop (mkF m 29 #[.val (.ref a0), .val (.ref a1), .val (.ref b2), .val (.int (2 : Int32)), .val (.int (2 : Int32)), .val (.int x1)] [(.int (2 : Int32)), (.int (2 : Int32))])) (fun _ kk => XS.iloadN X9.here hx rfl (hb hby d1_28) rfl kk) ?_
  refine Go.st (S' := T9.setTop (mkF m 64 #[.val (.ref a0), .val (.ref a1), .val (.ref b2), .val (.int (2 : Int32)), .val (.int (2 : Int32)), .val (.int x1)] [])) (fun _ kk => XS.icmpYes X9.here hx rfl (pc0 := 29) (pc' := 64) rfl (hb hby d1_29) rfl (flt (by decide : ¬ ((2 : Int32) < (2 : Int32)))).2.1 (by decide) (by decide) kk) ?_
  exact Go.ret0 X9 hx hlk Bd.returns (hb hby d1_64) (by rw [e9]; exact ⟨_, rfl, N6, Kp8, E_a0, F_counts, V_b2, sz_b2⟩) (by decide) (by decide)
def fS2 (x0 : Int32) (x1 : Int32) : Int64 := (((0 : Int64) + (x0.toInt64)) + (x1.toInt64))
set_option maxRecDepth 65536 in
set_option maxHeartbeats 40000000 in
theorem rmS2 (l : Launch) (Z : State) (az : Array Value) (hw : ∀ d ∈ tables_1, d.before az Z = true) (ws : List Jvm.Cond) (a0 : Addr) (t : Addr) (kk : ClassId) (x0 : Int32) (x1 : Int32) (h0 : Heap) (n0 : Nat) (Z0 : n0 ≤ h0.size) (F_counts : Fld Z h0 a0 "com/example/patient_snoop/patientsnoop/model/Configuration" "counts" "[I" (.ref t)) (V_t : Arv Z h0 t kk .int (2 : Int32) [(.int x0), (.int x1)] (.int (0 : Int32))) :
    MetFree l (⟨"com/example/patient_snoop/patientsnoop/model/Configuration", "caches", "()J"⟩ : MethodName) (head1 (Jvm.Cond.code (⟨"com/example/patient_snoop/patientsnoop/model/Configuration", "caches", "()J"⟩ : MethodName) prog_19_method_4_code 7 (some .long) :: ws) ({ frames := 0, cells := 0, slots := 0, locals := 0 } : Room)) (fun a U => a = #[(.ref a0)] ∧ Z.Warmed39 U.vm ∧ U.heap = h0) (fun _ _ _ _ _ => True) (fun _ U o U' => ∃ v L, o = .returned v ∧ (PQ (.long (fS2 x0 x1)) n0 h0) v U'.heap L ∧ FrameEnd U o U' L ({ frames := 0, cells := 0, slots := 0, locals := 0 } : Room).cells ({ frames := 0, cells := 0, slots := 0, locals := 0 } : Room).slots) := by
  refine MetFree.of_bodySF (plainFor_of_name pn_0) hisR ?_
  intro p e s m args below meth c s₁ Bd hml0 hP hK
  obtain ⟨rfl, hZ, hh⟩ := hP
  have hx := Bd.exec
  have hby := Bd.bytes
  have hlk : meth.locks = false := Bd.notSynchronized
  have hml : c.maxLocals = 7 := hml0
  have hown : s.vm.findClass "com/example/patient_snoop/patientsnoop/model/Configuration" = some m.cls := findClass_of_methodNamed Bd.named
  have hnm := (name_of_methodNamed Bd.named Bd.method).1
  have X0 : Stand p l e ({ frames := 0, cells := 0, slots := 0, locals := 0 } : Room) s m #[(.ref a0)] below meth c s₁ [] 0 0 := Stand.of_body Bd
  have e0 : s₁.heap = h0 := by rw [← hh, Bd.state]; rfl
  have N0 := Fr.nil n0
  show Go p e below s ((PQ (.long (fS2 x0 x1)) n0 h0)) ({ frames := 0, cells := 0, slots := 0, locals := 0 } : Room).cells ({ frames := 0, cells := 0, slots := 0, locals := 0 } : Room).slots (s₁.setTop (entryFrame m #[(.ref a0)] 7))
  rw [ef_3 m a0]
  refine Go.st (S' := s₁.setTop (mkF m 1 #[.val (.ref a0), .unset, .unset, .unset, .unset, .unset, .unset] [(.long (0 : Int64))])) (fun _ kk => XS.lconst X0.here hx rfl (hb hby d3_0) kk) ?_
  refine Go.st (S' := s₁.setTop (mkF m 2 #[.val (.ref a0), .val (.long (0 : Int64)), .second, .unset, .unset, .unset, .unset] [])) (fun _ kk => XS.lstoreN X0.here hx rfl (hb hby d3_1) rfl (l' := #[.val (.ref a0), .val (.long (0 : Int64)), .second, .unset, .unset, .unset, .unset]) rfl kk) ?_
  refine Go.st (S' := s₁.setTop (mkF m 3 #[.val (.ref a0), .val (.long (0 : Int64)), .second, .unset, .unset, .unset, .unset] [(.ref a0)])) (fun _ kk => XS.aloadN X0.here hx rfl (hb hby d3_2) rfl rfl kk) ?_
  obtain ⟨T1, X1, e1, st1⟩ := getF X0 hx hZ hown (host := "") (Or.inl (hw _ (List.mem_of_getElem? (i := 20) rfl))) Via.refl e0 F_counts (g := (mkF m 3 #[.val (.ref a0), .val (.long (0 : Int64)), .second, .unset, .unset, .unset, .unset] [(.ref a0)])) rfl rfl (hb hby d3_3)
  refine Go.st (S' := T1.setTop (mkF m 6 #[.val (.ref a0), .val (.long (0 : Int64)), .second, .unset, .unset, .unset, .unset] [(.ref t)])) st1 ?_
  refine Go.st (S' := T1.setTop (mkF m 7 #[.val (.ref a0), .val (.long (0 : Int64)), .second, .val (.ref t), .unset, .unset, .unset] [])) (fun _ kk => XS.astoreN X1.here hx rfl (hb hby d3_6) rfl rfl (l' := #[.val (.ref a0), .val (.long (0 : Int64)), .second, .val (.ref t), .unset, .unset, .unset]) rfl kk) ?_
  refine Go.st (S' := T1.setTop (mkF m 8 #[.val (.ref a0), .val (.long (0 : Int64)), .second, .val (.ref t), .unset, .unset, .unset] [(.ref t)])) (fun _ kk => XS.aloadN X1.here hx rfl (hb hby d3_7) rfl rfl kk) ?_
  obtain ⟨cl2, Ar2, -, S2, Ng2, -, -⟩ := (id V_t)
  refine Go.st (S' := T1.setTop (mkF m 9 #[.val (.ref a0), .val (.long (0 : Int64)), .second, .val (.ref t), .unset, .unset, .unset] [(.int (2 : Int32))])) (fun _ kk => X1.arraylength hx (by rw [e1]; exact Ar2.1) (State.isArrayOf_alike hZ.alike Ar2.2.1) (g := (mkF m 8 #[.val (.ref a0), .val (.long (0 : Int64)), .second, .val (.ref t), .unset, .unset, .unset] [(.ref t)])) rfl rfl (hb hby d3_8) _ (by rw [len_of S2 Ng2]; exact kk)) ?_
  refine Go.st (S' := T1.setTop (mkF m 11 #[.val (.ref a0), .val (.long (0 : Int64)), .second, .val (.ref t), .val (.int (2 : Int32)), .unset, .unset] [])) (fun _ kk => XS.istore X1.here hx rfl (hb hby d3_9) rfl (l' := #[.val (.ref a0), .val (.long (0 : Int64)), .second, .val (.ref t), .val (.int (2 : Int32)), .unset, .unset]) rfl kk) ?_
  refine Go.st (S' := T1.setTop (mkF m 12 #[.val (.ref a0), .val (.long (0 : Int64)), .second, .val (.ref t), .val (.int (2 : Int32)), .unset, .unset] [(.int (0 : Int32))])) (fun _ kk => XS.iconst X1.here hx rfl (hb hby d3_11) kk) ?_
  refine Go.st (S' := T1.setTop (mkF m 14 #[.val (.ref a0), .val (.long (0 : Int64)), .second, .val (.ref t), .val (.int (2 : Int32)), .val (.int (0 : Int32)), .unset] [])) (fun _ kk => XS.istore X1.here hx rfl (hb hby d3_12) rfl (l' := #[.val (.ref a0), .val (.long (0 : Int64)), .second, .val (.ref t), .val (.int (2 : Int32)), .val (.int (0 : Int32)), .unset]) rfl kk) ?_
  refine Go.st (S' := T1.setTop (mkF m 16 #[.val (.ref a0), .val (.long (0 : Int64)), .second, .val (.ref t), .val (.int (2 : Int32)), .val (.int (0 : Int32)), .unset] [(.int (0 : Int32))])) (fun _ kk => XS.iload X1.here hx rfl (hb hby d3_14) rfl kk) ?_
  refine Go.st (S' := T1.setTop (mkF m 18 #[.val (.ref a0), .val (.long (0 : Int64)), .second, .val (.ref t), .val (.int (2 : Int32)), .val (.int (0 : Int32)), .unset] [(.int (2 : Int32)), (.int (0 : Int32))])) (fun _ kk => XS.iload X1.here hx rfl (hb hby d3_16) rfl kk) ?_
  refine Go.st (S' := T1.setTop (mkF m 21 #[.val (.ref a0), .val (.long (0 : Int64)), .second, .val (.ref t), .val (.int (2 : Int32)), .val (.int (0 : Int32)), .unset] [])) (fun _ kk => XS.icmpNo X1.here hx rfl (hb hby d3_18) rfl (tlt (by decide : (0 : Int32) < (2 : Int32))).2.1 kk) ?_
  refine Go.st (S' := T1.setTop (mkF m 22 #[.val (.ref a0), .val (.long (0 : Int64)), .second, .val (.ref t), .val (.int (2 : Int32)), .val (.int (0 : Int32)), .unset] [(.ref t)])) (fun _ kk => XS.aloadN X1.here hx rfl (hb hby d3_21) rfl rfl kk) ?_
  refine Go.st (S' := T1.setTop (mkF m 24 #[.val (.ref a0), .val (.long (0 : Int64)), .second, .val (.ref t), .val (.int (2 : Int32)), .val (.int (0 : Int32)), .unset] [(.int (0 : Int32)), (.ref t)])) (fun _ kk => XS.iload X1.here hx rfl (hb hby d3_22) rfl kk) ?_
  obtain ⟨cl3, Ar3, q3, S3, Ng3, H3, G3⟩ := (id V_t)
  have hin3 : ¬ ((0 : Int32) < 0 ∨ cl3.slots.size ≤ ((0 : Int32)).toNatClampNeg) := inb_of S3 ⟨by decide, by decide⟩
  have hat3 : cl3.slots[((0 : Int32)).toNatClampNeg]? = some (.int x0) := Has.at H3 hin3 rfl
  refine Go.st (S' := T1.setTop (mkF m 25 #[.val (.ref a0), .val (.long (0 : Int64)), .second, .val (.ref t), .val (.int (2 : Int32)), .val (.int (0 : Int32)), .unset] [(.int x0)])) (fun _ kk => X1.iaload hx (j := (0 : Int32)) (v := (.int x0)) (by rw [e1]; exact Ar3.1) (State.isArrayOf_alike hZ.alike Ar3.2.1) Ar3.2.2 hin3 hat3 (g := (mkF m 24 #[.val (.ref a0), .val (.long (0 : Int64)), .second, .val (.ref t), .val (.int (2 : Int32)), .val (.int (0 : Int32)), .unset] [(.int (0 : Int32)), (.ref t)])) rfl rfl (hb hby d3_24) _ kk) ?_
  refine Go.st (S' := T1.setTop (mkF m 27 #[.val (.ref a0), .val (.long (0 : Int64)), .second, .val (.ref t), .val (.int (2 : Int32)), .val (.int (0 : Int32)), .val (.int x0)] [])) (fun _ kk => XS.istore X1.here hx rfl (hb hby d3_25) rfl (l' := #[.val (.ref a0), .val (.long (0 : Int64)), .second, .val (.ref t), .val (.int (2 : Int32)), .val (.int (0 : Int32)), .val (.int x0)]) rfl kk) ?_
  refine Go.st (S' := T1.setTop (mkF m 28 #[.val (.ref a0), .val (.long (0 : Int64)), .second, .val (.ref t), .val (.int (2 : Int32)), .val (.int (0 : Int32)), .val (.int x0)] [(.long (0 : Int64))])) (fun _ kk => XS.lloadN X1.here hx rfl (hb hby d3_27) rfl kk) ?_
  refine Go.st (S' := T1.setTop (mkF m 30 #[.val (.ref a0), .val (.long (0 : Int64)), .second, .val (.ref t), .val (.int (2 : Int32)), .val (.int (0 : Int32)), .val (.int x0)] [(.int x0), (.long (0 : Int64))])) (fun _ kk => XS.iload X1.here hx rfl (hb hby d3_28) rfl kk) ?_
  refine Go.st (S' := T1.setTop (mkF m 31 #[.val (.ref a0), .val (.long (0 : Int64)), .second, .val (.ref t), .val (.int (2 : Int32)), .val (.int (0 : Int32)), .val (.int x0)] [(.long (x0.toInt64)), (.long (0 : Int64))])) (fun _ kk => XS.i2l X1.here hx rfl (hb hby d3_30) rfl kk) ?_
  refine Go.st (S' := T1.setTop (mkF m 32 #[.val (.ref a0), .val (.long (0 : Int64)), .second, .val (.ref t), .val (.int (2 : Int32)), .val (.int (0 : Int32)), .val (.int x0)] [(.long ((0 : Int64) + (x0.toInt64)))])) (fun _ kk => XS.ladd X1.here hx rfl (hb hby d3_31) rfl kk) ?_
  refine Go.st (S' := T1.setTop (mkF m 33 #[.val (.ref a0), .val (.long ((0 : Int64) + (x0.toInt64))), .second, .val (.ref t), .val (.int (2 : Int32)), .val (.int (0 : Int32)), .val (.int x0)] [])) (fun _ kk => XS.lstoreN X1.here hx rfl (hb hby d3_32) rfl (l' := #[.val (.ref a0), .val (.long ((0 : Int64) + (x0.toInt64))), .second, .val (.ref t), .val (.int (2 : Int32)), .val (.int (0 : Int32)), .val (.int x0)]) rfl kk) ?_
  refine Go.st (S' := T1.setTop (mkF m 36 #[.val (.ref a0), .val (.long ((0 : Int64) + (x0.toInt64))), .second, .val (.ref t), .val (.int (2 : Int32)), .val (.int (1 : Int32)), .val (.int x0)] [])) (fun _ kk => XS.iinc X1.here hx rfl (hb hby d3_33) rfl (l' := #[.val (.ref a0), .val (.long ((0 : Int64) + (x0.toInt64))), .second, .val (.ref t), .val (.int (2 : Int32)), .val (.int (1 : Int32)), .val (.int x0)]) rfl kk) ?_
  refine Go.st (S' := T1.setTop (mkF m 14 #[.val (.ref a0), .val (.long ((0 : Int64) + (x0.toInt64))), .second, .val (.ref t), .val (.int (2 : Int32)), .val (.int (1 : Int32)), .val (.int x0)] [])) (fun _ kk => XS.goto X1.here hx rfl (pc0 := 36) (pc' := 14) rfl (hb hby d3_36) (by decide) (by decide) kk) ?_
  refine Go.st (S' := T1.setTop (mkF m 16 #[.val (.ref a0), .val (.long ((0 : Int64) + (x0.toInt64))), .second, .val (.ref t), .val (.int (2 : Int32)), .val (.int (1 : Int32)), .val (.int x0)] [(.int (1 : Int32))])) (fun _ kk => XS.iload X1.here hx rfl (hb hby d3_14) rfl kk) ?_
  refine Go.st (S' := T1.setTop (mkF m 18 #[.val (.ref a0), .val (.long ((0 : Int64) + (x0.toInt64))), .second, .val (.ref t), .val (.int (2 : Int32)), .val (.int (1 : Int32)), .val (.int x0)] [(.int (2 : Int32)), (.int (1 : Int32))])) (fun _ kk => XS.iload X1.here hx rfl (hb hby d3_16) rfl kk) ?_
  refine Go.st (S' := T1.setTop (mkF m 21 #[.val (.ref a0), .val (.long ((0 : Int64) + (x0.toInt64))), .second, .val (.ref t), .val (.int (2 : Int32)), .val (.int (1 : Int32)), .val (.int x0)] [])) (fun _ kk => XS.icmpNo X1.here hx rfl (hb hby d3_18) rfl (tlt (by decide : (1 : Int32) < (2 : Int32))).2.1 kk) ?_
  refine Go.st (S' := T1.setTop (mkF m 22 #[.val (.ref a0), .val (.long ((0 : Int64) + (x0.toInt64))), .second, .val (.ref t), .val (.int (2 : Int32)), .val (.int (1 : Int32)), .val (.int x0)] [(.ref t)])) (fun _ kk => XS.aloadN X1.here hx rfl (hb hby d3_21) rfl rfl kk) ?_
  refine Go.st (S' := T1.setTop (mkF m 24 #[.val (.ref a0), .val (.long ((0 : Int64) + (x0.toInt64))), .second, .val (.ref t), .val (.int (2 : Int32)), .val (.int (1 : Int32)), .val (.int x0)] [(.int (1 : Int32)), (.ref t)])) (fun _ kk => XS.iload X1.here hx rfl (hb hby d3_22) rfl kk) ?_
  obtain ⟨cl4, Ar4, q4, S4, Ng4, H4, G4⟩ := (id V_t)
  have hin4 : ¬ ((1 : Int32) < 0 ∨ cl4.slots.size ≤ ((1 : Int32)).toNatClampNeg) := inb_of S4 ⟨by decide, by decide⟩
  have hat4 : cl4.slots[((1 : Int32)).toNatClampNeg]? = some (.int x1) := Has.at H4 hin4 rfl
  refine Go.st (S' := T1.setTop (mkF m 25 #[.val (.ref a0), .val (.long ((0 : Int64) + (x0.toInt64))), .second, .val (.ref t), .val (.int (2 : Int32)), .val (.int (1 : Int32)), .val (.int x0)] [(.int x1)])) (fun _ kk => X1.iaload hx (j := (1 : Int32)) (v := (.int x1)) (by rw [e1]; exact Ar4.1) (State.isArrayOf_alike hZ.alike Ar4.2.1) Ar4.2.2 hin4 hat4 (g := (mkF m 24 #[.val (.ref a0), .val (.long ((0 : Int64) + (x0.toInt64))), .second, .val (.ref t), .val (.int (2 : Int32)), .val (.int (1 : Int32)), .val (.int x0)] [(.int (1 : Int32)), (.ref t)])) rfl rfl (hb hby d3_24) _ kk) ?_
  refine Go.st (S' := T1.setTop (mkF m 27 #[.val (.ref a0), .val (.long ((0 : Int64) + (x0.toInt64))), .second, .val (.ref t), .val (.int (2 : Int32)), .val (.int (1 : Int32)), .val (.int x1)] [])) (fun _ kk => XS.istore X1.here hx rfl (hb hby d3_25) rfl (l' := #[.val (.ref a0), .val (.long ((0 : Int64) + (x0.toInt64))), .second, .val (.ref t), .val (.int (2 : Int32)), .val (.int (1 : Int32)), .val (.int x1)]) rfl kk) ?_
  refine Go.st (S' := T1.setTop (mkF m 28 #[.val (.ref a0), .val (.long ((0 : Int64) + (x0.toInt64))), .second, .val (.ref t), .val (.int (2 : Int32)), .val (.int (1 : Int32)), .val (.int x1)] [(.long ((0 : Int64) + (x0.toInt64)))])) (fun _ kk => XS.lloadN X1.here hx rfl (hb hby d3_27) rfl kk) ?_
  refine Go.st (S' := T1.setTop (mkF m 30 #[.val (.ref a0), .val (.long ((0 : Int64) + (x0.toInt64))), .second, .val (.ref t), .val (.int (2 : Int32)), .val (.int (1 : Int32)), .val (.int x1)] [(.int x1), (.long ((0 : Int64) + (x0.toInt64)))])) (fun _ kk => XS.iload X1.here hx rfl (hb hby d3_28) rfl kk) ?_
  refine Go.st (S' := T1.setTop (mkF m 31 #[.val (.ref a0), .val (.long ((0 : Int64) + (x0.toInt64))), .second, .val (.ref t), .val (.int (2 : Int32)), .val (.int (1 : Int32)), .val (.int x1)] [(.long (x1.toInt64)), (.long ((0 : Int64) + (x0.toInt64)))])) (fun _ kk => XS.i2l X1.here hx rfl (hb hby d3_30) rfl kk) ?_
  refine Go.st (S' := T1.setTop (mkF m 32 #[.val (.ref a0), .val (.long ((0 : Int64) + (x0.toInt64))), .second, .val (.ref t), .val (.int (2 : Int32)), .val (.int (1 : Int32)), .val (.int x1)] [(.long (((0 : Int64) + (x0.toInt64)) + (x1.toInt64)))])) (fun _ kk => XS.ladd X1.here hx rfl (hb hby d3_31) rfl kk) ?_
  refine Go.st (S' := T1.setTop (mkF m 33 #[.val (.ref a0), .val (.long (((0 : Int64) + (x0.toInt64)) + (x1.toInt64))), .second, .val (.ref t), .val (.int (2 : Int32)), .val (.int (1 : Int32)), .val (.int x1)] [])) (fun _ kk => XS.lstoreN X1.here hx rfl (hb hby d3_32) rfl (l' := #[.val (.ref a0), .val (.long (((0 : Int64) + (x0.toInt64)) + (x1.toInt64))), .second, .val (.ref t), .val (.int (2 : Int32)), .val (.int (1 : Int32)), .val (.int x1)]) rfl kk) ?_
  refine Go.st (S' := T1.setTop (mkF m 36 #[.val (.ref a0), .val (.long (((0 : Int64) + (x0.toInt64)) + (x1.toInt64))), .second, .val (.ref t), .val (.int (2 : Int32)), .val (.int (2 : Int32)), .val (.int x1)] [])) (fun _ kk => XS.iinc X1.here hx rfl (hb hby d3_33) rfl (l' := #[.val (.ref a0), .val (.long (((0 : Int64) + (x0.toInt64)) + (x1.toInt64))), .second, .val (.ref t), .val (.int (2 : Int32)), .val (.int (2 : Int32)), .val (.int x1)]) rfl kk) ?_
  refine Go.st (S' := T1.setTop (mkF m 14 #[.val (.ref a0), .val (.long (((0 : Int64) + (x0.toInt64)) + (x1.toInt64))), .second, .val (.ref t), .val (.int (2 : Int32)), .val (.int (2 : Int32)), .val (.int x1)] [])) (fun _ kk => XS.goto X1.here hx rfl (pc0 := 36) (pc' := 14) rfl (hb hby d3_36) (by decide) (by decide) kk) ?_
  refine Go.st (S' := T1.setTop (mkF m 16 #[.val (.ref a0), .val (.long (((0 : Int64) + (x0.toInt64)) + (x1.toInt64))), .second, .val (.ref t), .val (.int (2 : Int32)), .val (.int (2 : Int32)), .val (.int x1)] [(.int (2 : Int32))])) (fun _ kk => XS.iload X1.here hx rfl (hb hby d3_14) rfl kk) ?_
  refine Go.st (S' := T1.setTop (mkF m 18 #[.val (.ref a0), .val (.long (((0 : Int64) + (x0.toInt64)) + (x1.toInt64))), .second, .val (.ref t), .val (.int (2 : Int32)), .val (.int (2 : Int32)), .val (.int x1)] [(.int (2 : Int32)), (.int (2 : Int32))])) (fun _ kk => XS.iload X1.here hx rfl (hb hby d3_16) rfl kk) ?_
  refine Go.st (S' := T1.setTop (mkF m 39 #[.val (.ref a0), .val (.long (((0 : Int64) + (x0.toInt64)) + (x1.toInt64))), .second, .val (.ref t), .val (.int (2 : Int32)), .val (.int (2 : Int32)), .val (.int x1)] [])) (fun _ kk => XS.icmpYes X1.here hx rfl (pc0 := 18) (pc' := 39) rfl (hb hby d3_18) rfl (flt (by decide : ¬ ((2 : Int32) < (2 : Int32)))).2.1 (by decide) (by decide) kk) ?_
  refine Go.st (S' := T1.setTop (mkF m 40 #[.val (.ref a0), .val (.long (((0 : Int64) + (x0.toInt64)) + (x1.toInt64))), .second, .val (.ref t), .val (.int (2 : Int32)), .val (.int (2 : Int32)), .val (.int x1)] [(.long (((0 : Int64) + (x0.toInt64)) + (x1.toInt64)))])) (fun _ kk => XS.lloadN X1.here hx rfl (hb hby d3_39) rfl kk) ?_
  exact Go.retJ X1 hx hlk Bd.returns (hb hby d3_40) (⟨congrArg (fun q => some (Value.long q)) (Eq.symm (show fS2 x0 x1 = (((0 : Int64) + (x0.toInt64)) + (x1.toInt64)) from by rfl)), N0, e1⟩) (by decide) (by decide)
def Q_rmC3 (Z : State) (a0 : Addr) (x0 x1 x2 : Int32) (kk : ClassId) (h0 : Heap) (n0 : Nat) (v : Option Value) (h : Heap) (L : List Loc) : Prop := ∃ t : Addr, v = none ∧ Fr n0 L ∧ Keep h0 h [a0] ∧ Exa Z h a0 "com/example/patient_snoop/patientsnoop/model/Configuration" ∧ Fld Z h a0 "com/example/patient_snoop/patientsnoop/model/Configuration" "counts" "[I" (.ref t) ∧ Arv Z h t kk .int (3 : Int32) [(.int x0), (.int x1), (.int x2)] (.int (0 : Int32)) ∧ h0.size ≤ t
set_option maxRecDepth 65536 in
set_option maxHeartbeats 40000000 in
theorem rmC3 (l : Launch) (Z : State) (az : Array Value) (hw : ∀ d ∈ tables_1, d.before az Z = true) (ws : List Jvm.Cond) (a0 : Addr) (a1 : Addr) (x0 x1 x2 : Int32) (kk : ClassId) (h0 : Heap) (n0 : Nat) (Z0 : n0 ≤ h0.size) (E_a0 : Exa Z h0 a0 "com/example/patient_snoop/patientsnoop/model/Configuration") (g_a0 : n0 ≤ a0) (F_counts : Fld Z h0 a0 "com/example/patient_snoop/patientsnoop/model/Configuration" "counts" "[I" .null) (E_a1 : Exa Z h0 a1 "[I") (V_a1 : Arv Z h0 a1 kk .int (3 : Int32) [(.int x0), (.int x1), (.int x2)] (.int (0 : Int32))) (hx0 : ¬ x0 < (0 : Int32)) (hx1 : ¬ x1 < (0 : Int32)) (hx2 : ¬ x2 < (0 : Int32)) :
    MetFree l (⟨"com/example/patient_snoop/patientsnoop/model/Configuration", "<init>", "([I)V"⟩ : MethodName) (head1 (Jvm.Cond.code (⟨"com/example/patient_snoop/patientsnoop/model/Configuration", "<init>", "([I)V"⟩ : MethodName) prog_19_method_1_code 6 none :: ws) ({ frames := 1, cells := 1, slots := 3, locals := 20 } : Room)) (fun a U => a = #[(.ref a0), (.ref a1)] ∧ Z.Warmed39 U.vm ∧ U.heap = h0) (fun _ _ _ _ _ => True) (fun _ U o U' => ∃ v L, o = .returned v ∧ (Q_rmC3 Z a0 x0 x1 x2 kk h0 n0) v U'.heap L ∧ FrameEnd U o U' L ({ frames := 1, cells := 1, slots := 3, locals := 20 } : Room).cells ({ frames := 1, cells := 1, slots := 3, locals := 20 } : Room).slots) := by
  refine MetFree.of_bodySF (plainFor_of_name pn_0) hisR ?_
  intro p e s m args below meth c s₁ Bd hml0 hP hK
  obtain ⟨rfl, hZ, hh⟩ := hP
  have hx := Bd.exec
  have hby := Bd.bytes
  have hlk : meth.locks = false := Bd.notSynchronized
  have hml : c.maxLocals = 6 := hml0
  have hown : s.vm.findClass "com/example/patient_snoop/patientsnoop/model/Configuration" = some m.cls := findClass_of_methodNamed Bd.named
  have hnm := (name_of_methodNamed Bd.named Bd.method).1
  have X0 : Stand p l e ({ frames := 1, cells := 1, slots := 3, locals := 20 } : Room) s m #[(.ref a0), (.ref a1)] below meth c s₁ [] 0 0 := Stand.of_body Bd
  have e0 : s₁.heap = h0 := by rw [← hh, Bd.state]; rfl
  have N0 := Fr.nil n0
  show Go p e below s ((Q_rmC3 Z a0 x0 x1 x2 kk h0 n0)) ({ frames := 1, cells := 1, slots := 3, locals := 20 } : Room).cells ({ frames := 1, cells := 1, slots := 3, locals := 20 } : Room).slots (s₁.setTop (entryFrame m #[(.ref a0), (.ref a1)] 6))
  rw [ef_1 m a0 a1]
  have ne_a0_a1 : a0 ≠ a1 := ne_exa E_a0 E_a1 (by decide)
  refine Go.st (S' := s₁.setTop (mkF m 1 #[.val (.ref a0), .val (.ref a1), .unset, .unset, .unset, .unset] [(.ref a0)])) (fun _ kk => XS.aloadN X0.here hx rfl (hb hby d1_0) rfl rfl kk) ?_
  obtain ⟨T1, X1, e1, st1⟩ := initO X0 hx hZ hown (hw _ (List.mem_of_getElem? (i := 8) rfl)) (hw _ (List.mem_of_getElem? (i := 9) rfl)) (hw _ (List.mem_of_getElem? (i := 10) rfl)) e0 (g := (mkF m 1 #[.val (.ref a0), .val (.ref a1), .unset, .unset, .unset, .unset] [(.ref a0)])) rfl (by rw [hml]; rfl) rfl (hb hby d1_1) (by decide) (W := 0) (by show 2 * 0 + _ ≤ _; exact Nat.le_of_eq rfl) (by decide)
  refine Go.st (S' := T1.setTop (mkF m 4 #[.val (.ref a0), .val (.ref a1), .unset, .unset, .unset, .unset] [])) st1 ?_
  refine Go.st (S' := T1.setTop (mkF m 5 #[.val (.ref a0), .val (.ref a1), .unset, .unset, .unset, .unset] [(.ref a0)])) (fun _ kk => XS.aloadN X1.here hx rfl (hb hby d1_4) rfl rfl kk) ?_
  refine Go.st (S' := T1.setTop (mkF m 6 #[.val (.ref a0), .val (.ref a1), .unset, .unset, .unset, .unset] [(.ref a1), (.ref a0)])) (fun _ kk => XS.aloadN X1.here hx rfl (hb hby d1_5) rfl rfl kk) ?_
  obtain ⟨T2, h2, X2, e2, E2, A2, E_b2, st2⟩ := cloneH X1 hx hZ hown (hw _ (List.mem_of_getElem? (i := 11) rfl)) (hw _ (List.mem_of_getElem? (i := 12) rfl)) (hw _ (List.mem_of_getElem? (i := 16) rfl)) (hw _ (List.mem_of_getElem? (i := 14) rfl)) (hw _ (List.mem_of_getElem? (i := 15) rfl)) (hw _ (List.mem_of_getElem? (i := 17) rfl)) e1 (Arv.arh V_a1) E_a1 (g := (mkF m 6 #[.val (.ref a0), .val (.ref a1), .unset, .unset, .unset, .unset] [(.ref a1), (.ref a0)])) rfl (by rw [hml]; rfl) rfl (hb hby d1_6) (by decide) (W := 1) (cap := 3) (by show 2 * 0 + _ ≤ _; exact Nat.le_of_eq rfl) (by decide) (by decide) (by decide) (by decide)
  obtain ⟨b2, g2⟩ : ∃ z, z = h0.size := ⟨_, rfl⟩
  rw [← g2] at A2 E_b2 st2
  have ne_a0_b2 : a0 ≠ b2 := Nat.ne_of_lt (Nat.lt_of_lt_of_le E_a0.lt (Nat.le_of_eq g2.symm))
  have ne_a1_b2 : a1 ≠ b2 := Nat.ne_of_lt (Nat.lt_of_lt_of_le E_a1.lt (Nat.le_of_eq g2.symm))
  have g_b2 : n0 ≤ b2 := Nat.le_trans Z0 (Nat.le_of_eq g2.symm)
  have sz_b2 : h0.size ≤ b2 := Nat.le_trans (Keep.refl h0 [a0]).1 (Nat.le_of_eq g2.symm)
  have E_a0 := E_a0.ext E2
  have F_counts := F_counts.ext E2
  have E_a1 := E_a1.ext E2
  have V_a1 := V_a1.ext E2
  have Zs3 := Nat.le_trans Z0 E2.1
  have Kp4 := (Keep.refl h0 [a0]).ext E2
  have V_b2 : Arv Z h2 b2 kk .int (3 : Int32) [(.int x0), (.int x1), (.int x2)] (.int (0 : Int32)) := A2
  refine Go.st (S' := T2.setTop (mkF m 9 #[.val (.ref a0), .val (.ref a1), .unset, .unset, .unset, .unset] [(.ref b2), (.ref a0)])) st2 ?_
  obtain ⟨T5, X5, e5, st5⟩ := castY X2 hx hZ hown (hw _ (List.mem_of_getElem? (i := 18) rfl)) e2 (Ins.self E_b2) (g := (mkF m 9 #[.val (.ref a0), .val (.ref a1), .unset, .unset, .unset, .unset] [(.ref b2), (.ref a0)])) rfl rfl (hb hby d1_9)
  refine Go.st (S' := T5.setTop (mkF m 12 #[.val (.ref a0), .val (.ref a1), .unset, .unset, .unset, .unset] [(.ref b2), (.ref a0)])) st5 ?_
  obtain ⟨T6, h6, X6, e6, W6, st6⟩ := putF X5 hx hZ hown (host := "") (Or.inl (hw _ (List.mem_of_getElem? (i := 20) rfl))) Via.refl e5 F_counts E_a0 (Or.inr ⟨(hw _ (List.mem_of_getElem? (i := 21) rfl)), rfl, hnm⟩) (hw _ (List.mem_of_getElem? (i := 3) rfl)) (ty := (.array .int)) (by decide) rfl rfl (g := (mkF m 12 #[.val (.ref a0), .val (.ref a1), .unset, .unset, .unset, .unset] [(.ref b2), (.ref a0)])) rfl rfl (hb hby d1_12)
  have N6 := Fr.snoc X6 N0 g_a0
  have F_counts := F_counts.same W6
  have E_a0 := E_a0.wr W6
  have E_a1 := E_a1.wr W6
  have V_a1 := V_a1.other W6 (Ne.symm ne_a0_a1)
  have E_b2 := E_b2.wr W6
  have V_b2 := V_b2.other W6 (Ne.symm ne_a0_b2)
  have Zs7 := Nat.le_trans Zs3 (Keep.of_wr W6).1
  have Kp8 := Kp4.wr W6 (Or.inl (List.mem_of_getElem? (i := 0) rfl))
  refine Go.st (S' := T6.setTop (mkF m 15 #[.val (.ref a0), .val (.ref a1), .unset, .unset, .unset, .unset] [])) st6 ?_
  refine Go.st (S' := T6.setTop (mkF m 16 #[.val (.ref a0), .val (.ref a1), .unset, .unset, .unset, .unset] [(.ref a0)])) (fun _ kk => XS.aloadN X6.here hx rfl (hb hby d1_15) rfl rfl kk) ?_
  obtain ⟨T9, X9, e9, st9⟩ := getF X6 hx hZ hown (host := "") (Or.inl (hw _ (List.mem_of_getElem? (i := 20) rfl))) Via.refl e6 F_counts (g := (mkF m 16 #[.val (.ref a0), .val (.ref a1), .unset, .unset, .unset, .unset] [(.ref a0)])) rfl rfl (hb hby d1_16)
  refine Go.st (S' := T9.setTop (mkF m 19 #[.val (.ref a0), .val (.ref a1), .unset, .unset, .unset, .unset] [(.ref b2)])) st9 ?_
  refine Go.st (S' := T9.setTop (mkF m 20 #[.val (.ref a0), .val (.ref a1), .val (.ref b2), .unset, .unset, .unset] [])) (fun _ kk => XS.astoreN X9.here hx rfl (hb hby d1_19) rfl rfl (l' := #[.val (.ref a0), .val (.ref a1), .val (.ref b2), .unset, .unset, .unset]) rfl kk) ?_
  refine Go.st (S' := T9.setTop (mkF m 21 #[.val (.ref a0), .val (.ref a1), .val (.ref b2), .unset, .unset, .unset] [(.ref b2)])) (fun _ kk => XS.aloadN X9.here hx rfl (hb hby d1_20) rfl rfl kk) ?_
  obtain ⟨cl10, Ar10, -, S10, Ng10, -, -⟩ := (id V_b2)
  refine Go.st (S' := T9.setTop (mkF m 22 #[.val (.ref a0), .val (.ref a1), .val (.ref b2), .unset, .unset, .unset] [(.int (3 : Int32))])) (fun _ kk => X9.arraylength hx (by rw [e9]; exact Ar10.1) (State.isArrayOf_alike hZ.alike Ar10.2.1) (g := (mkF m 21 #[.val (.ref a0), .val (.ref a1), .val (.ref b2), .unset, .unset, .unset] [(.ref b2)])) rfl rfl (hb hby d1_21) _ (by rw [len_of S10 Ng10]; exact kk)) ?_
  refine Go.st (S' := T9.setTop (mkF m 23 #[.val (.ref a0), .val (.ref a1), .val (.ref b2), .val (.int (3 : Int32)), .unset, .unset] [])) (fun _ kk => XS.istoreN X9.here hx rfl (hb hby d1_22) rfl (l' := #[.val (.ref a0), .val (.ref a1), .val (.ref b2), .val (.int (3 : Int32)), .unset, .unset]) rfl kk) ?_
  refine Go.st (S' := T9.setTop (mkF m 24 #[.val (.ref a0), .val (.ref a1), .val (.ref b2), .val (.int (3 : Int32)), .unset, .unset] [(.int (0 : Int32))])) (fun _ kk => XS.iconst X9.here hx rfl (hb hby d1_23) kk) ?_
  refine Go.st (S' := T9.setTop (mkF m 26 #[.val (.ref a0), .val (.ref a1), .val (.ref b2), .val (.int (3 : Int32)), .val (.int (0 : Int32)), .unset] [])) (fun _ kk => XS.istore X9.here hx rfl (hb hby d1_24) rfl (l' := #[.val (.ref a0), .val (.ref a1), .val (.ref b2), .val (.int (3 : Int32)), .val (.int (0 : Int32)), .unset]) rfl kk) ?_
  refine Go.st (S' := T9.setTop (mkF m 28 #[.val (.ref a0), .val (.ref a1), .val (.ref b2), .val (.int (3 : Int32)), .val (.int (0 : Int32)), .unset] [(.int (0 : Int32))])) (fun _ kk => XS.iload X9.here hx rfl (hb hby d1_26) rfl kk) ?_
  refine Go.st (S' := T9.setTop (mkF m 29 #[.val (.ref a0), .val (.ref a1), .val (.ref b2), .val (.int (3 : Int32)), .val (.int (0 : Int32)), .unset] [(.int (3 : Int32)), (.int (0 : Int32))])) (fun _ kk => XS.iloadN X9.here hx rfl (hb hby d1_28) rfl kk) ?_
  refine Go.st (S' := T9.setTop (mkF m 32 #[.val (.ref a0), .val (.ref a1), .val (.ref b2), .val (.int (3 : Int32)), .val (.int (0 : Int32)), .unset] [])) (fun _ kk => XS.icmpNo X9.here hx rfl (hb hby d1_29) rfl (tlt (by decide : (0 : Int32) < (3 : Int32))).2.1 kk) ?_
  refine Go.st (S' := T9.setTop (mkF m 33 #[.val (.ref a0), .val (.ref a1), .val (.ref b2), .val (.int (3 : Int32)), .val (.int (0 : Int32)), .unset] [(.ref b2)])) (fun _ kk => XS.aloadN X9.here hx rfl (hb hby d1_32) rfl rfl kk) ?_
  refine Go.st (S' := T9.setTop (mkF m 35 #[.val (.ref a0), .val (.ref a1), .val (.ref b2), .val (.int (3 : Int32)), .val (.int (0 : Int32)), .unset] [(.int (0 : Int32)), (.ref b2)])) (fun _ kk => XS.iload X9.here hx rfl (hb hby d1_33) rfl kk) ?_
  obtain ⟨cl11, Ar11, q11, S11, Ng11, H11, G11⟩ := (id V_b2)
  have hin11 : ¬ ((0 : Int32) < 0 ∨ cl11.slots.size ≤ ((0 : Int32)).toNatClampNeg) := inb_of S11 ⟨by decide, by decide⟩
  have hat11 : cl11.slots[((0 : Int32)).toNatClampNeg]? = some (.int x0) := Has.at H11 hin11 rfl
  refine Go.st (S' := T9.setTop (mkF m 36 #[.val (.ref a0), .val (.ref a1), .val (.ref b2), .val (.int (3 : Int32)), .val (.int (0 : Int32)), .unset] [(.int x0)])) (fun _ kk => X9.iaload hx (j := (0 : Int32)) (v := (.int x0)) (by rw [e9]; exact Ar11.1) (State.isArrayOf_alike hZ.alike Ar11.2.1) Ar11.2.2 hin11 hat11 (g := (mkF m 35 #[.val (.ref a0), .val (.ref a1), .val (.ref b2), .val (.int (3 : Int32)), .val (.int (0 : Int32)), .unset] [(.int (0 : Int32)), (.ref b2)])) rfl rfl (hb hby d1_35) _ kk) ?_
  refine Go.st (S' := T9.setTop (mkF m 38 #[.val (.ref a0), .val (.ref a1), .val (.ref b2), .val (.int (3 : Int32)), .val (.int (0 : Int32)), .val (.int x0)] [])) (fun _ kk => XS.istore X9.here hx rfl (hb hby d1_36) rfl (l' := #[.val (.ref a0), .val (.ref a1), .val (.ref b2), .val (.int (3 : Int32)), .val (.int (0 : Int32)), .val (.int x0)]) rfl kk) ?_
  refine Go.st (S' := T9.setTop (mkF m 40 #[.val (.ref a0), .val (.ref a1), .val (.ref b2), .val (.int (3 : Int32)), .val (.int (0 : Int32)), .val (.int x0)] [(.int x0)])) (fun _ kk => XS.iload X9.here hx rfl (hb hby d1_38) rfl kk) ?_
  refine Go.st (S' := T9.setTop (mkF m 58 #[.val (.ref a0), .val (.ref a1), .val (.ref b2), .val (.int (3 : Int32)), .val (.int (0 : Int32)), .val (.int x0)] [])) (fun _ kk => XS.ifYes X9.here hx rfl (pc0 := 40) (pc' := 58) rfl (hb hby d1_40) rfl ((if0 _ _).trans (flt hx0).2.1) (by decide) (by decide) kk) ?_
  refine Go.st (S' := T9.setTop (mkF m 61 #[.val (.ref a0), .val (.ref a1), .val (.ref b2), .val (.int (3 : Int32)), .val (.int (1 : Int32)), .val (.int x0)] [])) (fun _ kk => XS.iinc X9.here hx rfl (hb hby d1_58) rfl (l' := #[.val (.ref a0), .val (.ref a1), .val (.ref b2), .val (.int (3 : Int32)), .val (.int (1 : Int32)), .val (.int x0)]) rfl kk) ?_
  refine Go.st (S' := T9.setTop (mkF m 26 #[.val (.ref a0), .val (.ref a1), .val (.ref b2), .val (.int (3 : Int32)), .val (.int (1 : Int32)), .val (.int x0)] [])) (fun _ kk => XS.goto X9.here hx rfl (pc0 := 61) (pc' := 26) rfl (hb hby d1_61) (by decide) (by decide) kk) ?_
  refine Go.st (S' := T9.setTop (mkF m 28 #[.val (.ref a0), .val (.ref a1), .val (.ref b2), .val (.int (3 : Int32)), .val (.int (1 : Int32)), .val (.int x0)] [(.int (1 : Int32))])) (fun _ kk => XS.iload X9.here hx rfl (hb hby d1_26) rfl kk) ?_
  refine Go.st (S' := T9.setTop (mkF m 29 #[.val (.ref a0), .val (.ref a1), .val (.ref b2), .val (.int (3 : Int32)), .val (.int (1 : Int32)), .val (.int x0)] [(.int (3 : Int32)), (.int (1 : Int32))])) (fun _ kk => XS.iloadN X9.here hx rfl (hb hby d1_28) rfl kk) ?_
  refine Go.st (S' := T9.setTop (mkF m 32 #[.val (.ref a0), .val (.ref a1), .val (.ref b2), .val (.int (3 : Int32)), .val (.int (1 : Int32)), .val (.int x0)] [])) (fun _ kk => XS.icmpNo X9.here hx rfl (hb hby d1_29) rfl (tlt (by decide : (1 : Int32) < (3 : Int32))).2.1 kk) ?_
  refine Go.st (S' := T9.setTop (mkF m 33 #[.val (.ref a0), .val (.ref a1), .val (.ref b2), .val (.int (3 : Int32)), .val (.int (1 : Int32)), .val (.int x0)] [(.ref b2)])) (fun _ kk => XS.aloadN X9.here hx rfl (hb hby d1_32) rfl rfl kk) ?_
  refine Go.st (S' := T9.setTop (mkF m 35 #[.val (.ref a0), .val (.ref a1), .val (.ref b2), .val (.int (3 : Int32)), .val (.int (1 : Int32)), .val (.int x0)] [(.int (1 : Int32)), (.ref b2)])) (fun _ kk => XS.iload X9.here hx rfl (hb hby d1_33) rfl kk) ?_
  obtain ⟨cl12, Ar12, q12, S12, Ng12, H12, G12⟩ := (id V_b2)
  have hin12 : ¬ ((1 : Int32) < 0 ∨ cl12.slots.size ≤ ((1 : Int32)).toNatClampNeg) := inb_of S12 ⟨by decide, by decide⟩
  have hat12 : cl12.slots[((1 : Int32)).toNatClampNeg]? = some (.int x1) := Has.at H12 hin12 rfl
  refine Go.st (S' := T9.setTop (mkF m 36 #[.val (.ref a0), .val (.ref a1), .val (.ref b2), .val (.int (3 : Int32)), .val (.int (1 : Int32)), .val (.int x0)] [(.int x1)])) (fun _ kk => X9.iaload hx (j := (1 : Int32)) (v := (.int x1)) (by rw [e9]; exact Ar12.1) (State.isArrayOf_alike hZ.alike Ar12.2.1) Ar12.2.2 hin12 hat12 (g := (mkF m 35 #[.val (.ref a0), .val (.ref a1), .val (.ref b2), .val (.int (3 : Int32)), .val (.int (1 : Int32)), .val (.int x0)] [(.int (1 : Int32)), (.ref b2)])) rfl rfl (hb hby d1_35) _ kk) ?_
  refine Go.st (S' := T9.setTop (mkF m 38 #[.val (.ref a0), .val (.ref a1), .val (.ref b2), .val (.int (3 : Int32)), .val (.int (1 : Int32)), .val (.int x1)] [])) (fun _ kk => XS.istore X9.here hx rfl (hb hby d1_36) rfl (l' := #[.val (.ref a0), .val (.ref a1), .val (.ref b2), .val (.int (3 : Int32)), .val (.int (1 : Int32)), .val (.int x1)]) rfl kk) ?_
  refine Go.st (S' := T9.setTop (mkF m 40 #[.val (.ref a0), .val (.ref a1), .val (.ref b2), .val (.int (3 : Int32)), .val (.int (1 : Int32)), .val (.int x1)] [(.int x1)])) (fun _ kk => XS.iload X9.here hx rfl (hb hby d1_38) rfl kk) ?_
  refine Go.st (S' := T9.setTop (mkF m 58 #[.val (.ref a0), .val (.ref a1), .val (.ref b2), .val (.int (3 : Int32)), .val (.int (1 : Int32)), .val (.int x1)] [])) (fun _ kk => XS.ifYes X9.here hx rfl (pc0 := 40) (pc' := 58) rfl (hb hby d1_40) rfl ((if0 _ _).trans (flt hx1).2.1) (by decide) (by decide) kk) ?_
  refine Go.st (S' := T9.setTop (mkF m 61 #[.val (.ref a0), .val (.ref a1), .val (.ref b2), .val (.int (3 : Int32)), .val (.int (2 : Int32)), .val (.int x1)] [])) (fun _ kk => XS.iinc X9.here hx rfl (hb hby d1_58) rfl (l' := #[.val (.ref a0), .val (.ref a1), .val (.ref b2), .val (.int (3 : Int32)), .val (.int (2 : Int32)), .val (.int x1)]) rfl kk) ?_
  refine Go.st (S' := T9.setTop (mkF m 26 #[.val (.ref a0), .val (.ref a1), .val (.ref b2), .val (.int (3 : Int32)), .val (.int (2 : Int32)), .val (.int x1)] [])) (fun _ kk => XS.goto X9.here hx rfl (pc0 := 61) (pc' := 26) rfl (hb hby d1_61) (by decide) (by decide) kk) ?_
  refine Go.st (S' := T9.setTop (mkF m 28 #[.val (.ref a0), .val (.ref a1), .val (.ref b2), .val (.int (3 : Int32)), .val (.int (2 : Int32)), .val (.int x1)] [(.int (2 : Int32))])) (fun _ kk => XS.iload X9.here hx rfl (hb hby d1_26) rfl kk) ?_
  refine Go.st (S' := T9.setTop (mkF m 29 #[.val (.ref a0), .val (.ref a1), .val (.ref b2), .val (.int (3 : Int32)), .val (.int (2 : Int32)), .val (.int x1)] [(.int (3 : Int32)), (.int (2 : Int32))])) (fun _ kk => XS.iloadN X9.here hx rfl (hb hby d1_28) rfl kk) ?_
  refine Go.st (S' := T9.setTop (mkF m 32 #[.val (.ref a0), .val (.ref a1), .val (.ref b2), .val (.int (3 : Int32)), .val (.int (2 : Int32)), .val (.int x1)] [])) (fun _ kk => XS.icmpNo X9.here hx rfl (hb hby d1_29) rfl (tlt (by decide : (2 : Int32) < (3 : Int32))).2.1 kk) ?_
  refine Go.st (S' := T9.setTop (mkF m 33 #[.val (.ref a0), .val (.ref a1), .val (.ref b2), .val (.int (3 : Int32)), .val (.int (2 : Int32)), .val (.int x1)] [(.ref b2)])) (fun _ kk => XS.aloadN X9.here hx rfl (hb hby d1_32) rfl rfl kk) ?_
  refine Go.st (S' := T9.setTop (mkF m 35 #[.val (.ref a0), .val (.ref a1), .val (.ref b2), .val (.int (3 : Int32)), .val (.int (2 : Int32)), .val (.int x1)] [(.int (2 : Int32)), (.ref b2)])) (fun _ kk => XS.iload X9.here hx rfl (hb hby d1_33) rfl kk) ?_
  obtain ⟨cl13, Ar13, q13, S13, Ng13, H13, G13⟩ := (id V_b2)
  have hin13 : ¬ ((2 : Int32) < 0 ∨ cl13.slots.size ≤ ((2 : Int32)).toNatClampNeg) := inb_of S13 ⟨by decide, by decide⟩
  have hat13 : cl13.slots[((2 : Int32)).toNatClampNeg]? = some (.int x2) := Has.at H13 hin13 rfl
  refine Go.st (S' := T9.setTop (mkF m 36 #[.val (.ref a0), .val (.ref a1), .val (.ref b2), .val (.int (3 : Int32)), .val (.int (2 : Int32)), .val (.int x1)] [(.int x2)])) (fun _ kk => X9.iaload hx (j := (2 : Int32)) (v := (.int x2)) (by rw [e9]; exact Ar13.1) (State.isArrayOf_alike hZ.alike Ar13.2.1) Ar13.2.2 hin13 hat13 (g := (mkF m 35 #[.val (.ref a0), .val (.ref a1), .val (.ref b2), .val (.int (3 : Int32)), .val (.int (2 : Int32)), .val (.int x1)] [(.int (2 : Int32)), (.ref b2)])) rfl rfl (hb hby d1_35) _ kk) ?_
  refine Go.st (S' := T9.setTop (mkF m 38 #[.val (.ref a0), .val (.ref a1), .val (.ref b2), .val (.int (3 : Int32)), .val (.int (2 : Int32)), .val (.int x2)] [])) (fun _ kk => XS.istore X9.here hx rfl (hb hby d1_36) rfl (l' := #[.val (.ref a0), .val (.ref a1), .val (.ref b2), .val (.int (3 : Int32)), .val (.int (2 : Int32)), .val (.int x2)]) rfl kk) ?_
  refine Go.st (S' := T9.setTop (mkF m 40 #[.val (.ref a0), .val (.ref a1), .val (.ref b2), .val (.int (3 : Int32)), .val (.int (2 : Int32)), .val (.int x2)] [(.int x2)])) (fun _ kk => XS.iload X9.here hx rfl (hb hby d1_38) rfl kk) ?_
  refine Go.st (S' := T9.setTop (mkF m 58 #[.val (.ref a0), .val (.ref a1), .val (.ref b2), .val (.int (3 : Int32)), .val (.int (2 : Int32)), .val (.int x2)] [])) (fun _ kk => XS.ifYes X9.here hx rfl (pc0 := 40) (pc' := 58) rfl (hb hby d1_40) rfl ((if0 _ _).trans (flt hx2).2.1) (by decide) (by decide) kk) ?_
  refine Go.st (S' := T9.setTop (mkF m 61 #[.val (.ref a0), .val (.ref a1), .val (.ref b2), .val (.int (3 : Int32)), .val (.int (3 : Int32)), .val (.int x2)] [])) (fun _ kk => XS.iinc X9.here hx rfl (hb hby d1_58) rfl (l' := #[.val (.ref a0), .val (.ref a1), .val (.ref b2), .val (.int (3 : Int32)), .val (.int (3 : Int32)), .val (.int x2)]) rfl kk) ?_
  refine Go.st (S' := T9.setTop (mkF m 26 #[.val (.ref a0), .val (.ref a1), .val (.ref b2), .val (.int (3 : Int32)), .val (.int (3 : Int32)), .val (.int x2)] [])) (fun _ kk => XS.goto X9.here hx rfl (pc0 := 61) (pc' := 26) rfl (hb hby d1_61) (by decide) (by decide) kk) ?_
  refine Go.st (S' := T9.setTop (mkF m 28 #[.val (.ref a0), .val (.ref a1), .val (.ref b2), .val (.int (3 : Int32)), .val (.int (3 : Int32)), .val (.int x2)] [(.int (3 : Int32))])) (fun _ kk => XS.iload X9.here hx rfl (hb hby d1_26) rfl kk) ?_
  refine Go.st (S' := T9.setTop (mkF m 29 #[.val (.ref a0), .val (.ref a1), .val (.ref b2), .val (.int (3 : Int32)), .val (.int (3 : Int32)), .val (.int x2)] [(.int (3 : Int32)), (.int (3 : Int32))])) (fun _ kk => XS.iloadN X9.here hx rfl (hb hby d1_28) rfl kk) ?_
  refine Go.st (S' := T9.setTop (mkF m 64 #[.val (.ref a0), .val (.ref a1), .val (.ref b2), .val (.int (3 : Int32)), .val (.int (3 : Int32)), .val (.int x2)] [])) (fun _ kk => XS.icmpYes X9.here hx rfl (pc0 := 29) (pc' := 64) rfl (hb hby d1_29) rfl (flt (by decide : ¬ ((3 : Int32) < (3 : Int32)))).2.1 (by decide) (by decide) kk) ?_
  exact Go.ret0 X9 hx hlk Bd.returns (hb hby d1_64) (by rw [e9]; exact ⟨_, rfl, N6, Kp8, E_a0, F_counts, V_b2, sz_b2⟩) (by decide) (by decide)
def fS3 (x0 : Int32) (x1 : Int32) (x2 : Int32) : Int64 := ((((0 : Int64) + (x0.toInt64)) + (x1.toInt64)) + (x2.toInt64))
set_option maxRecDepth 65536 in
set_option maxHeartbeats 40000000 in
theorem rmS3 (l : Launch) (Z : State) (az : Array Value) (hw : ∀ d ∈ tables_1, d.before az Z = true) (ws : List Jvm.Cond) (a0 : Addr) (t : Addr) (kk : ClassId) (x0 : Int32) (x1 : Int32) (x2 : Int32) (h0 : Heap) (n0 : Nat) (Z0 : n0 ≤ h0.size) (F_counts : Fld Z h0 a0 "com/example/patient_snoop/patientsnoop/model/Configuration" "counts" "[I" (.ref t)) (V_t : Arv Z h0 t kk .int (3 : Int32) [(.int x0), (.int x1), (.int x2)] (.int (0 : Int32))) :
    MetFree l (⟨"com/example/patient_snoop/patientsnoop/model/Configuration", "caches", "()J"⟩ : MethodName) (head1 (Jvm.Cond.code (⟨"com/example/patient_snoop/patientsnoop/model/Configuration", "caches", "()J"⟩ : MethodName) prog_19_method_4_code 7 (some .long) :: ws) ({ frames := 0, cells := 0, slots := 0, locals := 0 } : Room)) (fun a U => a = #[(.ref a0)] ∧ Z.Warmed39 U.vm ∧ U.heap = h0) (fun _ _ _ _ _ => True) (fun _ U o U' => ∃ v L, o = .returned v ∧ (PQ (.long (fS3 x0 x1 x2)) n0 h0) v U'.heap L ∧ FrameEnd U o U' L ({ frames := 0, cells := 0, slots := 0, locals := 0 } : Room).cells ({ frames := 0, cells := 0, slots := 0, locals := 0 } : Room).slots) := by
  refine MetFree.of_bodySF (plainFor_of_name pn_0) hisR ?_
  intro p e s m args below meth c s₁ Bd hml0 hP hK
  obtain ⟨rfl, hZ, hh⟩ := hP
  have hx := Bd.exec
  have hby := Bd.bytes
  have hlk : meth.locks = false := Bd.notSynchronized
  have hml : c.maxLocals = 7 := hml0
  have hown : s.vm.findClass "com/example/patient_snoop/patientsnoop/model/Configuration" = some m.cls := findClass_of_methodNamed Bd.named
  have hnm := (name_of_methodNamed Bd.named Bd.method).1
  have X0 : Stand p l e ({ frames := 0, cells := 0, slots := 0, locals := 0 } : Room) s m #[(.ref a0)] below meth c s₁ [] 0 0 := Stand.of_body Bd
  have e0 : s₁.heap = h0 := by rw [← hh, Bd.state]; rfl
  have N0 := Fr.nil n0
  show Go p e below s ((PQ (.long (fS3 x0 x1 x2)) n0 h0)) ({ frames := 0, cells := 0, slots := 0, locals := 0 } : Room).cells ({ frames := 0, cells := 0, slots := 0, locals := 0 } : Room).slots (s₁.setTop (entryFrame m #[(.ref a0)] 7))
  rw [ef_3 m a0]
  refine Go.st (S' := s₁.setTop (mkF m 1 #[.val (.ref a0), .unset, .unset, .unset, .unset, .unset, .unset] [(.long (0 : Int64))])) (fun _ kk => XS.lconst X0.here hx rfl (hb hby d3_0) kk) ?_
  refine Go.st (S' := s₁.setTop (mkF m 2 #[.val (.ref a0), .val (.long (0 : Int64)), .second, .unset, .unset, .unset, .unset] [])) (fun _ kk => XS.lstoreN X0.here hx rfl (hb hby d3_1) rfl (l' := #[.val (.ref a0), .val (.long (0 : Int64)), .second, .unset, .unset, .unset, .unset]) rfl kk) ?_
  refine Go.st (S' := s₁.setTop (mkF m 3 #[.val (.ref a0), .val (.long (0 : Int64)), .second, .unset, .unset, .unset, .unset] [(.ref a0)])) (fun _ kk => XS.aloadN X0.here hx rfl (hb hby d3_2) rfl rfl kk) ?_
  obtain ⟨T1, X1, e1, st1⟩ := getF X0 hx hZ hown (host := "") (Or.inl (hw _ (List.mem_of_getElem? (i := 20) rfl))) Via.refl e0 F_counts (g := (mkF m 3 #[.val (.ref a0), .val (.long (0 : Int64)), .second, .unset, .unset, .unset, .unset] [(.ref a0)])) rfl rfl (hb hby d3_3)
  refine Go.st (S' := T1.setTop (mkF m 6 #[.val (.ref a0), .val (.long (0 : Int64)), .second, .unset, .unset, .unset, .unset] [(.ref t)])) st1 ?_
  refine Go.st (S' := T1.setTop (mkF m 7 #[.val (.ref a0), .val (.long (0 : Int64)), .second, .val (.ref t), .unset, .unset, .unset] [])) (fun _ kk => XS.astoreN X1.here hx rfl (hb hby d3_6) rfl rfl (l' := #[.val (.ref a0), .val (.long (0 : Int64)), .second, .val (.ref t), .unset, .unset, .unset]) rfl kk) ?_
  refine Go.st (S' := T1.setTop (mkF m 8 #[.val (.ref a0), .val (.long (0 : Int64)), .second, .val (.ref t), .unset, .unset, .unset] [(.ref t)])) (fun _ kk => XS.aloadN X1.here hx rfl (hb hby d3_7) rfl rfl kk) ?_
  obtain ⟨cl2, Ar2, -, S2, Ng2, -, -⟩ := (id V_t)
  refine Go.st (S' := T1.setTop (mkF m 9 #[.val (.ref a0), .val (.long (0 : Int64)), .second, .val (.ref t), .unset, .unset, .unset] [(.int (3 : Int32))])) (fun _ kk => X1.arraylength hx (by rw [e1]; exact Ar2.1) (State.isArrayOf_alike hZ.alike Ar2.2.1) (g := (mkF m 8 #[.val (.ref a0), .val (.long (0 : Int64)), .second, .val (.ref t), .unset, .unset, .unset] [(.ref t)])) rfl rfl (hb hby d3_8) _ (by rw [len_of S2 Ng2]; exact kk)) ?_
  refine Go.st (S' := T1.setTop (mkF m 11 #[.val (.ref a0), .val (.long (0 : Int64)), .second, .val (.ref t), .val (.int (3 : Int32)), .unset, .unset] [])) (fun _ kk => XS.istore X1.here hx rfl (hb hby d3_9) rfl (l' := #[.val (.ref a0), .val (.long (0 : Int64)), .second, .val (.ref t), .val (.int (3 : Int32)), .unset, .unset]) rfl kk) ?_
  refine Go.st (S' := T1.setTop (mkF m 12 #[.val (.ref a0), .val (.long (0 : Int64)), .second, .val (.ref t), .val (.int (3 : Int32)), .unset, .unset] [(.int (0 : Int32))])) (fun _ kk => XS.iconst X1.here hx rfl (hb hby d3_11) kk) ?_
  refine Go.st (S' := T1.setTop (mkF m 14 #[.val (.ref a0), .val (.long (0 : Int64)), .second, .val (.ref t), .val (.int (3 : Int32)), .val (.int (0 : Int32)), .unset] [])) (fun _ kk => XS.istore X1.here hx rfl (hb hby d3_12) rfl (l' := #[.val (.ref a0), .val (.long (0 : Int64)), .second, .val (.ref t), .val (.int (3 : Int32)), .val (.int (0 : Int32)), .unset]) rfl kk) ?_
  refine Go.st (S' := T1.setTop (mkF m 16 #[.val (.ref a0), .val (.long (0 : Int64)), .second, .val (.ref t), .val (.int (3 : Int32)), .val (.int (0 : Int32)), .unset] [(.int (0 : Int32))])) (fun _ kk => XS.iload X1.here hx rfl (hb hby d3_14) rfl kk) ?_
  refine Go.st (S' := T1.setTop (mkF m 18 #[.val (.ref a0), .val (.long (0 : Int64)), .second, .val (.ref t), .val (.int (3 : Int32)), .val (.int (0 : Int32)), .unset] [(.int (3 : Int32)), (.int (0 : Int32))])) (fun _ kk => XS.iload X1.here hx rfl (hb hby d3_16) rfl kk) ?_
  refine Go.st (S' := T1.setTop (mkF m 21 #[.val (.ref a0), .val (.long (0 : Int64)), .second, .val (.ref t), .val (.int (3 : Int32)), .val (.int (0 : Int32)), .unset] [])) (fun _ kk => XS.icmpNo X1.here hx rfl (hb hby d3_18) rfl (tlt (by decide : (0 : Int32) < (3 : Int32))).2.1 kk) ?_
  refine Go.st (S' := T1.setTop (mkF m 22 #[.val (.ref a0), .val (.long (0 : Int64)), .second, .val (.ref t), .val (.int (3 : Int32)), .val (.int (0 : Int32)), .unset] [(.ref t)])) (fun _ kk => XS.aloadN X1.here hx rfl (hb hby d3_21) rfl rfl kk) ?_
  refine Go.st (S' := T1.setTop (mkF m 24 #[.val (.ref a0), .val (.long (0 : Int64)), .second, .val (.ref t), .val (.int (3 : Int32)), .val (.int (0 : Int32)), .unset] [(.int (0 : Int32)), (.ref t)])) (fun _ kk => XS.iload X1.here hx rfl (hb hby d3_22) rfl kk) ?_
  obtain ⟨cl3, Ar3, q3, S3, Ng3, H3, G3⟩ := (id V_t)
  have hin3 : ¬ ((0 : Int32) < 0 ∨ cl3.slots.size ≤ ((0 : Int32)).toNatClampNeg) := inb_of S3 ⟨by decide, by decide⟩
  have hat3 : cl3.slots[((0 : Int32)).toNatClampNeg]? = some (.int x0) := Has.at H3 hin3 rfl
  refine Go.st (S' := T1.setTop (mkF m 25 #[.val (.ref a0), .val (.long (0 : Int64)), .second, .val (.ref t), .val (.int (3 : Int32)), .val (.int (0 : Int32)), .unset] [(.int x0)])) (fun _ kk => X1.iaload hx (j := (0 : Int32)) (v := (.int x0)) (by rw [e1]; exact Ar3.1) (State.isArrayOf_alike hZ.alike Ar3.2.1) Ar3.2.2 hin3 hat3 (g := (mkF m 24 #[.val (.ref a0), .val (.long (0 : Int64)), .second, .val (.ref t), .val (.int (3 : Int32)), .val (.int (0 : Int32)), .unset] [(.int (0 : Int32)), (.ref t)])) rfl rfl (hb hby d3_24) _ kk) ?_
  refine Go.st (S' := T1.setTop (mkF m 27 #[.val (.ref a0), .val (.long (0 : Int64)), .second, .val (.ref t), .val (.int (3 : Int32)), .val (.int (0 : Int32)), .val (.int x0)] [])) (fun _ kk => XS.istore X1.here hx rfl (hb hby d3_25) rfl (l' := #[.val (.ref a0), .val (.long (0 : Int64)), .second, .val (.ref t), .val (.int (3 : Int32)), .val (.int (0 : Int32)), .val (.int x0)]) rfl kk) ?_
  refine Go.st (S' := T1.setTop (mkF m 28 #[.val (.ref a0), .val (.long (0 : Int64)), .second, .val (.ref t), .val (.int (3 : Int32)), .val (.int (0 : Int32)), .val (.int x0)] [(.long (0 : Int64))])) (fun _ kk => XS.lloadN X1.here hx rfl (hb hby d3_27) rfl kk) ?_
  refine Go.st (S' := T1.setTop (mkF m 30 #[.val (.ref a0), .val (.long (0 : Int64)), .second, .val (.ref t), .val (.int (3 : Int32)), .val (.int (0 : Int32)), .val (.int x0)] [(.int x0), (.long (0 : Int64))])) (fun _ kk => XS.iload X1.here hx rfl (hb hby d3_28) rfl kk) ?_
  refine Go.st (S' := T1.setTop (mkF m 31 #[.val (.ref a0), .val (.long (0 : Int64)), .second, .val (.ref t), .val (.int (3 : Int32)), .val (.int (0 : Int32)), .val (.int x0)] [(.long (x0.toInt64)), (.long (0 : Int64))])) (fun _ kk => XS.i2l X1.here hx rfl (hb hby d3_30) rfl kk) ?_
  refine Go.st (S' := T1.setTop (mkF m 32 #[.val (.ref a0), .val (.long (0 : Int64)), .second, .val (.ref t), .val (.int (3 : Int32)), .val (.int (0 : Int32)), .val (.int x0)] [(.long ((0 : Int64) + (x0.toInt64)))])) (fun _ kk => XS.ladd X1.here hx rfl (hb hby d3_31) rfl kk) ?_
  refine Go.st (S' := T1.setTop (mkF m 33 #[.val (.ref a0), .val (.long ((0 : Int64) + (x0.toInt64))), .second, .val (.ref t), .val (.int (3 : Int32)), .val (.int (0 : Int32)), .val (.int x0)] [])) (fun _ kk => XS.lstoreN X1.here hx rfl (hb hby d3_32) rfl (l' := #[.val (.ref a0), .val (.long ((0 : Int64) + (x0.toInt64))), .second, .val (.ref t), .val (.int (3 : Int32)), .val (.int (0 : Int32)), .val (.int x0)]) rfl kk) ?_
  refine Go.st (S' := T1.setTop (mkF m 36 #[.val (.ref a0), .val (.long ((0 : Int64) + (x0.toInt64))), .second, .val (.ref t), .val (.int (3 : Int32)), .val (.int (1 : Int32)), .val (.int x0)] [])) (fun _ kk => XS.iinc X1.here hx rfl (hb hby d3_33) rfl (l' := #[.val (.ref a0), .val (.long ((0 : Int64) + (x0.toInt64))), .second, .val (.ref t), .val (.int (3 : Int32)), .val (.int (1 : Int32)), .val (.int x0)]) rfl kk) ?_
  refine Go.st (S' := T1.setTop (mkF m 14 #[.val (.ref a0), .val (.long ((0 : Int64) + (x0.toInt64))), .second, .val (.ref t), .val (.int (3 : Int32)), .val (.int (1 : Int32)), .val (.int x0)] [])) (fun _ kk => XS.goto X1.here hx rfl (pc0 := 36) (pc' := 14) rfl (hb hby d3_36) (by decide) (by decide) kk) ?_
  refine Go.st (S' := T1.setTop (mkF m 16 #[.val (.ref a0), .val (.long ((0 : Int64) + (x0.toInt64))), .second, .val (.ref t), .val (.int (3 : Int32)), .val (.int (1 : Int32)), .val (.int x0)] [(.int (1 : Int32))])) (fun _ kk => XS.iload X1.here hx rfl (hb hby d3_14) rfl kk) ?_
  refine Go.st (S' := T1.setTop (mkF m 18 #[.val (.ref a0), .val (.long ((0 : Int64) + (x0.toInt64))), .second, .val (.ref t), .val (.int (3 : Int32)), .val (.int (1 : Int32)), .val (.int x0)] [(.int (3 : Int32)), (.int (1 : Int32))])) (fun _ kk => XS.iload X1.here hx rfl (hb hby d3_16) rfl kk) ?_
  refine Go.st (S' := T1.setTop (mkF m 21 #[.val (.ref a0), .val (.long ((0 : Int64) + (x0.toInt64))), .second, .val (.ref t), .val (.int (3 : Int32)), .val (.int (1 : Int32)), .val (.int x0)] [])) (fun _ kk => XS.icmpNo X1.here hx rfl (hb hby d3_18) rfl (tlt (by decide : (1 : Int32) < (3 : Int32))).2.1 kk) ?_
  refine Go.st (S' := T1.setTop (mkF m 22 #[.val (.ref a0), .val (.long ((0 : Int64) + (x0.toInt64))), .second, .val (.ref t), .val (.int (3 : Int32)), .val (.int (1 : Int32)), .val (.int x0)] [(.ref t)])) (fun _ kk => XS.aloadN X1.here hx rfl (hb hby d3_21) rfl rfl kk) ?_
  refine Go.st (S' := T1.setTop (mkF m 24 #[.val (.ref a0), .val (.long ((0 : Int64) + (x0.toInt64))), .second, .val (.ref t), .val (.int (3 : Int32)), .val (.int (1 : Int32)), .val (.int x0)] [(.int (1 : Int32)), (.ref t)])) (fun _ kk => XS.iload X1.here hx rfl (hb hby d3_22) rfl kk) ?_
  obtain ⟨cl4, Ar4, q4, S4, Ng4, H4, G4⟩ := (id V_t)
  have hin4 : ¬ ((1 : Int32) < 0 ∨ cl4.slots.size ≤ ((1 : Int32)).toNatClampNeg) := inb_of S4 ⟨by decide, by decide⟩
  have hat4 : cl4.slots[((1 : Int32)).toNatClampNeg]? = some (.int x1) := Has.at H4 hin4 rfl
  refine Go.st (S' := T1.setTop (mkF m 25 #[.val (.ref a0), .val (.long ((0 : Int64) + (x0.toInt64))), .second, .val (.ref t), .val (.int (3 : Int32)), .val (.int (1 : Int32)), .val (.int x0)] [(.int x1)])) (fun _ kk => X1.iaload hx (j := (1 : Int32)) (v := (.int x1)) (by rw [e1]; exact Ar4.1) (State.isArrayOf_alike hZ.alike Ar4.2.1) Ar4.2.2 hin4 hat4 (g := (mkF m 24 #[.val (.ref a0), .val (.long ((0 : Int64) + (x0.toInt64))), .second, .val (.ref t), .val (.int (3 : Int32)), .val (.int (1 : Int32)), .val (.int x0)] [(.int (1 : Int32)), (.ref t)])) rfl rfl (hb hby d3_24) _ kk) ?_
  refine Go.st (S' := T1.setTop (mkF m 27 #[.val (.ref a0), .val (.long ((0 : Int64) + (x0.toInt64))), .second, .val (.ref t), .val (.int (3 : Int32)), .val (.int (1 : Int32)), .val (.int x1)] [])) (fun _ kk => XS.istore X1.here hx rfl (hb hby d3_25) rfl (l' := #[.val (.ref a0), .val (.long ((0 : Int64) + (x0.toInt64))), .second, .val (.ref t), .val (.int (3 : Int32)), .val (.int (1 : Int32)), .val (.int x1)]) rfl kk) ?_
  refine Go.st (S' := T1.setTop (mkF m 28 #[.val (.ref a0), .val (.long ((0 : Int64) + (x0.toInt64))), .second, .val (.ref t), .val (.int (3 : Int32)), .val (.int (1 : Int32)), .val (.int x1)] [(.long ((0 : Int64) + (x0.toInt64)))])) (fun _ kk => XS.lloadN X1.here hx rfl (hb hby d3_27) rfl kk) ?_
  refine Go.st (S' := T1.setTop (mkF m 30 #[.val (.ref a0), .val (.long ((0 : Int64) + (x0.toInt64))), .second, .val (.ref t), .val (.int (3 : Int32)), .val (.int (1 : Int32)), .val (.int x1)] [(.int x1), (.long ((0 : Int64) + (x0.toInt64)))])) (fun _ kk => XS.iload X1.here hx rfl (hb hby d3_28) rfl kk) ?_
  refine Go.st (S' := T1.setTop (mkF m 31 #[.val (.ref a0), .val (.long ((0 : Int64) + (x0.toInt64))), .second, .val (.ref t), .val (.int (3 : Int32)), .val (.int (1 : Int32)), .val (.int x1)] [(.long (x1.toInt64)), (.long ((0 : Int64) + (x0.toInt64)))])) (fun _ kk => XS.i2l X1.here hx rfl (hb hby d3_30) rfl kk) ?_
  refine Go.st (S' := T1.setTop (mkF m 32 #[.val (.ref a0), .val (.long ((0 : Int64) + (x0.toInt64))), .second, .val (.ref t), .val (.int (3 : Int32)), .val (.int (1 : Int32)), .val (.int x1)] [(.long (((0 : Int64) + (x0.toInt64)) + (x1.toInt64)))])) (fun _ kk => XS.ladd X1.here hx rfl (hb hby d3_31) rfl kk) ?_
  refine Go.st (S' := T1.setTop (mkF m 33 #[.val (.ref a0), .val (.long (((0 : Int64) + (x0.toInt64)) + (x1.toInt64))), .second, .val (.ref t), .val (.int (3 : Int32)), .val (.int (1 : Int32)), .val (.int x1)] [])) (fun _ kk => XS.lstoreN X1.here hx rfl (hb hby d3_32) rfl (l' := #[.val (.ref a0), .val (.long (((0 : Int64) + (x0.toInt64)) + (x1.toInt64))), .second, .val (.ref t), .val (.int (3 : Int32)), .val (.int (1 : Int32)), .val (.int x1)]) rfl kk) ?_
  refine Go.st (S' := T1.setTop (mkF m 36 #[.val (.ref a0), .val (.long (((0 : Int64) + (x0.toInt64)) + (x1.toInt64))), .second, .val (.ref t), .val (.int (3 : Int32)), .val (.int (2 : Int32)), .val (.int x1)] [])) (fun _ kk => XS.iinc X1.here hx rfl (hb hby d3_33) rfl (l' := #[.val (.ref a0), .val (.long (((0 : Int64) + (x0.toInt64)) + (x1.toInt64))), .second, .val (.ref t), .val (.int (3 : Int32)), .val (.int (2 : Int32)), .val (.int x1)]) rfl kk) ?_
  refine Go.st (S' := T1.setTop (mkF m 14 #[.val (.ref a0), .val (.long (((0 : Int64) + (x0.toInt64)) + (x1.toInt64))), .second, .val (.ref t), .val (.int (3 : Int32)), .val (.int (2 : Int32)), .val (.int x1)] [])) (fun _ kk => XS.goto X1.here hx rfl (pc0 := 36) (pc' := 14) rfl (hb hby d3_36) (by decide) (by decide) kk) ?_
  refine Go.st (S' := T1.setTop (mkF m 16 #[.val (.ref a0), .val (.long (((0 : Int64) + (x0.toInt64)) + (x1.toInt64))), .second, .val (.ref t), .val (.int (3 : Int32)), .val (.int (2 : Int32)), .val (.int x1)] [(.int (2 : Int32))])) (fun _ kk => XS.iload X1.here hx rfl (hb hby d3_14) rfl kk) ?_
  refine Go.st (S' := T1.setTop (mkF m 18 #[.val (.ref a0), .val (.long (((0 : Int64) + (x0.toInt64)) + (x1.toInt64))), .second, .val (.ref t), .val (.int (3 : Int32)), .val (.int (2 : Int32)), .val (.int x1)] [(.int (3 : Int32)), (.int (2 : Int32))])) (fun _ kk => XS.iload X1.here hx rfl (hb hby d3_16) rfl kk) ?_
  refine Go.st (S' := T1.setTop (mkF m 21 #[.val (.ref a0), .val (.long (((0 : Int64) + (x0.toInt64)) + (x1.toInt64))), .second, .val (.ref t), .val (.int (3 : Int32)), .val (.int (2 : Int32)), .val (.int x1)] [])) (fun _ kk => XS.icmpNo X1.here hx rfl (hb hby d3_18) rfl (tlt (by decide : (2 : Int32) < (3 : Int32))).2.1 kk) ?_
  refine Go.st (S' := T1.setTop (mkF m 22 #[.val (.ref a0), .val (.long (((0 : Int64) + (x0.toInt64)) + (x1.toInt64))), .second, .val (.ref t), .val (.int (3 : Int32)), .val (.int (2 : Int32)), .val (.int x1)] [(.ref t)])) (fun _ kk => XS.aloadN X1.here hx rfl (hb hby d3_21) rfl rfl kk) ?_
  refine Go.st (S' := T1.setTop (mkF m 24 #[.val (.ref a0), .val (.long (((0 : Int64) + (x0.toInt64)) + (x1.toInt64))), .second, .val (.ref t), .val (.int (3 : Int32)), .val (.int (2 : Int32)), .val (.int x1)] [(.int (2 : Int32)), (.ref t)])) (fun _ kk => XS.iload X1.here hx rfl (hb hby d3_22) rfl kk) ?_
  obtain ⟨cl5, Ar5, q5, S5, Ng5, H5, G5⟩ := (id V_t)
  have hin5 : ¬ ((2 : Int32) < 0 ∨ cl5.slots.size ≤ ((2 : Int32)).toNatClampNeg) := inb_of S5 ⟨by decide, by decide⟩
  have hat5 : cl5.slots[((2 : Int32)).toNatClampNeg]? = some (.int x2) := Has.at H5 hin5 rfl
  refine Go.st (S' := T1.setTop (mkF m 25 #[.val (.ref a0), .val (.long (((0 : Int64) + (x0.toInt64)) + (x1.toInt64))), .second, .val (.ref t), .val (.int (3 : Int32)), .val (.int (2 : Int32)), .val (.int x1)] [(.int x2)])) (fun _ kk => X1.iaload hx (j := (2 : Int32)) (v := (.int x2)) (by rw [e1]; exact Ar5.1) (State.isArrayOf_alike hZ.alike Ar5.2.1) Ar5.2.2 hin5 hat5 (g := (mkF m 24 #[.val (.ref a0), .val (.long (((0 : Int64) + (x0.toInt64)) + (x1.toInt64))), .second, .val (.ref t), .val (.int (3 : Int32)), .val (.int (2 : Int32)), .val (.int x1)] [(.int (2 : Int32)), (.ref t)])) rfl rfl (hb hby d3_24) _ kk) ?_
  refine Go.st (S' := T1.setTop (mkF m 27 #[.val (.ref a0), .val (.long (((0 : Int64) + (x0.toInt64)) + (x1.toInt64))), .second, .val (.ref t), .val (.int (3 : Int32)), .val (.int (2 : Int32)), .val (.int x2)] [])) (fun _ kk => XS.istore X1.here hx rfl (hb hby d3_25) rfl (l' := #[.val (.ref a0), .val (.long (((0 : Int64) + (x0.toInt64)) + (x1.toInt64))), .second, .val (.ref t), .val (.int (3 : Int32)), .val (.int (2 : Int32)), .val (.int x2)]) rfl kk) ?_
  refine Go.st (S' := T1.setTop (mkF m 28 #[.val (.ref a0), .val (.long (((0 : Int64) + (x0.toInt64)) + (x1.toInt64))), .second, .val (.ref t), .val (.int (3 : Int32)), .val (.int (2 : Int32)), .val (.int x2)] [(.long (((0 : Int64) + (x0.toInt64)) + (x1.toInt64)))])) (fun _ kk => XS.lloadN X1.here hx rfl (hb hby d3_27) rfl kk) ?_
  refine Go.st (S' := T1.setTop (mkF m 30 #[.val (.ref a0), .val (.long (((0 : Int64) + (x0.toInt64)) + (x1.toInt64))), .second, .val (.ref t), .val (.int (3 : Int32)), .val (.int (2 : Int32)), .val (.int x2)] [(.int x2), (.long (((0 : Int64) + (x0.toInt64)) + (x1.toInt64)))])) (fun _ kk => XS.iload X1.here hx rfl (hb hby d3_28) rfl kk) ?_
  refine Go.st (S' := T1.setTop (mkF m 31 #[.val (.ref a0), .val (.long (((0 : Int64) + (x0.toInt64)) + (x1.toInt64))), .second, .val (.ref t), .val (.int (3 : Int32)), .val (.int (2 : Int32)), .val (.int x2)] [(.long (x2.toInt64)), (.long (((0 : Int64) + (x0.toInt64)) + (x1.toInt64)))])) (fun _ kk => XS.i2l X1.here hx rfl (hb hby d3_30) rfl kk) ?_
  refine Go.st (S' := T1.setTop (mkF m 32 #[.val (.ref a0), .val (.long (((0 : Int64) + (x0.toInt64)) + (x1.toInt64))), .second, .val (.ref t), .val (.int (3 : Int32)), .val (.int (2 : Int32)), .val (.int x2)] [(.long ((((0 : Int64) + (x0.toInt64)) + (x1.toInt64)) + (x2.toInt64)))])) (fun _ kk => XS.ladd X1.here hx rfl (hb hby d3_31) rfl kk) ?_
  refine Go.st (S' := T1.setTop (mkF m 33 #[.val (.ref a0), .val (.long ((((0 : Int64) + (x0.toInt64)) + (x1.toInt64)) + (x2.toInt64))), .second, .val (.ref t), .val (.int (3 : Int32)), .val (.int (2 : Int32)), .val (.int x2)] [])) (fun _ kk => XS.lstoreN X1.here hx rfl (hb hby d3_32) rfl (l' := #[.val (.ref a0), .val (.long ((((0 : Int64) + (x0.toInt64)) + (x1.toInt64)) + (x2.toInt64))), .second, .val (.ref t), .val (.int (3 : Int32)), .val (.int (2 : Int32)), .val (.int x2)]) rfl kk) ?_
  refine Go.st (S' := T1.setTop (mkF m 36 #[.val (.ref a0), .val (.long ((((0 : Int64) + (x0.toInt64)) + (x1.toInt64)) + (x2.toInt64))), .second, .val (.ref t), .val (.int (3 : Int32)), .val (.int (3 : Int32)), .val (.int x2)] [])) (fun _ kk => XS.iinc X1.here hx rfl (hb hby d3_33) rfl (l' := #[.val (.ref a0), .val (.long ((((0 : Int64) + (x0.toInt64)) + (x1.toInt64)) + (x2.toInt64))), .second, .val (.ref t), .val (.int (3 : Int32)), .val (.int (3 : Int32)), .val (.int x2)]) rfl kk) ?_
  refine Go.st (S' := T1.setTop (mkF m 14 #[.val (.ref a0), .val (.long ((((0 : Int64) + (x0.toInt64)) + (x1.toInt64)) + (x2.toInt64))), .second, .val (.ref t), .val (.int (3 : Int32)), .val (.int (3 : Int32)), .val (.int x2)] [])) (fun _ kk => XS.goto X1.here hx rfl (pc0 := 36) (pc' := 14) rfl (hb hby d3_36) (by decide) (by decide) kk) ?_
  refine Go.st (S' := T1.setTop (mkF m 16 #[.val (.ref a0), .val (.long ((((0 : Int64) + (x0.toInt64)) + (x1.toInt64)) + (x2.toInt64))), .second, .val (.ref t), .val (.int (3 : Int32)), .val (.int (3 : Int32)), .val (.int x2)] [(.int (3 : Int32))])) (fun _ kk => XS.iload X1.here hx rfl (hb hby d3_14) rfl kk) ?_
  refine Go.st (S' := T1.setTop (mkF m 18 #[.val (.ref a0), .val (.long ((((0 : Int64) + (x0.toInt64)) + (x1.toInt64)) + (x2.toInt64))), .second, .val (.ref t), .val (.int (3 : Int32)), .val (.int (3 : Int32)), .val (.int x2)] [(.int (3 : Int32)), (.int (3 : Int32))])) (fun _ kk => XS.iload X1.here hx rfl (hb hby d3_16) rfl kk) ?_
  refine Go.st (S' := T1.setTop (mkF m 39 #[.val (.ref a0), .val (.long ((((0 : Int64) + (x0.toInt64)) + (x1.toInt64)) + (x2.toInt64))), .second, .val (.ref t), .val (.int (3 : Int32)), .val (.int (3 : Int32)), .val (.int x2)] [])) (fun _ kk => XS.icmpYes X1.here hx rfl (pc0 := 18) (pc' := 39) rfl (hb hby d3_18) rfl (flt (by decide : ¬ ((3 : Int32) < (3 : Int32)))).2.1 (by decide) (by decide) kk) ?_
  refine Go.st (S' := T1.setTop (mkF m 40 #[.val (.ref a0), .val (.long ((((0 : Int64) + (x0.toInt64)) + (x1.toInt64)) + (x2.toInt64))), .second, .val (.ref t), .val (.int (3 : Int32)), .val (.int (3 : Int32)), .val (.int x2)] [(.long ((((0 : Int64) + (x0.toInt64)) + (x1.toInt64)) + (x2.toInt64)))])) (fun _ kk => XS.lloadN X1.here hx rfl (hb hby d3_39) rfl kk) ?_
  exact Go.retJ X1 hx hlk Bd.returns (hb hby d3_40) (⟨congrArg (fun q => some (Value.long q)) (Eq.symm (show fS3 x0 x1 x2 = ((((0 : Int64) + (x0.toInt64)) + (x1.toInt64)) + (x2.toInt64)) from by rfl)), N0, e1⟩) (by decide) (by decide)
def Q_rmC4 (Z : State) (a0 : Addr) (x0 x1 x2 x3 : Int32) (kk : ClassId) (h0 : Heap) (n0 : Nat) (v : Option Value) (h : Heap) (L : List Loc) : Prop := ∃ t : Addr, v = none ∧ Fr n0 L ∧ Keep h0 h [a0] ∧ Exa Z h a0 "com/example/patient_snoop/patientsnoop/model/Configuration" ∧ Fld Z h a0 "com/example/patient_snoop/patientsnoop/model/Configuration" "counts" "[I" (.ref t) ∧ Arv Z h t kk .int (4 : Int32) [(.int x0), (.int x1), (.int x2), (.int x3)] (.int (0 : Int32)) ∧ h0.size ≤ t
set_option maxRecDepth 65536 in
set_option maxHeartbeats 40000000 in
theorem rmC4 (l : Launch) (Z : State) (az : Array Value) (hw : ∀ d ∈ tables_1, d.before az Z = true) (ws : List Jvm.Cond) (a0 : Addr) (a1 : Addr) (x0 x1 x2 x3 : Int32) (kk : ClassId) (h0 : Heap) (n0 : Nat) (Z0 : n0 ≤ h0.size) (E_a0 : Exa Z h0 a0 "com/example/patient_snoop/patientsnoop/model/Configuration") (g_a0 : n0 ≤ a0) (F_counts : Fld Z h0 a0 "com/example/patient_snoop/patientsnoop/model/Configuration" "counts" "[I" .null) (E_a1 : Exa Z h0 a1 "[I") (V_a1 : Arv Z h0 a1 kk .int (4 : Int32) [(.int x0), (.int x1), (.int x2), (.int x3)] (.int (0 : Int32))) (hx0 : ¬ x0 < (0 : Int32)) (hx1 : ¬ x1 < (0 : Int32)) (hx2 : ¬ x2 < (0 : Int32)) (hx3 : ¬ x3 < (0 : Int32)) :
    MetFree l (⟨"com/example/patient_snoop/patientsnoop/model/Configuration", "<init>", "([I)V"⟩ : MethodName) (head1 (Jvm.Cond.code (⟨"com/example/patient_snoop/patientsnoop/model/Configuration", "<init>", "([I)V"⟩ : MethodName) prog_19_method_1_code 6 none :: ws) ({ frames := 1, cells := 1, slots := 4, locals := 20 } : Room)) (fun a U => a = #[(.ref a0), (.ref a1)] ∧ Z.Warmed39 U.vm ∧ U.heap = h0) (fun _ _ _ _ _ => True) (fun _ U o U' => ∃ v L, o = .returned v ∧ (Q_rmC4 Z a0 x0 x1 x2 x3 kk h0 n0) v U'.heap L ∧ FrameEnd U o U' L ({ frames := 1, cells := 1, slots := 4, locals := 20 } : Room).cells ({ frames := 1, cells := 1, slots := 4, locals := 20 } : Room).slots) := by
  refine MetFree.of_bodySF (plainFor_of_name pn_0) hisR ?_
  intro p e s m args below meth c s₁ Bd hml0 hP hK
  obtain ⟨rfl, hZ, hh⟩ := hP
  have hx := Bd.exec
  have hby := Bd.bytes
  have hlk : meth.locks = false := Bd.notSynchronized
  have hml : c.maxLocals = 6 := hml0
  have hown : s.vm.findClass "com/example/patient_snoop/patientsnoop/model/Configuration" = some m.cls := findClass_of_methodNamed Bd.named
  have hnm := (name_of_methodNamed Bd.named Bd.method).1
  have X0 : Stand p l e ({ frames := 1, cells := 1, slots := 4, locals := 20 } : Room) s m #[(.ref a0), (.ref a1)] below meth c s₁ [] 0 0 := Stand.of_body Bd
  have e0 : s₁.heap = h0 := by rw [← hh, Bd.state]; rfl
  have N0 := Fr.nil n0
  show Go p e below s ((Q_rmC4 Z a0 x0 x1 x2 x3 kk h0 n0)) ({ frames := 1, cells := 1, slots := 4, locals := 20 } : Room).cells ({ frames := 1, cells := 1, slots := 4, locals := 20 } : Room).slots (s₁.setTop (entryFrame m #[(.ref a0), (.ref a1)] 6))
  rw [ef_1 m a0 a1]
  have ne_a0_a1 : a0 ≠ a1 := ne_exa E_a0 E_a1 (by decide)
  refine Go.st (S' := s₁.setTop (mkF m 1 #[.val (.ref a0), .val (.ref a1), .unset, .unset, .unset, .unset] [(.ref a0)])) (fun _ kk => XS.aloadN X0.here hx rfl (hb hby d1_0) rfl rfl kk) ?_
  obtain ⟨T1, X1, e1, st1⟩ := initO X0 hx hZ hown (hw _ (List.mem_of_getElem? (i := 8) rfl)) (hw _ (List.mem_of_getElem? (i := 9) rfl)) (hw _ (List.mem_of_getElem? (i := 10) rfl)) e0 (g := (mkF m 1 #[.val (.ref a0), .val (.ref a1), .unset, .unset, .unset, .unset] [(.ref a0)])) rfl (by rw [hml]; rfl) rfl (hb hby d1_1) (by decide) (W := 0) (by show 2 * 0 + _ ≤ _; exact Nat.le_of_eq rfl) (by decide)
  refine Go.st (S' := T1.setTop (mkF m 4 #[.val (.ref a0), .val (.ref a1), .unset, .unset, .unset, .unset] [])) st1 ?_
  refine Go.st (S' := T1.setTop (mkF m 5 #[.val (.ref a0), .val (.ref a1), .unset, .unset, .unset, .unset] [(.ref a0)])) (fun _ kk => XS.aloadN X1.here hx rfl (hb hby d1_4) rfl rfl kk) ?_
  refine Go.st (S' := T1.setTop (mkF m 6 #[.val (.ref a0), .val (.ref a1), .unset, .unset, .unset, .unset] [(.ref a1), (.ref a0)])) (fun _ kk => XS.aloadN X1.here hx rfl (hb hby d1_5) rfl rfl kk) ?_
  obtain ⟨T2, h2, X2, e2, E2, A2, E_b2, st2⟩ := cloneH X1 hx hZ hown (hw _ (List.mem_of_getElem? (i := 11) rfl)) (hw _ (List.mem_of_getElem? (i := 12) rfl)) (hw _ (List.mem_of_getElem? (i := 16) rfl)) (hw _ (List.mem_of_getElem? (i := 14) rfl)) (hw _ (List.mem_of_getElem? (i := 15) rfl)) (hw _ (List.mem_of_getElem? (i := 17) rfl)) e1 (Arv.arh V_a1) E_a1 (g := (mkF m 6 #[.val (.ref a0), .val (.ref a1), .unset, .unset, .unset, .unset] [(.ref a1), (.ref a0)])) rfl (by rw [hml]; rfl) rfl (hb hby d1_6) (by decide) (W := 1) (cap := 4) (by show 2 * 0 + _ ≤ _; exact Nat.le_of_eq rfl) (by decide) (by decide) (by decide) (by decide)
  obtain ⟨b2, g2⟩ : ∃ z, z = h0.size := ⟨_, rfl⟩
  rw [← g2] at A2 E_b2 st2
  have ne_a0_b2 : a0 ≠ b2 := Nat.ne_of_lt (Nat.lt_of_lt_of_le E_a0.lt (Nat.le_of_eq g2.symm))
  have ne_a1_b2 : a1 ≠ b2 := Nat.ne_of_lt (Nat.lt_of_lt_of_le E_a1.lt (Nat.le_of_eq g2.symm))
  have g_b2 : n0 ≤ b2 := Nat.le_trans Z0 (Nat.le_of_eq g2.symm)
  have sz_b2 : h0.size ≤ b2 := Nat.le_trans (Keep.refl h0 [a0]).1 (Nat.le_of_eq g2.symm)
  have E_a0 := E_a0.ext E2
  have F_counts := F_counts.ext E2
  have E_a1 := E_a1.ext E2
  have V_a1 := V_a1.ext E2
  have Zs3 := Nat.le_trans Z0 E2.1
  have Kp4 := (Keep.refl h0 [a0]).ext E2
  have V_b2 : Arv Z h2 b2 kk .int (4 : Int32) [(.int x0), (.int x1), (.int x2), (.int x3)] (.int (0 : Int32)) := A2
  refine Go.st (S' := T2.setTop (mkF m 9 #[.val (.ref a0), .val (.ref a1), .unset, .unset, .unset, .unset] [(.ref b2), (.ref a0)])) st2 ?_
  obtain ⟨T5, X5, e5, st5⟩ := castY X2 hx hZ hown (hw _ (List.mem_of_getElem? (i := 18) rfl)) e2 (Ins.self E_b2) (g := (mkF m 9 #[.val (.ref a0), .val (.ref a1), .unset, .unset, .unset, .unset] [(.ref b2), (.ref a0)])) rfl rfl (hb hby d1_9)
  refine Go.st (S' := T5.setTop (mkF m 12 #[.val (.ref a0), .val (.ref a1), .unset, .unset, .unset, .unset] [(.ref b2), (.ref a0)])) st5 ?_
  obtain ⟨T6, h6, X6, e6, W6, st6⟩ := putF X5 hx hZ hown (host := "") (Or.inl (hw _ (List.mem_of_getElem? (i := 20) rfl))) Via.refl e5 F_counts E_a0 (Or.inr ⟨(hw _ (List.mem_of_getElem? (i := 21) rfl)), rfl, hnm⟩) (hw _ (List.mem_of_getElem? (i := 3) rfl)) (ty := (.array .int)) (by decide) rfl rfl (g := (mkF m 12 #[.val (.ref a0), .val (.ref a1), .unset, .unset, .unset, .unset] [(.ref b2), (.ref a0)])) rfl rfl (hb hby d1_12)
  have N6 := Fr.snoc X6 N0 g_a0
  have F_counts := F_counts.same W6
  have E_a0 := E_a0.wr W6
  have E_a1 := E_a1.wr W6
  have V_a1 := V_a1.other W6 (Ne.symm ne_a0_a1)
  have E_b2 := E_b2.wr W6
  have V_b2 := V_b2.other W6 (Ne.symm ne_a0_b2)
  have Zs7 := Nat.le_trans Zs3 (Keep.of_wr W6).1
  have Kp8 := Kp4.wr W6 (Or.inl (List.mem_of_getElem? (i := 0) rfl))
  refine Go.st (S' := T6.setTop (mkF m 15 #[.val (.ref a0), .val (.ref a1), .unset, .unset, .unset, .unset] [])) st6 ?_
  refine Go.st (S' := T6.setTop (mkF m 16 #[.val (.ref a0), .val (.ref a1), .unset, .unset, .unset, .unset] [(.ref a0)])) (fun _ kk => XS.aloadN X6.here hx rfl (hb hby d1_15) rfl rfl kk) ?_
  obtain ⟨T9, X9, e9, st9⟩ := getF X6 hx hZ hown (host := "") (Or.inl (hw _ (List.mem_of_getElem? (i := 20) rfl))) Via.refl e6 F_counts (g := (mkF m 16 #[.val (.ref a0), .val (.ref a1), .unset, .unset, .unset, .unset] [(.ref a0)])) rfl rfl (hb hby d1_16)
  refine Go.st (S' := T9.setTop (mkF m 19 #[.val (.ref a0), .val (.ref a1), .unset, .unset, .unset, .unset] [(.ref b2)])) st9 ?_
  refine Go.st (S' := T9.setTop (mkF m 20 #[.val (.ref a0), .val (.ref a1), .val (.ref b2), .unset, .unset, .unset] [])) (fun _ kk => XS.astoreN X9.here hx rfl (hb hby d1_19) rfl rfl (l' := #[.val (.ref a0), .val (.ref a1), .val (.ref b2), .unset, .unset, .unset]) rfl kk) ?_
  refine Go.st (S' := T9.setTop (mkF m 21 #[.val (.ref a0), .val (.ref a1), .val (.ref b2), .unset, .unset, .unset] [(.ref b2)])) (fun _ kk => XS.aloadN X9.here hx rfl (hb hby d1_20) rfl rfl kk) ?_
  obtain ⟨cl10, Ar10, -, S10, Ng10, -, -⟩ := (id V_b2)
  refine Go.st (S' := T9.setTop (mkF m 22 #[.val (.ref a0), .val (.ref a1), .val (.ref b2), .unset, .unset, .unset] [(.int (4 : Int32))])) (fun _ kk => X9.arraylength hx (by rw [e9]; exact Ar10.1) (State.isArrayOf_alike hZ.alike Ar10.2.1) (g := (mkF m 21 #[.val (.ref a0), .val (.ref a1), .val (.ref b2), .unset, .unset, .unset] [(.ref b2)])) rfl rfl (hb hby d1_21) _ (by rw [len_of S10 Ng10]; exact kk)) ?_
  refine Go.st (S' := T9.setTop (mkF m 23 #[.val (.ref a0), .val (.ref a1), .val (.ref b2), .val (.int (4 : Int32)), .unset, .unset] [])) (fun _ kk => XS.istoreN X9.here hx rfl (hb hby d1_22) rfl (l' := #[.val (.ref a0), .val (.ref a1), .val (.ref b2), .val (.int (4 : Int32)), .unset, .unset]) rfl kk) ?_
  refine Go.st (S' := T9.setTop (mkF m 24 #[.val (.ref a0), .val (.ref a1), .val (.ref b2), .val (.int (4 : Int32)), .unset, .unset] [(.int (0 : Int32))])) (fun _ kk => XS.iconst X9.here hx rfl (hb hby d1_23) kk) ?_
  refine Go.st (S' := T9.setTop (mkF m 26 #[.val (.ref a0), .val (.ref a1), .val (.ref b2), .val (.int (4 : Int32)), .val (.int (0 : Int32)), .unset] [])) (fun _ kk => XS.istore X9.here hx rfl (hb hby d1_24) rfl (l' := #[.val (.ref a0), .val (.ref a1), .val (.ref b2), .val (.int (4 : Int32)), .val (.int (0 : Int32)), .unset]) rfl kk) ?_
  refine Go.st (S' := T9.setTop (mkF m 28 #[.val (.ref a0), .val (.ref a1), .val (.ref b2), .val (.int (4 : Int32)), .val (.int (0 : Int32)), .unset] [(.int (0 : Int32))])) (fun _ kk => XS.iload X9.here hx rfl (hb hby d1_26) rfl kk) ?_
  refine Go.st (S' := T9.setTop (mkF m 29 #[.val (.ref a0), .val (.ref a1), .val (.ref b2), .val (.int (4 : Int32)), .val (.int (0 : Int32)), .unset] [(.int (4 : Int32)), (.int (0 : Int32))])) (fun _ kk => XS.iloadN X9.here hx rfl (hb hby d1_28) rfl kk) ?_
  refine Go.st (S' := T9.setTop (mkF m 32 #[.val (.ref a0), .val (.ref a1), .val (.ref b2), .val (.int (4 : Int32)), .val (.int (0 : Int32)), .unset] [])) (fun _ kk => XS.icmpNo X9.here hx rfl (hb hby d1_29) rfl (tlt (by decide : (0 : Int32) < (4 : Int32))).2.1 kk) ?_
  refine Go.st (S' := T9.setTop (mkF m 33 #[.val (.ref a0), .val (.ref a1), .val (.ref b2), .val (.int (4 : Int32)), .val (.int (0 : Int32)), .unset] [(.ref b2)])) (fun _ kk => XS.aloadN X9.here hx rfl (hb hby d1_32) rfl rfl kk) ?_
  refine Go.st (S' := T9.setTop (mkF m 35 #[.val (.ref a0), .val (.ref a1), .val (.ref b2), .val (.int (4 : Int32)), .val (.int (0 : Int32)), .unset] [(.int (0 : Int32)), (.ref b2)])) (fun _ kk => XS.iload X9.here hx rfl (hb hby d1_33) rfl kk) ?_
  obtain ⟨cl11, Ar11, q11, S11, Ng11, H11, G11⟩ := (id V_b2)
  have hin11 : ¬ ((0 : Int32) < 0 ∨ cl11.slots.size ≤ ((0 : Int32)).toNatClampNeg) := inb_of S11 ⟨by decide, by decide⟩
  have hat11 : cl11.slots[((0 : Int32)).toNatClampNeg]? = some (.int x0) := Has.at H11 hin11 rfl
  refine Go.st (S' := T9.setTop (mkF m 36 #[.val (.ref a0), .val (.ref a1), .val (.ref b2), .val (.int (4 : Int32)), .val (.int (0 : Int32)), .unset] [(.int x0)])) (fun _ kk => X9.iaload hx (j := (0 : Int32)) (v := (.int x0)) (by rw [e9]; exact Ar11.1) (State.isArrayOf_alike hZ.alike Ar11.2.1) Ar11.2.2 hin11 hat11 (g := (mkF m 35 #[.val (.ref a0), .val (.ref a1), .val (.ref b2), .val (.int (4 : Int32)), .val (.int (0 : Int32)), .unset] [(.int (0 : Int32)), (.ref b2)])) rfl rfl (hb hby d1_35) _ kk) ?_
  refine Go.st (S' := T9.setTop (mkF m 38 #[.val (.ref a0), .val (.ref a1), .val (.ref b2), .val (.int (4 : Int32)), .val (.int (0 : Int32)), .val (.int x0)] [])) (fun _ kk => XS.istore X9.here hx rfl (hb hby d1_36) rfl (l' := #[.val (.ref a0), .val (.ref a1), .val (.ref b2), .val (.int (4 : Int32)), .val (.int (0 : Int32)), .val (.int x0)]) rfl kk) ?_
  refine Go.st (S' := T9.setTop (mkF m 40 #[.val (.ref a0), .val (.ref a1), .val (.ref b2), .val (.int (4 : Int32)), .val (.int (0 : Int32)), .val (.int x0)] [(.int x0)])) (fun _ kk => XS.iload X9.here hx rfl (hb hby d1_38) rfl kk) ?_
  refine Go.st (S' := T9.setTop (mkF m 58 #[.val (.ref a0), .val (.ref a1), .val (.ref b2), .val (.int (4 : Int32)), .val (.int (0 : Int32)), .val (.int x0)] [])) (fun _ kk => XS.ifYes X9.here hx rfl (pc0 := 40) (pc' := 58) rfl (hb hby d1_40) rfl ((if0 _ _).trans (flt hx0).2.1) (by decide) (by decide) kk) ?_
  refine Go.st (S' := T9.setTop (mkF m 61 #[.val (.ref a0), .val (.ref a1), .val (.ref b2), .val (.int (4 : Int32)), .val (.int (1 : Int32)), .val (.int x0)] [])) (fun _ kk => XS.iinc X9.here hx rfl (hb hby d1_58) rfl (l' := #[.val (.ref a0), .val (.ref a1), .val (.ref b2), .val (.int (4 : Int32)), .val (.int (1 : Int32)), .val (.int x0)]) rfl kk) ?_
  refine Go.st (S' := T9.setTop (mkF m 26 #[.val (.ref a0), .val (.ref a1), .val (.ref b2), .val (.int (4 : Int32)), .val (.int (1 : Int32)), .val (.int x0)] [])) (fun _ kk => XS.goto X9.here hx rfl (pc0 := 61) (pc' := 26) rfl (hb hby d1_61) (by decide) (by decide) kk) ?_
  refine Go.st (S' := T9.setTop (mkF m 28 #[.val (.ref a0), .val (.ref a1), .val (.ref b2), .val (.int (4 : Int32)), .val (.int (1 : Int32)), .val (.int x0)] [(.int (1 : Int32))])) (fun _ kk => XS.iload X9.here hx rfl (hb hby d1_26) rfl kk) ?_
  refine Go.st (S' := T9.setTop (mkF m 29 #[.val (.ref a0), .val (.ref a1), .val (.ref b2), .val (.int (4 : Int32)), .val (.int (1 : Int32)), .val (.int x0)] [(.int (4 : Int32)), (.int (1 : Int32))])) (fun _ kk => XS.iloadN X9.here hx rfl (hb hby d1_28) rfl kk) ?_
  refine Go.st (S' := T9.setTop (mkF m 32 #[.val (.ref a0), .val (.ref a1), .val (.ref b2), .val (.int (4 : Int32)), .val (.int (1 : Int32)), .val (.int x0)] [])) (fun _ kk => XS.icmpNo X9.here hx rfl (hb hby d1_29) rfl (tlt (by decide : (1 : Int32) < (4 : Int32))).2.1 kk) ?_
  refine Go.st (S' := T9.setTop (mkF m 33 #[.val (.ref a0), .val (.ref a1), .val (.ref b2), .val (.int (4 : Int32)), .val (.int (1 : Int32)), .val (.int x0)] [(.ref b2)])) (fun _ kk => XS.aloadN X9.here hx rfl (hb hby d1_32) rfl rfl kk) ?_
  refine Go.st (S' := T9.setTop (mkF m 35 #[.val (.ref a0), .val (.ref a1), .val (.ref b2), .val (.int (4 : Int32)), .val (.int (1 : Int32)), .val (.int x0)] [(.int (1 : Int32)), (.ref b2)])) (fun _ kk => XS.iload X9.here hx rfl (hb hby d1_33) rfl kk) ?_
  obtain ⟨cl12, Ar12, q12, S12, Ng12, H12, G12⟩ := (id V_b2)
  have hin12 : ¬ ((1 : Int32) < 0 ∨ cl12.slots.size ≤ ((1 : Int32)).toNatClampNeg) := inb_of S12 ⟨by decide, by decide⟩
  have hat12 : cl12.slots[((1 : Int32)).toNatClampNeg]? = some (.int x1) := Has.at H12 hin12 rfl
  refine Go.st (S' := T9.setTop (mkF m 36 #[.val (.ref a0), .val (.ref a1), .val (.ref b2), .val (.int (4 : Int32)), .val (.int (1 : Int32)), .val (.int x0)] [(.int x1)])) (fun _ kk => X9.iaload hx (j := (1 : Int32)) (v := (.int x1)) (by rw [e9]; exact Ar12.1) (State.isArrayOf_alike hZ.alike Ar12.2.1) Ar12.2.2 hin12 hat12 (g := (mkF m 35 #[.val (.ref a0), .val (.ref a1), .val (.ref b2), .val (.int (4 : Int32)), .val (.int (1 : Int32)), .val (.int x0)] [(.int (1 : Int32)), (.ref b2)])) rfl rfl (hb hby d1_35) _ kk) ?_
  refine Go.st (S' := T9.setTop (mkF m 38 #[.val (.ref a0), .val (.ref a1), .val (.ref b2), .val (.int (4 : Int32)), .val (.int (1 : Int32)), .val (.int x1)] [])) (fun _ kk => XS.istore X9.here hx rfl (hb hby d1_36) rfl (l' := #[.val (.ref a0), .val (.ref a1), .val (.ref b2), .val (.int (4 : Int32)), .val (.int (1 : Int32)), .val (.int x1)]) rfl kk) ?_
  refine Go.st (S' := T9.setTop (mkF m 40 #[.val (.ref a0), .val (.ref a1), .val (.ref b2), .val (.int (4 : Int32)), .val (.int (1 : Int32)), .val (.int x1)] [(.int x1)])) (fun _ kk => XS.iload X9.here hx rfl (hb hby d1_38) rfl kk) ?_
  refine Go.st (S' := T9.setTop (mkF m 58 #[.val (.ref a0), .val (.ref a1), .val (.ref b2), .val (.int (4 : Int32)), .val (.int (1 : Int32)), .val (.int x1)] [])) (fun _ kk => XS.ifYes X9.here hx rfl (pc0 := 40) (pc' := 58) rfl (hb hby d1_40) rfl ((if0 _ _).trans (flt hx1).2.1) (by decide) (by decide) kk) ?_
  refine Go.st (S' := T9.setTop (mkF m 61 #[.val (.ref a0), .val (.ref a1), .val (.ref b2), .val (.int (4 : Int32)), .val (.int (2 : Int32)), .val (.int x1)] [])) (fun _ kk => XS.iinc X9.here hx rfl (hb hby d1_58) rfl (l' := #[.val (.ref a0), .val (.ref a1), .val (.ref b2), .val (.int (4 : Int32)), .val (.int (2 : Int32)), .val (.int x1)]) rfl kk) ?_
  refine Go.st (S' := T9.setTop (mkF m 26 #[.val (.ref a0), .val (.ref a1), .val (.ref b2), .val (.int (4 : Int32)), .val (.int (2 : Int32)), .val (.int x1)] [])) (fun _ kk => XS.goto X9.here hx rfl (pc0 := 61) (pc' := 26) rfl (hb hby d1_61) (by decide) (by decide) kk) ?_
  refine Go.st (S' := T9.setTop (mkF m 28 #[.val (.ref a0), .val (.ref a1), .val (.ref b2), .val (.int (4 : Int32)), .val (.int (2 : Int32)), .val (.int x1)] [(.int (2 : Int32))])) (fun _ kk => XS.iload X9.here hx rfl (hb hby d1_26) rfl kk) ?_
  refine Go.st (S' := T9.setTop (mkF m 29 #[.val (.ref a0), .val (.ref a1), .val (.ref b2), .val (.int (4 : Int32)), .val (.int (2 : Int32)), .val (.int x1)] [(.int (4 : Int32)), (.int (2 : Int32))])) (fun _ kk => XS.iloadN X9.here hx rfl (hb hby d1_28) rfl kk) ?_
  refine Go.st (S' := T9.setTop (mkF m 32 #[.val (.ref a0), .val (.ref a1), .val (.ref b2), .val (.int (4 : Int32)), .val (.int (2 : Int32)), .val (.int x1)] [])) (fun _ kk => XS.icmpNo X9.here hx rfl (hb hby d1_29) rfl (tlt (by decide : (2 : Int32) < (4 : Int32))).2.1 kk) ?_
  refine Go.st (S' := T9.setTop (mkF m 33 #[.val (.ref a0), .val (.ref a1), .val (.ref b2), .val (.int (4 : Int32)), .val (.int (2 : Int32)), .val (.int x1)] [(.ref b2)])) (fun _ kk => XS.aloadN X9.here hx rfl (hb hby d1_32) rfl rfl kk) ?_
  refine Go.st (S' := T9.setTop (mkF m 35 #[.val (.ref a0), .val (.ref a1), .val (.ref b2), .val (.int (4 : Int32)), .val (.int (2 : Int32)), .val (.int x1)] [(.int (2 : Int32)), (.ref b2)])) (fun _ kk => XS.iload X9.here hx rfl (hb hby d1_33) rfl kk) ?_
  obtain ⟨cl13, Ar13, q13, S13, Ng13, H13, G13⟩ := (id V_b2)
  have hin13 : ¬ ((2 : Int32) < 0 ∨ cl13.slots.size ≤ ((2 : Int32)).toNatClampNeg) := inb_of S13 ⟨by decide, by decide⟩
  have hat13 : cl13.slots[((2 : Int32)).toNatClampNeg]? = some (.int x2) := Has.at H13 hin13 rfl
  refine Go.st (S' := T9.setTop (mkF m 36 #[.val (.ref a0), .val (.ref a1), .val (.ref b2), .val (.int (4 : Int32)), .val (.int (2 : Int32)), .val (.int x1)] [(.int x2)])) (fun _ kk => X9.iaload hx (j := (2 : Int32)) (v := (.int x2)) (by rw [e9]; exact Ar13.1) (State.isArrayOf_alike hZ.alike Ar13.2.1) Ar13.2.2 hin13 hat13 (g := (mkF m 35 #[.val (.ref a0), .val (.ref a1), .val (.ref b2), .val (.int (4 : Int32)), .val (.int (2 : Int32)), .val (.int x1)] [(.int (2 : Int32)), (.ref b2)])) rfl rfl (hb hby d1_35) _ kk) ?_
  refine Go.st (S' := T9.setTop (mkF m 38 #[.val (.ref a0), .val (.ref a1), .val (.ref b2), .val (.int (4 : Int32)), .val (.int (2 : Int32)), .val (.int x2)] [])) (fun _ kk => XS.istore X9.here hx rfl (hb hby d1_36) rfl (l' := #[.val (.ref a0), .val (.ref a1), .val (.ref b2), .val (.int (4 : Int32)), .val (.int (2 : Int32)), .val (.int x2)]) rfl kk) ?_
  refine Go.st (S' := T9.setTop (mkF m 40 #[.val (.ref a0), .val (.ref a1), .val (.ref b2), .val (.int (4 : Int32)), .val (.int (2 : Int32)), .val (.int x2)] [(.int x2)])) (fun _ kk => XS.iload X9.here hx rfl (hb hby d1_38) rfl kk) ?_
  refine Go.st (S' := T9.setTop (mkF m 58 #[.val (.ref a0), .val (.ref a1), .val (.ref b2), .val (.int (4 : Int32)), .val (.int (2 : Int32)), .val (.int x2)] [])) (fun _ kk => XS.ifYes X9.here hx rfl (pc0 := 40) (pc' := 58) rfl (hb hby d1_40) rfl ((if0 _ _).trans (flt hx2).2.1) (by decide) (by decide) kk) ?_
  refine Go.st (S' := T9.setTop (mkF m 61 #[.val (.ref a0), .val (.ref a1), .val (.ref b2), .val (.int (4 : Int32)), .val (.int (3 : Int32)), .val (.int x2)] [])) (fun _ kk => XS.iinc X9.here hx rfl (hb hby d1_58) rfl (l' := #[.val (.ref a0), .val (.ref a1), .val (.ref b2), .val (.int (4 : Int32)), .val (.int (3 : Int32)), .val (.int x2)]) rfl kk) ?_
  refine Go.st (S' := T9.setTop (mkF m 26 #[.val (.ref a0), .val (.ref a1), .val (.ref b2), .val (.int (4 : Int32)), .val (.int (3 : Int32)), .val (.int x2)] [])) (fun _ kk => XS.goto X9.here hx rfl (pc0 := 61) (pc' := 26) rfl (hb hby d1_61) (by decide) (by decide) kk) ?_
  refine Go.st (S' := T9.setTop (mkF m 28 #[.val (.ref a0), .val (.ref a1), .val (.ref b2), .val (.int (4 : Int32)), .val (.int (3 : Int32)), .val (.int x2)] [(.int (3 : Int32))])) (fun _ kk => XS.iload X9.here hx rfl (hb hby d1_26) rfl kk) ?_
  refine Go.st (S' := T9.setTop (mkF m 29 #[.val (.ref a0), .val (.ref a1), .val (.ref b2), .val (.int (4 : Int32)), .val (.int (3 : Int32)), .val (.int x2)] [(.int (4 : Int32)), (.int (3 : Int32))])) (fun _ kk => XS.iloadN X9.here hx rfl (hb hby d1_28) rfl kk) ?_
  refine Go.st (S' := T9.setTop (mkF m 32 #[.val (.ref a0), .val (.ref a1), .val (.ref b2), .val (.int (4 : Int32)), .val (.int (3 : Int32)), .val (.int x2)] [])) (fun _ kk => XS.icmpNo X9.here hx rfl (hb hby d1_29) rfl (tlt (by decide : (3 : Int32) < (4 : Int32))).2.1 kk) ?_
  refine Go.st (S' := T9.setTop (mkF m 33 #[.val (.ref a0), .val (.ref a1), .val (.ref b2), .val (.int (4 : Int32)), .val (.int (3 : Int32)), .val (.int x2)] [(.ref b2)])) (fun _ kk => XS.aloadN X9.here hx rfl (hb hby d1_32) rfl rfl kk) ?_
  refine Go.st (S' := T9.setTop (mkF m 35 #[.val (.ref a0), .val (.ref a1), .val (.ref b2), .val (.int (4 : Int32)), .val (.int (3 : Int32)), .val (.int x2)] [(.int (3 : Int32)), (.ref b2)])) (fun _ kk => XS.iload X9.here hx rfl (hb hby d1_33) rfl kk) ?_
  obtain ⟨cl14, Ar14, q14, S14, Ng14, H14, G14⟩ := (id V_b2)
  have hin14 : ¬ ((3 : Int32) < 0 ∨ cl14.slots.size ≤ ((3 : Int32)).toNatClampNeg) := inb_of S14 ⟨by decide, by decide⟩
  have hat14 : cl14.slots[((3 : Int32)).toNatClampNeg]? = some (.int x3) := Has.at H14 hin14 rfl
  refine Go.st (S' := T9.setTop (mkF m 36 #[.val (.ref a0), .val (.ref a1), .val (.ref b2), .val (.int (4 : Int32)), .val (.int (3 : Int32)), .val (.int x2)] [(.int x3)])) (fun _ kk => X9.iaload hx (j := (3 : Int32)) (v := (.int x3)) (by rw [e9]; exact Ar14.1) (State.isArrayOf_alike hZ.alike Ar14.2.1) Ar14.2.2 hin14 hat14 (g := (mkF m 35 #[.val (.ref a0), .val (.ref a1), .val (.ref b2), .val (.int (4 : Int32)), .val (.int (3 : Int32)), .val (.int x2)] [(.int (3 : Int32)), (.ref b2)])) rfl rfl (hb hby d1_35) _ kk) ?_
  refine Go.st (S' := T9.setTop (mkF m 38 #[.val (.ref a0), .val (.ref a1), .val (.ref b2), .val (.int (4 : Int32)), .val (.int (3 : Int32)), .val (.int x3)] [])) (fun _ kk => XS.istore X9.here hx rfl (hb hby d1_36) rfl (l' := #[.val (.ref a0), .val (.ref a1), .val (.ref b2), .val (.int (4 : Int32)), .val (.int (3 : Int32)), .val (.int x3)]) rfl kk) ?_
  refine Go.st (S' := T9.setTop (mkF m 40 #[.val (.ref a0), .val (.ref a1), .val (.ref b2), .val (.int (4 : Int32)), .val (.int (3 : Int32)), .val (.int x3)] [(.int x3)])) (fun _ kk => XS.iload X9.here hx rfl (hb hby d1_38) rfl kk) ?_
  refine Go.st (S' := T9.setTop (mkF m 58 #[.val (.ref a0), .val (.ref a1), .val (.ref b2), .val (.int (4 : Int32)), .val (.int (3 : Int32)), .val (.int x3)] [])) (fun _ kk => XS.ifYes X9.here hx rfl (pc0 := 40) (pc' := 58) rfl (hb hby d1_40) rfl ((if0 _ _).trans (flt hx3).2.1) (by decide) (by decide) kk) ?_
  refine Go.st (S' := T9.setTop (mkF m 61 #[.val (.ref a0), .val (.ref a1), .val (.ref b2), .val (.int (4 : Int32)), .val (.int (4 : Int32)), .val (.int x3)] [])) (fun _ kk => XS.iinc X9.here hx rfl (hb hby d1_58) rfl (l' := #[.val (.ref a0), .val (.ref a1), .val (.ref b2), .val (.int (4 : Int32)), .val (.int (4 : Int32)), .val (.int x3)]) rfl kk) ?_
  refine Go.st (S' := T9.setTop (mkF m 26 #[.val (.ref a0), .val (.ref a1), .val (.ref b2), .val (.int (4 : Int32)), .val (.int (4 : Int32)), .val (.int x3)] [])) (fun _ kk => XS.goto X9.here hx rfl (pc0 := 61) (pc' := 26) rfl (hb hby d1_61) (by decide) (by decide) kk) ?_
  refine Go.st (S' := T9.setTop (mkF m 28 #[.val (.ref a0), .val (.ref a1), .val (.ref b2), .val (.int (4 : Int32)), .val (.int (4 : Int32)), .val (.int x3)] [(.int (4 : Int32))])) (fun _ kk => XS.iload X9.here hx rfl (hb hby d1_26) rfl kk) ?_
  refine Go.st (S' := T9.setTop (mkF m 29 #[.val (.ref a0), .val (.ref a1), .val (.ref b2), .val (.int (4 : Int32)), .val (.int (4 : Int32)), .val (.int x3)] [(.int (4 : Int32)), (.int (4 : Int32))])) (fun _ kk => XS.iloadN X9.here hx rfl (hb hby d1_28) rfl kk) ?_
  refine Go.st (S' := T9.setTop (mkF m 64 #[.val (.ref a0), .val (.ref a1), .val (.ref b2), .val (.int (4 : Int32)), .val (.int (4 : Int32)), .val (.int x3)] [])) (fun _ kk => XS.icmpYes X9.here hx rfl (pc0 := 29) (pc' := 64) rfl (hb hby d1_29) rfl (flt (by decide : ¬ ((4 : Int32) < (4 : Int32)))).2.1 (by decide) (by decide) kk) ?_
  exact Go.ret0 X9 hx hlk Bd.returns (hb hby d1_64) (by rw [e9]; exact ⟨_, rfl, N6, Kp8, E_a0, F_counts, V_b2, sz_b2⟩) (by decide) (by decide)
def fS4 (x0 : Int32) (x1 : Int32) (x2 : Int32) (x3 : Int32) : Int64 := (((((0 : Int64) + (x0.toInt64)) + (x1.toInt64)) + (x2.toInt64)) + (x3.toInt64))
set_option maxRecDepth 65536 in
set_option maxHeartbeats 40000000 in
theorem rmS4 (l : Launch) (Z : State) (az : Array Value) (hw : ∀ d ∈ tables_1, d.before az Z = true) (ws : List Jvm.Cond) (a0 : Addr) (t : Addr) (kk : ClassId) (x0 : Int32) (x1 : Int32) (x2 : Int32) (x3 : Int32) (h0 : Heap) (n0 : Nat) (Z0 : n0 ≤ h0.size) (F_counts : Fld Z h0 a0 "com/example/patient_snoop/patientsnoop/model/Configuration" "counts" "[I" (.ref t)) (V_t : Arv Z h0 t kk .int (4 : Int32) [(.int x0), (.int x1), (.int x2), (.int x3)] (.int (0 : Int32))) :
    MetFree l (⟨"com/example/patient_snoop/patientsnoop/model/Configuration", "caches", "()J"⟩ : MethodName) (head1 (Jvm.Cond.code (⟨"com/example/patient_snoop/patientsnoop/model/Configuration", "caches", "()J"⟩ : MethodName) prog_19_method_4_code 7 (some .long) :: ws) ({ frames := 0, cells := 0, slots := 0, locals := 0 } : Room)) (fun a U => a = #[(.ref a0)] ∧ Z.Warmed39 U.vm ∧ U.heap = h0) (fun _ _ _ _ _ => True) (fun _ U o U' => ∃ v L, o = .returned v ∧ (PQ (.long (fS4 x0 x1 x2 x3)) n0 h0) v U'.heap L ∧ FrameEnd U o U' L ({ frames := 0, cells := 0, slots := 0, locals := 0 } : Room).cells ({ frames := 0, cells := 0, slots := 0, locals := 0 } : Room).slots) := by
  refine MetFree.of_bodySF (plainFor_of_name pn_0) hisR ?_
  intro p e s m args below meth c s₁ Bd hml0 hP hK
  obtain ⟨rfl, hZ, hh⟩ := hP
  have hx := Bd.exec
  have hby := Bd.bytes
  have hlk : meth.locks = false := Bd.notSynchronized
  have hml : c.maxLocals = 7 := hml0
  have hown : s.vm.findClass "com/example/patient_snoop/patientsnoop/model/Configuration" = some m.cls := findClass_of_methodNamed Bd.named
  have hnm := (name_of_methodNamed Bd.named Bd.method).1
  have X0 : Stand p l e ({ frames := 0, cells := 0, slots := 0, locals := 0 } : Room) s m #[(.ref a0)] below meth c s₁ [] 0 0 := Stand.of_body Bd
  have e0 : s₁.heap = h0 := by rw [← hh, Bd.state]; rfl
  have N0 := Fr.nil n0
  show Go p e below s ((PQ (.long (fS4 x0 x1 x2 x3)) n0 h0)) ({ frames := 0, cells := 0, slots := 0, locals := 0 } : Room).cells ({ frames := 0, cells := 0, slots := 0, locals := 0 } : Room).slots (s₁.setTop (entryFrame m #[(.ref a0)] 7))
  rw [ef_3 m a0]
  refine Go.st (S' := s₁.setTop (mkF m 1 #[.val (.ref a0), .unset, .unset, .unset, .unset, .unset, .unset] [(.long (0 : Int64))])) (fun _ kk => XS.lconst X0.here hx rfl (hb hby d3_0) kk) ?_
  refine Go.st (S' := s₁.setTop (mkF m 2 #[.val (.ref a0), .val (.long (0 : Int64)), .second, .unset, .unset, .unset, .unset] [])) (fun _ kk => XS.lstoreN X0.here hx rfl (hb hby d3_1) rfl (l' := #[.val (.ref a0), .val (.long (0 : Int64)), .second, .unset, .unset, .unset, .unset]) rfl kk) ?_
  refine Go.st (S' := s₁.setTop (mkF m 3 #[.val (.ref a0), .val (.long (0 : Int64)), .second, .unset, .unset, .unset, .unset] [(.ref a0)])) (fun _ kk => XS.aloadN X0.here hx rfl (hb hby d3_2) rfl rfl kk) ?_
  obtain ⟨T1, X1, e1, st1⟩ := getF X0 hx hZ hown (host := "") (Or.inl (hw _ (List.mem_of_getElem? (i := 20) rfl))) Via.refl e0 F_counts (g := (mkF m 3 #[.val (.ref a0), .val (.long (0 : Int64)), .second, .unset, .unset, .unset, .unset] [(.ref a0)])) rfl rfl (hb hby d3_3)
  refine Go.st (S' := T1.setTop (mkF m 6 #[.val (.ref a0), .val (.long (0 : Int64)), .second, .unset, .unset, .unset, .unset] [(.ref t)])) st1 ?_
  refine Go.st (S' := T1.setTop (mkF m 7 #[.val (.ref a0), .val (.long (0 : Int64)), .second, .val (.ref t), .unset, .unset, .unset] [])) (fun _ kk => XS.astoreN X1.here hx rfl (hb hby d3_6) rfl rfl (l' := #[.val (.ref a0), .val (.long (0 : Int64)), .second, .val (.ref t), .unset, .unset, .unset]) rfl kk) ?_
  refine Go.st (S' := T1.setTop (mkF m 8 #[.val (.ref a0), .val (.long (0 : Int64)), .second, .val (.ref t), .unset, .unset, .unset] [(.ref t)])) (fun _ kk => XS.aloadN X1.here hx rfl (hb hby d3_7) rfl rfl kk) ?_
  obtain ⟨cl2, Ar2, -, S2, Ng2, -, -⟩ := (id V_t)
  refine Go.st (S' := T1.setTop (mkF m 9 #[.val (.ref a0), .val (.long (0 : Int64)), .second, .val (.ref t), .unset, .unset, .unset] [(.int (4 : Int32))])) (fun _ kk => X1.arraylength hx (by rw [e1]; exact Ar2.1) (State.isArrayOf_alike hZ.alike Ar2.2.1) (g := (mkF m 8 #[.val (.ref a0), .val (.long (0 : Int64)), .second, .val (.ref t), .unset, .unset, .unset] [(.ref t)])) rfl rfl (hb hby d3_8) _ (by rw [len_of S2 Ng2]; exact kk)) ?_
  refine Go.st (S' := T1.setTop (mkF m 11 #[.val (.ref a0), .val (.long (0 : Int64)), .second, .val (.ref t), .val (.int (4 : Int32)), .unset, .unset] [])) (fun _ kk => XS.istore X1.here hx rfl (hb hby d3_9) rfl (l' := #[.val (.ref a0), .val (.long (0 : Int64)), .second, .val (.ref t), .val (.int (4 : Int32)), .unset, .unset]) rfl kk) ?_
  refine Go.st (S' := T1.setTop (mkF m 12 #[.val (.ref a0), .val (.long (0 : Int64)), .second, .val (.ref t), .val (.int (4 : Int32)), .unset, .unset] [(.int (0 : Int32))])) (fun _ kk => XS.iconst X1.here hx rfl (hb hby d3_11) kk) ?_
  refine Go.st (S' := T1.setTop (mkF m 14 #[.val (.ref a0), .val (.long (0 : Int64)), .second, .val (.ref t), .val (.int (4 : Int32)), .val (.int (0 : Int32)), .unset] [])) (fun _ kk => XS.istore X1.here hx rfl (hb hby d3_12) rfl (l' := #[.val (.ref a0), .val (.long (0 : Int64)), .second, .val (.ref t), .val (.int (4 : Int32)), .val (.int (0 : Int32)), .unset]) rfl kk) ?_
  refine Go.st (S' := T1.setTop (mkF m 16 #[.val (.ref a0), .val (.long (0 : Int64)), .second, .val (.ref t), .val (.int (4 : Int32)), .val (.int (0 : Int32)), .unset] [(.int (0 : Int32))])) (fun _ kk => XS.iload X1.here hx rfl (hb hby d3_14) rfl kk) ?_
  refine Go.st (S' := T1.setTop (mkF m 18 #[.val (.ref a0), .val (.long (0 : Int64)), .second, .val (.ref t), .val (.int (4 : Int32)), .val (.int (0 : Int32)), .unset] [(.int (4 : Int32)), (.int (0 : Int32))])) (fun _ kk => XS.iload X1.here hx rfl (hb hby d3_16) rfl kk) ?_
  refine Go.st (S' := T1.setTop (mkF m 21 #[.val (.ref a0), .val (.long (0 : Int64)), .second, .val (.ref t), .val (.int (4 : Int32)), .val (.int (0 : Int32)), .unset] [])) (fun _ kk => XS.icmpNo X1.here hx rfl (hb hby d3_18) rfl (tlt (by decide : (0 : Int32) < (4 : Int32))).2.1 kk) ?_
  refine Go.st (S' := T1.setTop (mkF m 22 #[.val (.ref a0), .val (.long (0 : Int64)), .second, .val (.ref t), .val (.int (4 : Int32)), .val (.int (0 : Int32)), .unset] [(.ref t)])) (fun _ kk => XS.aloadN X1.here hx rfl (hb hby d3_21) rfl rfl kk) ?_
  refine Go.st (S' := T1.setTop (mkF m 24 #[.val (.ref a0), .val (.long (0 : Int64)), .second, .val (.ref t), .val (.int (4 : Int32)), .val (.int (0 : Int32)), .unset] [(.int (0 : Int32)), (.ref t)])) (fun _ kk => XS.iload X1.here hx rfl (hb hby d3_22) rfl kk) ?_
  obtain ⟨cl3, Ar3, q3, S3, Ng3, H3, G3⟩ := (id V_t)
  have hin3 : ¬ ((0 : Int32) < 0 ∨ cl3.slots.size ≤ ((0 : Int32)).toNatClampNeg) := inb_of S3 ⟨by decide, by decide⟩
  have hat3 : cl3.slots[((0 : Int32)).toNatClampNeg]? = some (.int x0) := Has.at H3 hin3 rfl
  refine Go.st (S' := T1.setTop (mkF m 25 #[.val (.ref a0), .val (.long (0 : Int64)), .second, .val (.ref t), .val (.int (4 : Int32)), .val (.int (0 : Int32)), .unset] [(.int x0)])) (fun _ kk => X1.iaload hx (j := (0 : Int32)) (v := (.int x0)) (by rw [e1]; exact Ar3.1) (State.isArrayOf_alike hZ.alike Ar3.2.1) Ar3.2.2 hin3 hat3 (g := (mkF m 24 #[.val (.ref a0), .val (.long (0 : Int64)), .second, .val (.ref t), .val (.int (4 : Int32)), .val (.int (0 : Int32)), .unset] [(.int (0 : Int32)), (.ref t)])) rfl rfl (hb hby d3_24) _ kk) ?_
  refine Go.st (S' := T1.setTop (mkF m 27 #[.val (.ref a0), .val (.long (0 : Int64)), .second, .val (.ref t), .val (.int (4 : Int32)), .val (.int (0 : Int32)), .val (.int x0)] [])) (fun _ kk => XS.istore X1.here hx rfl (hb hby d3_25) rfl (l' := #[.val (.ref a0), .val (.long (0 : Int64)), .second, .val (.ref t), .val (.int (4 : Int32)), .val (.int (0 : Int32)), .val (.int x0)]) rfl kk) ?_
  refine Go.st (S' := T1.setTop (mkF m 28 #[.val (.ref a0), .val (.long (0 : Int64)), .second, .val (.ref t), .val (.int (4 : Int32)), .val (.int (0 : Int32)), .val (.int x0)] [(.long (0 : Int64))])) (fun _ kk => XS.lloadN X1.here hx rfl (hb hby d3_27) rfl kk) ?_
  refine Go.st (S' := T1.setTop (mkF m 30 #[.val (.ref a0), .val (.long (0 : Int64)), .second, .val (.ref t), .val (.int (4 : Int32)), .val (.int (0 : Int32)), .val (.int x0)] [(.int x0), (.long (0 : Int64))])) (fun _ kk => XS.iload X1.here hx rfl (hb hby d3_28) rfl kk) ?_
  refine Go.st (S' := T1.setTop (mkF m 31 #[.val (.ref a0), .val (.long (0 : Int64)), .second, .val (.ref t), .val (.int (4 : Int32)), .val (.int (0 : Int32)), .val (.int x0)] [(.long (x0.toInt64)), (.long (0 : Int64))])) (fun _ kk => XS.i2l X1.here hx rfl (hb hby d3_30) rfl kk) ?_
  refine Go.st (S' := T1.setTop (mkF m 32 #[.val (.ref a0), .val (.long (0 : Int64)), .second, .val (.ref t), .val (.int (4 : Int32)), .val (.int (0 : Int32)), .val (.int x0)] [(.long ((0 : Int64) + (x0.toInt64)))])) (fun _ kk => XS.ladd X1.here hx rfl (hb hby d3_31) rfl kk) ?_
  refine Go.st (S' := T1.setTop (mkF m 33 #[.val (.ref a0), .val (.long ((0 : Int64) + (x0.toInt64))), .second, .val (.ref t), .val (.int (4 : Int32)), .val (.int (0 : Int32)), .val (.int x0)] [])) (fun _ kk => XS.lstoreN X1.here hx rfl (hb hby d3_32) rfl (l' := #[.val (.ref a0), .val (.long ((0 : Int64) + (x0.toInt64))), .second, .val (.ref t), .val (.int (4 : Int32)), .val (.int (0 : Int32)), .val (.int x0)]) rfl kk) ?_
  refine Go.st (S' := T1.setTop (mkF m 36 #[.val (.ref a0), .val (.long ((0 : Int64) + (x0.toInt64))), .second, .val (.ref t), .val (.int (4 : Int32)), .val (.int (1 : Int32)), .val (.int x0)] [])) (fun _ kk => XS.iinc X1.here hx rfl (hb hby d3_33) rfl (l' := #[.val (.ref a0), .val (.long ((0 : Int64) + (x0.toInt64))), .second, .val (.ref t), .val (.int (4 : Int32)), .val (.int (1 : Int32)), .val (.int x0)]) rfl kk) ?_
  refine Go.st (S' := T1.setTop (mkF m 14 #[.val (.ref a0), .val (.long ((0 : Int64) + (x0.toInt64))), .second, .val (.ref t), .val (.int (4 : Int32)), .val (.int (1 : Int32)), .val (.int x0)] [])) (fun _ kk => XS.goto X1.here hx rfl (pc0 := 36) (pc' := 14) rfl (hb hby d3_36) (by decide) (by decide) kk) ?_
  refine Go.st (S' := T1.setTop (mkF m 16 #[.val (.ref a0), .val (.long ((0 : Int64) + (x0.toInt64))), .second, .val (.ref t), .val (.int (4 : Int32)), .val (.int (1 : Int32)), .val (.int x0)] [(.int (1 : Int32))])) (fun _ kk => XS.iload X1.here hx rfl (hb hby d3_14) rfl kk) ?_
  refine Go.st (S' := T1.setTop (mkF m 18 #[.val (.ref a0), .val (.long ((0 : Int64) + (x0.toInt64))), .second, .val (.ref t), .val (.int (4 : Int32)), .val (.int (1 : Int32)), .val (.int x0)] [(.int (4 : Int32)), (.int (1 : Int32))])) (fun _ kk => XS.iload X1.here hx rfl (hb hby d3_16) rfl kk) ?_
  refine Go.st (S' := T1.setTop (mkF m 21 #[.val (.ref a0), .val (.long ((0 : Int64) + (x0.toInt64))), .second, .val (.ref t), .val (.int (4 : Int32)), .val (.int (1 : Int32)), .val (.int x0)] [])) (fun _ kk => XS.icmpNo X1.here hx rfl (hb hby d3_18) rfl (tlt (by decide : (1 : Int32) < (4 : Int32))).2.1 kk) ?_
  refine Go.st (S' := T1.setTop (mkF m 22 #[.val (.ref a0), .val (.long ((0 : Int64) + (x0.toInt64))), .second, .val (.ref t), .val (.int (4 : Int32)), .val (.int (1 : Int32)), .val (.int x0)] [(.ref t)])) (fun _ kk => XS.aloadN X1.here hx rfl (hb hby d3_21) rfl rfl kk) ?_
  refine Go.st (S' := T1.setTop (mkF m 24 #[.val (.ref a0), .val (.long ((0 : Int64) + (x0.toInt64))), .second, .val (.ref t), .val (.int (4 : Int32)), .val (.int (1 : Int32)), .val (.int x0)] [(.int (1 : Int32)), (.ref t)])) (fun _ kk => XS.iload X1.here hx rfl (hb hby d3_22) rfl kk) ?_
  obtain ⟨cl4, Ar4, q4, S4, Ng4, H4, G4⟩ := (id V_t)
  have hin4 : ¬ ((1 : Int32) < 0 ∨ cl4.slots.size ≤ ((1 : Int32)).toNatClampNeg) := inb_of S4 ⟨by decide, by decide⟩
  have hat4 : cl4.slots[((1 : Int32)).toNatClampNeg]? = some (.int x1) := Has.at H4 hin4 rfl
  refine Go.st (S' := T1.setTop (mkF m 25 #[.val (.ref a0), .val (.long ((0 : Int64) + (x0.toInt64))), .second, .val (.ref t), .val (.int (4 : Int32)), .val (.int (1 : Int32)), .val (.int x0)] [(.int x1)])) (fun _ kk => X1.iaload hx (j := (1 : Int32)) (v := (.int x1)) (by rw [e1]; exact Ar4.1) (State.isArrayOf_alike hZ.alike Ar4.2.1) Ar4.2.2 hin4 hat4 (g := (mkF m 24 #[.val (.ref a0), .val (.long ((0 : Int64) + (x0.toInt64))), .second, .val (.ref t), .val (.int (4 : Int32)), .val (.int (1 : Int32)), .val (.int x0)] [(.int (1 : Int32)), (.ref t)])) rfl rfl (hb hby d3_24) _ kk) ?_
  refine Go.st (S' := T1.setTop (mkF m 27 #[.val (.ref a0), .val (.long ((0 : Int64) + (x0.toInt64))), .second, .val (.ref t), .val (.int (4 : Int32)), .val (.int (1 : Int32)), .val (.int x1)] [])) (fun _ kk => XS.istore X1.here hx rfl (hb hby d3_25) rfl (l' := #[.val (.ref a0), .val (.long ((0 : Int64) + (x0.toInt64))), .second, .val (.ref t), .val (.int (4 : Int32)), .val (.int (1 : Int32)), .val (.int x1)]) rfl kk) ?_
  refine Go.st (S' := T1.setTop (mkF m 28 #[.val (.ref a0), .val (.long ((0 : Int64) + (x0.toInt64))), .second, .val (.ref t), .val (.int (4 : Int32)), .val (.int (1 : Int32)), .val (.int x1)] [(.long ((0 : Int64) + (x0.toInt64)))])) (fun _ kk => XS.lloadN X1.here hx rfl (hb hby d3_27) rfl kk) ?_
  refine Go.st (S' := T1.setTop (mkF m 30 #[.val (.ref a0), .val (.long ((0 : Int64) + (x0.toInt64))), .second, .val (.ref t), .val (.int (4 : Int32)), .val (.int (1 : Int32)), .val (.int x1)] [(.int x1), (.long ((0 : Int64) + (x0.toInt64)))])) (fun _ kk => XS.iload X1.here hx rfl (hb hby d3_28) rfl kk) ?_
  refine Go.st (S' := T1.setTop (mkF m 31 #[.val (.ref a0), .val (.long ((0 : Int64) + (x0.toInt64))), .second, .val (.ref t), .val (.int (4 : Int32)), .val (.int (1 : Int32)), .val (.int x1)] [(.long (x1.toInt64)), (.long ((0 : Int64) + (x0.toInt64)))])) (fun _ kk => XS.i2l X1.here hx rfl (hb hby d3_30) rfl kk) ?_
  refine Go.st (S' := T1.setTop (mkF m 32 #[.val (.ref a0), .val (.long ((0 : Int64) + (x0.toInt64))), .second, .val (.ref t), .val (.int (4 : Int32)), .val (.int (1 : Int32)), .val (.int x1)] [(.long (((0 : Int64) + (x0.toInt64)) + (x1.toInt64)))])) (fun _ kk => XS.ladd X1.here hx rfl (hb hby d3_31) rfl kk) ?_
  refine Go.st (S' := T1.setTop (mkF m 33 #[.val (.ref a0), .val (.long (((0 : Int64) + (x0.toInt64)) + (x1.toInt64))), .second, .val (.ref t), .val (.int (4 : Int32)), .val (.int (1 : Int32)), .val (.int x1)] [])) (fun _ kk => XS.lstoreN X1.here hx rfl (hb hby d3_32) rfl (l' := #[.val (.ref a0), .val (.long (((0 : Int64) + (x0.toInt64)) + (x1.toInt64))), .second, .val (.ref t), .val (.int (4 : Int32)), .val (.int (1 : Int32)), .val (.int x1)]) rfl kk) ?_
  refine Go.st (S' := T1.setTop (mkF m 36 #[.val (.ref a0), .val (.long (((0 : Int64) + (x0.toInt64)) + (x1.toInt64))), .second, .val (.ref t), .val (.int (4 : Int32)), .val (.int (2 : Int32)), .val (.int x1)] [])) (fun _ kk => XS.iinc X1.here hx rfl (hb hby d3_33) rfl (l' := #[.val (.ref a0), .val (.long (((0 : Int64) + (x0.toInt64)) + (x1.toInt64))), .second, .val (.ref t), .val (.int (4 : Int32)), .val (.int (2 : Int32)), .val (.int x1)]) rfl kk) ?_
  refine Go.st (S' := T1.setTop (mkF m 14 #[.val (.ref a0), .val (.long (((0 : Int64) + (x0.toInt64)) + (x1.toInt64))), .second, .val (.ref t), .val (.int (4 : Int32)), .val (.int (2 : Int32)), .val (.int x1)] [])) (fun _ kk => XS.goto X1.here hx rfl (pc0 := 36) (pc' := 14) rfl (hb hby d3_36) (by decide) (by decide) kk) ?_
  refine Go.st (S' := T1.setTop (mkF m 16 #[.val (.ref a0), .val (.long (((0 : Int64) + (x0.toInt64)) + (x1.toInt64))), .second, .val (.ref t), .val (.int (4 : Int32)), .val (.int (2 : Int32)), .val (.int x1)] [(.int (2 : Int32))])) (fun _ kk => XS.iload X1.here hx rfl (hb hby d3_14) rfl kk) ?_
  refine Go.st (S' := T1.setTop (mkF m 18 #[.val (.ref a0), .val (.long (((0 : Int64) + (x0.toInt64)) + (x1.toInt64))), .second, .val (.ref t), .val (.int (4 : Int32)), .val (.int (2 : Int32)), .val (.int x1)] [(.int (4 : Int32)), (.int (2 : Int32))])) (fun _ kk => XS.iload X1.here hx rfl (hb hby d3_16) rfl kk) ?_
  refine Go.st (S' := T1.setTop (mkF m 21 #[.val (.ref a0), .val (.long (((0 : Int64) + (x0.toInt64)) + (x1.toInt64))), .second, .val (.ref t), .val (.int (4 : Int32)), .val (.int (2 : Int32)), .val (.int x1)] [])) (fun _ kk => XS.icmpNo X1.here hx rfl (hb hby d3_18) rfl (tlt (by decide : (2 : Int32) < (4 : Int32))).2.1 kk) ?_
  refine Go.st (S' := T1.setTop (mkF m 22 #[.val (.ref a0), .val (.long (((0 : Int64) + (x0.toInt64)) + (x1.toInt64))), .second, .val (.ref t), .val (.int (4 : Int32)), .val (.int (2 : Int32)), .val (.int x1)] [(.ref t)])) (fun _ kk => XS.aloadN X1.here hx rfl (hb hby d3_21) rfl rfl kk) ?_
  refine Go.st (S' := T1.setTop (mkF m 24 #[.val (.ref a0), .val (.long (((0 : Int64) + (x0.toInt64)) + (x1.toInt64))), .second, .val (.ref t), .val (.int (4 : Int32)), .val (.int (2 : Int32)), .val (.int x1)] [(.int (2 : Int32)), (.ref t)])) (fun _ kk => XS.iload X1.here hx rfl (hb hby d3_22) rfl kk) ?_
  obtain ⟨cl5, Ar5, q5, S5, Ng5, H5, G5⟩ := (id V_t)
  have hin5 : ¬ ((2 : Int32) < 0 ∨ cl5.slots.size ≤ ((2 : Int32)).toNatClampNeg) := inb_of S5 ⟨by decide, by decide⟩
  have hat5 : cl5.slots[((2 : Int32)).toNatClampNeg]? = some (.int x2) := Has.at H5 hin5 rfl
  refine Go.st (S' := T1.setTop (mkF m 25 #[.val (.ref a0), .val (.long (((0 : Int64) + (x0.toInt64)) + (x1.toInt64))), .second, .val (.ref t), .val (.int (4 : Int32)), .val (.int (2 : Int32)), .val (.int x1)] [(.int x2)])) (fun _ kk => X1.iaload hx (j := (2 : Int32)) (v := (.int x2)) (by rw [e1]; exact Ar5.1) (State.isArrayOf_alike hZ.alike Ar5.2.1) Ar5.2.2 hin5 hat5 (g := (mkF m 24 #[.val (.ref a0), .val (.long (((0 : Int64) + (x0.toInt64)) + (x1.toInt64))), .second, .val (.ref t), .val (.int (4 : Int32)), .val (.int (2 : Int32)), .val (.int x1)] [(.int (2 : Int32)), (.ref t)])) rfl rfl (hb hby d3_24) _ kk) ?_
  refine Go.st (S' := T1.setTop (mkF m 27 #[.val (.ref a0), .val (.long (((0 : Int64) + (x0.toInt64)) + (x1.toInt64))), .second, .val (.ref t), .val (.int (4 : Int32)), .val (.int (2 : Int32)), .val (.int x2)] [])) (fun _ kk => XS.istore X1.here hx rfl (hb hby d3_25) rfl (l' := #[.val (.ref a0), .val (.long (((0 : Int64) + (x0.toInt64)) + (x1.toInt64))), .second, .val (.ref t), .val (.int (4 : Int32)), .val (.int (2 : Int32)), .val (.int x2)]) rfl kk) ?_
  refine Go.st (S' := T1.setTop (mkF m 28 #[.val (.ref a0), .val (.long (((0 : Int64) + (x0.toInt64)) + (x1.toInt64))), .second, .val (.ref t), .val (.int (4 : Int32)), .val (.int (2 : Int32)), .val (.int x2)] [(.long (((0 : Int64) + (x0.toInt64)) + (x1.toInt64)))])) (fun _ kk => XS.lloadN X1.here hx rfl (hb hby d3_27) rfl kk) ?_
  refine Go.st (S' := T1.setTop (mkF m 30 #[.val (.ref a0), .val (.long (((0 : Int64) + (x0.toInt64)) + (x1.toInt64))), .second, .val (.ref t), .val (.int (4 : Int32)), .val (.int (2 : Int32)), .val (.int x2)] [(.int x2), (.long (((0 : Int64) + (x0.toInt64)) + (x1.toInt64)))])) (fun _ kk => XS.iload X1.here hx rfl (hb hby d3_28) rfl kk) ?_
  refine Go.st (S' := T1.setTop (mkF m 31 #[.val (.ref a0), .val (.long (((0 : Int64) + (x0.toInt64)) + (x1.toInt64))), .second, .val (.ref t), .val (.int (4 : Int32)), .val (.int (2 : Int32)), .val (.int x2)] [(.long (x2.toInt64)), (.long (((0 : Int64) + (x0.toInt64)) + (x1.toInt64)))])) (fun _ kk => XS.i2l X1.here hx rfl (hb hby d3_30) rfl kk) ?_
  refine Go.st (S' := T1.setTop (mkF m 32 #[.val (.ref a0), .val (.long (((0 : Int64) + (x0.toInt64)) + (x1.toInt64))), .second, .val (.ref t), .val (.int (4 : Int32)), .val (.int (2 : Int32)), .val (.int x2)] [(.long ((((0 : Int64) + (x0.toInt64)) + (x1.toInt64)) + (x2.toInt64)))])) (fun _ kk => XS.ladd X1.here hx rfl (hb hby d3_31) rfl kk) ?_
  refine Go.st (S' := T1.setTop (mkF m 33 #[.val (.ref a0), .val (.long ((((0 : Int64) + (x0.toInt64)) + (x1.toInt64)) + (x2.toInt64))), .second, .val (.ref t), .val (.int (4 : Int32)), .val (.int (2 : Int32)), .val (.int x2)] [])) (fun _ kk => XS.lstoreN X1.here hx rfl (hb hby d3_32) rfl (l' := #[.val (.ref a0), .val (.long ((((0 : Int64) + (x0.toInt64)) + (x1.toInt64)) + (x2.toInt64))), .second, .val (.ref t), .val (.int (4 : Int32)), .val (.int (2 : Int32)), .val (.int x2)]) rfl kk) ?_
  refine Go.st (S' := T1.setTop (mkF m 36 #[.val (.ref a0), .val (.long ((((0 : Int64) + (x0.toInt64)) + (x1.toInt64)) + (x2.toInt64))), .second, .val (.ref t), .val (.int (4 : Int32)), .val (.int (3 : Int32)), .val (.int x2)] [])) (fun _ kk => XS.iinc X1.here hx rfl (hb hby d3_33) rfl (l' := #[.val (.ref a0), .val (.long ((((0 : Int64) + (x0.toInt64)) + (x1.toInt64)) + (x2.toInt64))), .second, .val (.ref t), .val (.int (4 : Int32)), .val (.int (3 : Int32)), .val (.int x2)]) rfl kk) ?_
  refine Go.st (S' := T1.setTop (mkF m 14 #[.val (.ref a0), .val (.long ((((0 : Int64) + (x0.toInt64)) + (x1.toInt64)) + (x2.toInt64))), .second, .val (.ref t), .val (.int (4 : Int32)), .val (.int (3 : Int32)), .val (.int x2)] [])) (fun _ kk => XS.goto X1.here hx rfl (pc0 := 36) (pc' := 14) rfl (hb hby d3_36) (by decide) (by decide) kk) ?_
  refine Go.st (S' := T1.setTop (mkF m 16 #[.val (.ref a0), .val (.long ((((0 : Int64) + (x0.toInt64)) + (x1.toInt64)) + (x2.toInt64))), .second, .val (.ref t), .val (.int (4 : Int32)), .val (.int (3 : Int32)), .val (.int x2)] [(.int (3 : Int32))])) (fun _ kk => XS.iload X1.here hx rfl (hb hby d3_14) rfl kk) ?_
  refine Go.st (S' := T1.setTop (mkF m 18 #[.val (.ref a0), .val (.long ((((0 : Int64) + (x0.toInt64)) + (x1.toInt64)) + (x2.toInt64))), .second, .val (.ref t), .val (.int (4 : Int32)), .val (.int (3 : Int32)), .val (.int x2)] [(.int (4 : Int32)), (.int (3 : Int32))])) (fun _ kk => XS.iload X1.here hx rfl (hb hby d3_16) rfl kk) ?_
  refine Go.st (S' := T1.setTop (mkF m 21 #[.val (.ref a0), .val (.long ((((0 : Int64) + (x0.toInt64)) + (x1.toInt64)) + (x2.toInt64))), .second, .val (.ref t), .val (.int (4 : Int32)), .val (.int (3 : Int32)), .val (.int x2)] [])) (fun _ kk => XS.icmpNo X1.here hx rfl (hb hby d3_18) rfl (tlt (by decide : (3 : Int32) < (4 : Int32))).2.1 kk) ?_
  refine Go.st (S' := T1.setTop (mkF m 22 #[.val (.ref a0), .val (.long ((((0 : Int64) + (x0.toInt64)) + (x1.toInt64)) + (x2.toInt64))), .second, .val (.ref t), .val (.int (4 : Int32)), .val (.int (3 : Int32)), .val (.int x2)] [(.ref t)])) (fun _ kk => XS.aloadN X1.here hx rfl (hb hby d3_21) rfl rfl kk) ?_
  refine Go.st (S' := T1.setTop (mkF m 24 #[.val (.ref a0), .val (.long ((((0 : Int64) + (x0.toInt64)) + (x1.toInt64)) + (x2.toInt64))), .second, .val (.ref t), .val (.int (4 : Int32)), .val (.int (3 : Int32)), .val (.int x2)] [(.int (3 : Int32)), (.ref t)])) (fun _ kk => XS.iload X1.here hx rfl (hb hby d3_22) rfl kk) ?_
  obtain ⟨cl6, Ar6, q6, S6, Ng6, H6, G6⟩ := (id V_t)
  have hin6 : ¬ ((3 : Int32) < 0 ∨ cl6.slots.size ≤ ((3 : Int32)).toNatClampNeg) := inb_of S6 ⟨by decide, by decide⟩
  have hat6 : cl6.slots[((3 : Int32)).toNatClampNeg]? = some (.int x3) := Has.at H6 hin6 rfl
  refine Go.st (S' := T1.setTop (mkF m 25 #[.val (.ref a0), .val (.long ((((0 : Int64) + (x0.toInt64)) + (x1.toInt64)) + (x2.toInt64))), .second, .val (.ref t), .val (.int (4 : Int32)), .val (.int (3 : Int32)), .val (.int x2)] [(.int x3)])) (fun _ kk => X1.iaload hx (j := (3 : Int32)) (v := (.int x3)) (by rw [e1]; exact Ar6.1) (State.isArrayOf_alike hZ.alike Ar6.2.1) Ar6.2.2 hin6 hat6 (g := (mkF m 24 #[.val (.ref a0), .val (.long ((((0 : Int64) + (x0.toInt64)) + (x1.toInt64)) + (x2.toInt64))), .second, .val (.ref t), .val (.int (4 : Int32)), .val (.int (3 : Int32)), .val (.int x2)] [(.int (3 : Int32)), (.ref t)])) rfl rfl (hb hby d3_24) _ kk) ?_
  refine Go.st (S' := T1.setTop (mkF m 27 #[.val (.ref a0), .val (.long ((((0 : Int64) + (x0.toInt64)) + (x1.toInt64)) + (x2.toInt64))), .second, .val (.ref t), .val (.int (4 : Int32)), .val (.int (3 : Int32)), .val (.int x3)] [])) (fun _ kk => XS.istore X1.here hx rfl (hb hby d3_25) rfl (l' := #[.val (.ref a0), .val (.long ((((0 : Int64) + (x0.toInt64)) + (x1.toInt64)) + (x2.toInt64))), .second, .val (.ref t), .val (.int (4 : Int32)), .val (.int (3 : Int32)), .val (.int x3)]) rfl kk) ?_
  refine Go.st (S' := T1.setTop (mkF m 28 #[.val (.ref a0), .val (.long ((((0 : Int64) + (x0.toInt64)) + (x1.toInt64)) + (x2.toInt64))), .second, .val (.ref t), .val (.int (4 : Int32)), .val (.int (3 : Int32)), .val (.int x3)] [(.long ((((0 : Int64) + (x0.toInt64)) + (x1.toInt64)) + (x2.toInt64)))])) (fun _ kk => XS.lloadN X1.here hx rfl (hb hby d3_27) rfl kk) ?_
  refine Go.st (S' := T1.setTop (mkF m 30 #[.val (.ref a0), .val (.long ((((0 : Int64) + (x0.toInt64)) + (x1.toInt64)) + (x2.toInt64))), .second, .val (.ref t), .val (.int (4 : Int32)), .val (.int (3 : Int32)), .val (.int x3)] [(.int x3), (.long ((((0 : Int64) + (x0.toInt64)) + (x1.toInt64)) + (x2.toInt64)))])) (fun _ kk => XS.iload X1.here hx rfl (hb hby d3_28) rfl kk) ?_
  refine Go.st (S' := T1.setTop (mkF m 31 #[.val (.ref a0), .val (.long ((((0 : Int64) + (x0.toInt64)) + (x1.toInt64)) + (x2.toInt64))), .second, .val (.ref t), .val (.int (4 : Int32)), .val (.int (3 : Int32)), .val (.int x3)] [(.long (x3.toInt64)), (.long ((((0 : Int64) + (x0.toInt64)) + (x1.toInt64)) + (x2.toInt64)))])) (fun _ kk => XS.i2l X1.here hx rfl (hb hby d3_30) rfl kk) ?_
  refine Go.st (S' := T1.setTop (mkF m 32 #[.val (.ref a0), .val (.long ((((0 : Int64) + (x0.toInt64)) + (x1.toInt64)) + (x2.toInt64))), .second, .val (.ref t), .val (.int (4 : Int32)), .val (.int (3 : Int32)), .val (.int x3)] [(.long (((((0 : Int64) + (x0.toInt64)) + (x1.toInt64)) + (x2.toInt64)) + (x3.toInt64)))])) (fun _ kk => XS.ladd X1.here hx rfl (hb hby d3_31) rfl kk) ?_
  refine Go.st (S' := T1.setTop (mkF m 33 #[.val (.ref a0), .val (.long (((((0 : Int64) + (x0.toInt64)) + (x1.toInt64)) + (x2.toInt64)) + (x3.toInt64))), .second, .val (.ref t), .val (.int (4 : Int32)), .val (.int (3 : Int32)), .val (.int x3)] [])) (fun _ kk => XS.lstoreN X1.here hx rfl (hb hby d3_32) rfl (l' := #[.val (.ref a0), .val (.long (((((0 : Int64) + (x0.toInt64)) + (x1.toInt64)) + (x2.toInt64)) + (x3.toInt64))), .second, .val (.ref t), .val (.int (4 : Int32)), .val (.int (3 : Int32)), .val (.int x3)]) rfl kk) ?_
  refine Go.st (S' := T1.setTop (mkF m 36 #[.val (.ref a0), .val (.long (((((0 : Int64) + (x0.toInt64)) + (x1.toInt64)) + (x2.toInt64)) + (x3.toInt64))), .second, .val (.ref t), .val (.int (4 : Int32)), .val (.int (4 : Int32)), .val (.int x3)] [])) (fun _ kk => XS.iinc X1.here hx rfl (hb hby d3_33) rfl (l' := #[.val (.ref a0), .val (.long (((((0 : Int64) + (x0.toInt64)) + (x1.toInt64)) + (x2.toInt64)) + (x3.toInt64))), .second, .val (.ref t), .val (.int (4 : Int32)), .val (.int (4 : Int32)), .val (.int x3)]) rfl kk) ?_
  refine Go.st (S' := T1.setTop (mkF m 14 #[.val (.ref a0), .val (.long (((((0 : Int64) + (x0.toInt64)) + (x1.toInt64)) + (x2.toInt64)) + (x3.toInt64))), .second, .val (.ref t), .val (.int (4 : Int32)), .val (.int (4 : Int32)), .val (.int x3)] [])) (fun _ kk => XS.goto X1.here hx rfl (pc0 := 36) (pc' := 14) rfl (hb hby d3_36) (by decide) (by decide) kk) ?_
  refine Go.st (S' := T1.setTop (mkF m 16 #[.val (.ref a0), .val (.long (((((0 : Int64) + (x0.toInt64)) + (x1.toInt64)) + (x2.toInt64)) + (x3.toInt64))), .second, .val (.ref t), .val (.int (4 : Int32)), .val (.int (4 : Int32)), .val (.int x3)] [(.int (4 : Int32))])) (fun _ kk => XS.iload X1.here hx rfl (hb hby d3_14) rfl kk) ?_
  refine Go.st (S' := T1.setTop (mkF m 18 #[.val (.ref a0), .val (.long (((((0 : Int64) + (x0.toInt64)) + (x1.toInt64)) + (x2.toInt64)) + (x3.toInt64))), .second, .val (.ref t), .val (.int (4 : Int32)), .val (.int (4 : Int32)), .val (.int x3)] [(.int (4 : Int32)), (.int (4 : Int32))])) (fun _ kk => XS.iload X1.here hx rfl (hb hby d3_16) rfl kk) ?_
  refine Go.st (S' := T1.setTop (mkF m 39 #[.val (.ref a0), .val (.long (((((0 : Int64) + (x0.toInt64)) + (x1.toInt64)) + (x2.toInt64)) + (x3.toInt64))), .second, .val (.ref t), .val (.int (4 : Int32)), .val (.int (4 : Int32)), .val (.int x3)] [])) (fun _ kk => XS.icmpYes X1.here hx rfl (pc0 := 18) (pc' := 39) rfl (hb hby d3_18) rfl (flt (by decide : ¬ ((4 : Int32) < (4 : Int32)))).2.1 (by decide) (by decide) kk) ?_
  refine Go.st (S' := T1.setTop (mkF m 40 #[.val (.ref a0), .val (.long (((((0 : Int64) + (x0.toInt64)) + (x1.toInt64)) + (x2.toInt64)) + (x3.toInt64))), .second, .val (.ref t), .val (.int (4 : Int32)), .val (.int (4 : Int32)), .val (.int x3)] [(.long (((((0 : Int64) + (x0.toInt64)) + (x1.toInt64)) + (x2.toInt64)) + (x3.toInt64)))])) (fun _ kk => XS.lloadN X1.here hx rfl (hb hby d3_39) rfl kk) ?_
  exact Go.retJ X1 hx hlk Bd.returns (hb hby d3_40) (⟨congrArg (fun q => some (Value.long q)) (Eq.symm (show fS4 x0 x1 x2 x3 = (((((0 : Int64) + (x0.toInt64)) + (x1.toInt64)) + (x2.toInt64)) + (x3.toInt64)) from by rfl)), N0, e1⟩) (by decide) (by decide)
theorem own_nn (a : Int32) : ¬ (a &&& (2147483647 : Int32)) < (0 : Int32) := by
  have h := (c_and a 2147483647 (by decide)).1
  rw [Int32.lt_iff_toInt_lt]; simp only [Int32.reduceToInt]; omega
theorem pn_1 : plainName "com/example/patient_snoop/patientsnoop/model/ConfigurationCachesPinLaw" = true := by first | (simp [plainName, overriddenIn]; done) | decide +kernel
theorem ef_0 (m : MethodId) (p0 : Int32) (p1 : Int32) (p2 : Int32) (p3 : Int32) (p4 : Int32) : entryFrame m #[(.int p0), (.int p1), (.int p2), (.int p3), (.int p4)] maxLocals = mkF m 0 #[.val (.int p0), .val (.int p1), .val (.int p2), .val (.int p3), .val (.int p4), .unset, .unset, .unset, .unset, .unset, .unset, .unset, .unset, .unset] [] := by first | (simp [entryFrame, mkF, argsToLocals, Value.category, maxLocals]; done) | rfl
set_option maxRecDepth 65536 in
set_option maxHeartbeats 40000000 in
theorem rm0 (l : Launch) (Z : State) (az : Array Value) (hw : ∀ d ∈ tables_1, d.before az Z = true) (ws : List Jvm.Cond) (p0 : Int32) (p1 : Int32) (p2 : Int32) (p3 : Int32) (p4 : Int32)  (h0 : Heap) (n0 : Nat) (Z0 : n0 ≤ h0.size)  :
    MetFree l x (head1 (Jvm.Cond.code x code maxLocals ret :: ws) room_1) (fun a U => a = #[(.int p0), (.int p1), (.int p2), (.int p3), (.int p4)] ∧ Z.Warmed39 U.vm ∧ U.heap = h0) (fun _ _ _ _ _ => True) (fun _ U o U' => ∃ v L, o = .returned v ∧ (LQ n0) v U'.heap L ∧ FrameEnd U o U' L room_1.cells room_1.slots) := by
  refine MetFree.of_bodySF (plainFor_of_name pn_1) hisR ?_
  intro p e s m args below meth c s₁ Bd hml0 hP hK
  obtain ⟨rfl, hZ, hh⟩ := hP
  have hx := Bd.exec
  have hby := Bd.bytes
  have hlk : meth.locks = false := Bd.notSynchronized
  have hml : c.maxLocals = 14 := hml0
  have hown : s.vm.findClass "com/example/patient_snoop/patientsnoop/model/ConfigurationCachesPinLaw" = some m.cls := findClass_of_methodNamed Bd.named
  have hnm := (name_of_methodNamed Bd.named Bd.method).1
  have X0 : Stand p l e room_1 s m #[(.int p0), (.int p1), (.int p2), (.int p3), (.int p4)] below meth c s₁ [] 0 0 := Stand.of_body Bd
  have e0 : s₁.heap = h0 := by rw [← hh, Bd.state]; rfl
  have N0 := Fr.nil n0
  show Go p e below s ((LQ n0)) room_1.cells room_1.slots (s₁.setTop (entryFrame m #[(.int p0), (.int p1), (.int p2), (.int p3), (.int p4)] maxLocals))
  rw [ef_0 m p0 p1 p2 p3 p4]
  refine Go.st (S' := s₁.setTop (mkF m 1 #[.val (.int p0), .val (.int p1), .val (.int p2), .val (.int p3), .val (.int p4), .unset, .unset, .unset, .unset, .unset, .unset, .unset, .unset, .unset] [(.int p0)])) (fun _ kk => XS.iloadN X0.here hx rfl (hb hby at_0) rfl kk) ?_
  refine Go.st (S' := s₁.setTop (mkF m 3 #[.val (.int p0), .val (.int p1), .val (.int p2), .val (.int p3), .val (.int p4), .unset, .unset, .unset, .unset, .unset, .unset, .unset, .unset, .unset] [(.int (7 : Int32)), (.int p0)])) (fun _ kk => XS.bipush X0.here hx rfl (hb hby at_1) kk) ?_
  refine Go.st (S' := s₁.setTop (mkF m 4 #[.val (.int p0), .val (.int p1), .val (.int p2), .val (.int p3), .val (.int p4), .unset, .unset, .unset, .unset, .unset, .unset, .unset, .unset, .unset] [(.int (p0 &&& (7 : Int32)))])) (fun _ kk => XS.iand X0.here hx rfl (hb hby at_3) rfl kk) ?_
  refine Go.st (S' := s₁.setTop (mkF m 5 #[.val (.int p0), .val (.int p1), .val (.int p2), .val (.int p3), .val (.int p4), .unset, .unset, .unset, .unset, .unset, .unset, .unset, .unset, .unset] [(.int (5 : Int32)), (.int (p0 &&& (7 : Int32)))])) (fun _ kk => XS.iconst X0.here hx rfl (hb hby at_4) kk) ?_
  refine Go.st (S' := s₁.setTop (mkF m 6 #[.val (.int p0), .val (.int p1), .val (.int p2), .val (.int p3), .val (.int p4), .unset, .unset, .unset, .unset, .unset, .unset, .unset, .unset, .unset] [(.int ((p0 &&& (7 : Int32)) % (5 : Int32)))])) (fun _ kk => iremM (g := (mkF m 5 #[.val (.int p0), .val (.int p1), .val (.int p2), .val (.int p3), .val (.int p4), .unset, .unset, .unset, .unset, .unset, .unset, .unset, .unset, .unset] [(.int (5 : Int32)), (.int (p0 &&& (7 : Int32)))])) X0 hx rfl (hb hby at_5) rfl (by decide) kk) ?_
  obtain ⟨n, h_n⟩ : ∃ z : Int32, z = ((p0 &&& (7 : Int32)) % (5 : Int32)) := ⟨_, rfl⟩
  rw [← h_n]
  refine Go.st (S' := s₁.setTop (mkF m 8 #[.val (.int p0), .val (.int p1), .val (.int p2), .val (.int p3), .val (.int p4), .val (.int n), .unset, .unset, .unset, .unset, .unset, .unset, .unset, .unset] [])) (fun _ kk => XS.istore X0.here hx rfl (hb hby at_6) rfl (l' := #[.val (.int p0), .val (.int p1), .val (.int p2), .val (.int p3), .val (.int p4), .val (.int n), .unset, .unset, .unset, .unset, .unset, .unset, .unset, .unset]) rfl kk) ?_
  refine Go.st (S' := s₁.setTop (mkF m 9 #[.val (.int p0), .val (.int p1), .val (.int p2), .val (.int p3), .val (.int p4), .val (.int n), .unset, .unset, .unset, .unset, .unset, .unset, .unset, .unset] [(.int p1)])) (fun _ kk => XS.iloadN X0.here hx rfl (hb hby at_8) rfl kk) ?_
  refine Go.st (S' := s₁.setTop (mkF m 11 #[.val (.int p0), .val (.int p1), .val (.int p2), .val (.int p3), .val (.int p4), .val (.int n), .unset, .unset, .unset, .unset, .unset, .unset, .unset, .unset] [(.int (2147483647 : Int32)), (.int p1)])) (fun _ kk => X0.ldcInt hx hown (mvT hZ (hw _ (List.mem_of_getElem? (i := 0) rfl))) (g := (mkF m 9 #[.val (.int p0), .val (.int p1), .val (.int p2), .val (.int p3), .val (.int p4), .val (.int n), .unset, .unset, .unset, .unset, .unset, .unset, .unset, .unset] [(.int p1)])) rfl (hb hby at_9) _ kk) ?_
  refine Go.st (S' := s₁.setTop (mkF m 12 #[.val (.int p0), .val (.int p1), .val (.int p2), .val (.int p3), .val (.int p4), .val (.int n), .unset, .unset, .unset, .unset, .unset, .unset, .unset, .unset] [(.int (p1 &&& (2147483647 : Int32)))])) (fun _ kk => XS.iand X0.here hx rfl (hb hby at_11) rfl kk) ?_
  obtain ⟨x, h_x⟩ : ∃ z : Int32, z = (p1 &&& (2147483647 : Int32)) := ⟨_, rfl⟩
  rw [← h_x]
  have hn_x : ¬ x < (0 : Int32) := by rw [h_x]; exact own_nn _
  refine Go.st (S' := s₁.setTop (mkF m 14 #[.val (.int p0), .val (.int p1), .val (.int p2), .val (.int p3), .val (.int p4), .val (.int n), .val (.int x), .unset, .unset, .unset, .unset, .unset, .unset, .unset] [])) (fun _ kk => XS.istore X0.here hx rfl (hb hby at_12) rfl (l' := #[.val (.int p0), .val (.int p1), .val (.int p2), .val (.int p3), .val (.int p4), .val (.int n), .val (.int x), .unset, .unset, .unset, .unset, .unset, .unset, .unset]) rfl kk) ?_
  refine Go.st (S' := s₁.setTop (mkF m 15 #[.val (.int p0), .val (.int p1), .val (.int p2), .val (.int p3), .val (.int p4), .val (.int n), .val (.int x), .unset, .unset, .unset, .unset, .unset, .unset, .unset] [(.int p2)])) (fun _ kk => XS.iloadN X0.here hx rfl (hb hby at_14) rfl kk) ?_
  refine Go.st (S' := s₁.setTop (mkF m 17 #[.val (.int p0), .val (.int p1), .val (.int p2), .val (.int p3), .val (.int p4), .val (.int n), .val (.int x), .unset, .unset, .unset, .unset, .unset, .unset, .unset] [(.int (2147483647 : Int32)), (.int p2)])) (fun _ kk => X0.ldcInt hx hown (mvT hZ (hw _ (List.mem_of_getElem? (i := 0) rfl))) (g := (mkF m 15 #[.val (.int p0), .val (.int p1), .val (.int p2), .val (.int p3), .val (.int p4), .val (.int n), .val (.int x), .unset, .unset, .unset, .unset, .unset, .unset, .unset] [(.int p2)])) rfl (hb hby at_15) _ kk) ?_
  refine Go.st (S' := s₁.setTop (mkF m 18 #[.val (.int p0), .val (.int p1), .val (.int p2), .val (.int p3), .val (.int p4), .val (.int n), .val (.int x), .unset, .unset, .unset, .unset, .unset, .unset, .unset] [(.int (p2 &&& (2147483647 : Int32)))])) (fun _ kk => XS.iand X0.here hx rfl (hb hby at_17) rfl kk) ?_
  obtain ⟨y, h_y⟩ : ∃ z : Int32, z = (p2 &&& (2147483647 : Int32)) := ⟨_, rfl⟩
  rw [← h_y]
  have hn_y : ¬ y < (0 : Int32) := by rw [h_y]; exact own_nn _
  refine Go.st (S' := s₁.setTop (mkF m 20 #[.val (.int p0), .val (.int p1), .val (.int p2), .val (.int p3), .val (.int p4), .val (.int n), .val (.int x), .val (.int y), .unset, .unset, .unset, .unset, .unset, .unset] [])) (fun _ kk => XS.istore X0.here hx rfl (hb hby at_18) rfl (l' := #[.val (.int p0), .val (.int p1), .val (.int p2), .val (.int p3), .val (.int p4), .val (.int n), .val (.int x), .val (.int y), .unset, .unset, .unset, .unset, .unset, .unset]) rfl kk) ?_
  refine Go.st (S' := s₁.setTop (mkF m 21 #[.val (.int p0), .val (.int p1), .val (.int p2), .val (.int p3), .val (.int p4), .val (.int n), .val (.int x), .val (.int y), .unset, .unset, .unset, .unset, .unset, .unset] [(.int p3)])) (fun _ kk => XS.iloadN X0.here hx rfl (hb hby at_20) rfl kk) ?_
  refine Go.st (S' := s₁.setTop (mkF m 23 #[.val (.int p0), .val (.int p1), .val (.int p2), .val (.int p3), .val (.int p4), .val (.int n), .val (.int x), .val (.int y), .unset, .unset, .unset, .unset, .unset, .unset] [(.int (2147483647 : Int32)), (.int p3)])) (fun _ kk => X0.ldcInt hx hown (mvT hZ (hw _ (List.mem_of_getElem? (i := 0) rfl))) (g := (mkF m 21 #[.val (.int p0), .val (.int p1), .val (.int p2), .val (.int p3), .val (.int p4), .val (.int n), .val (.int x), .val (.int y), .unset, .unset, .unset, .unset, .unset, .unset] [(.int p3)])) rfl (hb hby at_21) _ kk) ?_
  refine Go.st (S' := s₁.setTop (mkF m 24 #[.val (.int p0), .val (.int p1), .val (.int p2), .val (.int p3), .val (.int p4), .val (.int n), .val (.int x), .val (.int y), .unset, .unset, .unset, .unset, .unset, .unset] [(.int (p3 &&& (2147483647 : Int32)))])) (fun _ kk => XS.iand X0.here hx rfl (hb hby at_23) rfl kk) ?_
  obtain ⟨z, h_z⟩ : ∃ z : Int32, z = (p3 &&& (2147483647 : Int32)) := ⟨_, rfl⟩
  rw [← h_z]
  have hn_z : ¬ z < (0 : Int32) := by rw [h_z]; exact own_nn _
  refine Go.st (S' := s₁.setTop (mkF m 26 #[.val (.int p0), .val (.int p1), .val (.int p2), .val (.int p3), .val (.int p4), .val (.int n), .val (.int x), .val (.int y), .val (.int z), .unset, .unset, .unset, .unset, .unset] [])) (fun _ kk => XS.istore X0.here hx rfl (hb hby at_24) rfl (l' := #[.val (.int p0), .val (.int p1), .val (.int p2), .val (.int p3), .val (.int p4), .val (.int n), .val (.int x), .val (.int y), .val (.int z), .unset, .unset, .unset, .unset, .unset]) rfl kk) ?_
  refine Go.st (S' := s₁.setTop (mkF m 28 #[.val (.int p0), .val (.int p1), .val (.int p2), .val (.int p3), .val (.int p4), .val (.int n), .val (.int x), .val (.int y), .val (.int z), .unset, .unset, .unset, .unset, .unset] [(.int p4)])) (fun _ kk => XS.iload X0.here hx rfl (hb hby at_26) rfl kk) ?_
  refine Go.st (S' := s₁.setTop (mkF m 30 #[.val (.int p0), .val (.int p1), .val (.int p2), .val (.int p3), .val (.int p4), .val (.int n), .val (.int x), .val (.int y), .val (.int z), .unset, .unset, .unset, .unset, .unset] [(.int (2147483647 : Int32)), (.int p4)])) (fun _ kk => X0.ldcInt hx hown (mvT hZ (hw _ (List.mem_of_getElem? (i := 0) rfl))) (g := (mkF m 28 #[.val (.int p0), .val (.int p1), .val (.int p2), .val (.int p3), .val (.int p4), .val (.int n), .val (.int x), .val (.int y), .val (.int z), .unset, .unset, .unset, .unset, .unset] [(.int p4)])) rfl (hb hby at_28) _ kk) ?_
  refine Go.st (S' := s₁.setTop (mkF m 31 #[.val (.int p0), .val (.int p1), .val (.int p2), .val (.int p3), .val (.int p4), .val (.int n), .val (.int x), .val (.int y), .val (.int z), .unset, .unset, .unset, .unset, .unset] [(.int (p4 &&& (2147483647 : Int32)))])) (fun _ kk => XS.iand X0.here hx rfl (hb hby at_30) rfl kk) ?_
  obtain ⟨wv, h_wv⟩ : ∃ z : Int32, z = (p4 &&& (2147483647 : Int32)) := ⟨_, rfl⟩
  rw [← h_wv]
  have hn_wv : ¬ wv < (0 : Int32) := by rw [h_wv]; exact own_nn _
  refine Go.st (S' := s₁.setTop (mkF m 33 #[.val (.int p0), .val (.int p1), .val (.int p2), .val (.int p3), .val (.int p4), .val (.int n), .val (.int x), .val (.int y), .val (.int z), .val (.int wv), .unset, .unset, .unset, .unset] [])) (fun _ kk => XS.istore X0.here hx rfl (hb hby at_31) rfl (l' := #[.val (.int p0), .val (.int p1), .val (.int p2), .val (.int p3), .val (.int p4), .val (.int n), .val (.int x), .val (.int y), .val (.int z), .val (.int wv), .unset, .unset, .unset, .unset]) rfl kk) ?_
  refine Go.st (S' := s₁.setTop (mkF m 35 #[.val (.int p0), .val (.int p1), .val (.int p2), .val (.int p3), .val (.int p4), .val (.int n), .val (.int x), .val (.int y), .val (.int z), .val (.int wv), .unset, .unset, .unset, .unset] [(.int n)])) (fun _ kk => XS.iload X0.here hx rfl (hb hby at_33) rfl kk) ?_
  by_cases hc1 : n = (0 : Int32)
  · refine Go.st (S' := s₁.setTop (mkF m 38 #[.val (.int p0), .val (.int p1), .val (.int p2), .val (.int p3), .val (.int p4), .val (.int n), .val (.int x), .val (.int y), .val (.int z), .val (.int wv), .unset, .unset, .unset, .unset] [])) (fun _ kk => XS.ifNo X0.here hx rfl (hb hby at_35) rfl ((if0 _ _).trans (teq hc1).2) kk) ?_
    refine Go.st (S' := s₁.setTop (mkF m 39 #[.val (.int p0), .val (.int p1), .val (.int p2), .val (.int p3), .val (.int p4), .val (.int n), .val (.int x), .val (.int y), .val (.int z), .val (.int wv), .unset, .unset, .unset, .unset] [(.int (0 : Int32))])) (fun _ kk => XS.iconst X0.here hx rfl (hb hby at_38) kk) ?_
    obtain ⟨T2, h2, k2, X2, e2, E2, A2, E_b2, st2⟩ := newPE X0 hx hZ (hw _ (List.mem_of_getElem? (i := 1) rfl)) e0 (g := (mkF m 39 #[.val (.int p0), .val (.int p1), .val (.int p2), .val (.int p3), .val (.int p4), .val (.int n), .val (.int x), .val (.int y), .val (.int z), .val (.int wv), .unset, .unset, .unset, .unset] [(.int (0 : Int32))])) rfl (hb hby at_39) rfl (by decide) (cap := 0) (by decide) (by decide) (by decide : 0 + 1 ≤ _) (by decide : 0 + 0 ≤ _) (ad := "[I") rfl
    obtain ⟨b2, g2⟩ : ∃ z, z = h0.size := ⟨_, rfl⟩
    rw [← g2] at A2 E_b2 st2
    have g_b2 : n0 ≤ b2 := Nat.le_trans Z0 (Nat.le_of_eq g2.symm)
    have Zs3 := Nat.le_trans Z0 E2.1
    have V_b2 : Arv Z h2 b2 k2 .int (0 : Int32) [] (.int (0 : Int32)) := (Arv.new A2 (by decide)).pad (pad_rep [] (.int (0 : Int32)) 0)
    refine Go.st (S' := T2.setTop (mkF m 41 #[.val (.int p0), .val (.int p1), .val (.int p2), .val (.int p3), .val (.int p4), .val (.int n), .val (.int x), .val (.int y), .val (.int z), .val (.int wv), .unset, .unset, .unset, .unset] [(.ref b2)])) st2 ?_
    refine Go.st (S' := T2.setTop (mkF m 43 #[.val (.int p0), .val (.int p1), .val (.int p2), .val (.int p3), .val (.int p4), .val (.int n), .val (.int x), .val (.int y), .val (.int z), .val (.int wv), .val (.ref b2), .unset, .unset, .unset] [])) (fun _ kk => XS.astore X2.here hx rfl (hb hby at_41) rfl rfl (l' := #[.val (.int p0), .val (.int p1), .val (.int p2), .val (.int p3), .val (.int p4), .val (.int n), .val (.int x), .val (.int y), .val (.int z), .val (.int wv), .val (.ref b2), .unset, .unset, .unset]) rfl kk) ?_
    refine Go.st (S' := T2.setTop (mkF m 44 #[.val (.int p0), .val (.int p1), .val (.int p2), .val (.int p3), .val (.int p4), .val (.int n), .val (.int x), .val (.int y), .val (.int z), .val (.int wv), .val (.ref b2), .unset, .unset, .unset] [(.long (0 : Int64))])) (fun _ kk => XS.lconst X2.here hx rfl (hb hby at_43) kk) ?_
    refine Go.st (S' := T2.setTop (mkF m 46 #[.val (.int p0), .val (.int p1), .val (.int p2), .val (.int p3), .val (.int p4), .val (.int n), .val (.int x), .val (.int y), .val (.int z), .val (.int wv), .val (.ref b2), .val (.long (0 : Int64)), .second, .unset] [])) (fun _ kk => XS.lstore X2.here hx rfl (hb hby at_44) rfl (l' := #[.val (.int p0), .val (.int p1), .val (.int p2), .val (.int p3), .val (.int p4), .val (.int n), .val (.int x), .val (.int y), .val (.int z), .val (.int wv), .val (.ref b2), .val (.long (0 : Int64)), .second, .unset]) rfl kk) ?_
    refine Go.st (S' := T2.setTop (mkF m 190 #[.val (.int p0), .val (.int p1), .val (.int p2), .val (.int p3), .val (.int p4), .val (.int n), .val (.int x), .val (.int y), .val (.int z), .val (.int wv), .val (.ref b2), .val (.long (0 : Int64)), .second, .unset] [])) (fun _ kk => XS.goto X2.here hx rfl (pc0 := 46) (pc' := 190) rfl (hb hby at_46) (by decide) (by decide) kk) ?_
    obtain ⟨T4, h4, X4, e4, E4, A4, D4, -, st4⟩ := newO X2 hx hZ hown (hw _ (List.mem_of_getElem? (i := 2) rfl)) (hw _ (List.mem_of_getElem? (i := 3) rfl)) (hw _ (List.mem_of_getElem? (i := 4) rfl)) e2 (g := (mkF m 190 #[.val (.int p0), .val (.int p1), .val (.int p2), .val (.int p3), .val (.int p4), .val (.int n), .val (.int x), .val (.int y), .val (.int z), .val (.int wv), .val (.ref b2), .val (.long (0 : Int64)), .second, .unset] [])) rfl (hb hby at_190) (by decide : 1 + 1 ≤ _) (by decide : 0 + 1 ≤ _)
    obtain ⟨b4, g4⟩ : ∃ z, z = h2.size := ⟨_, rfl⟩
    rw [← g4] at A4 D4 st4
    have ne_b2_b4 : b2 ≠ b4 := Nat.ne_of_lt (Nat.lt_of_lt_of_le E_b2.lt (Nat.le_of_eq g4.symm))
    have g_b4 : n0 ≤ b4 := Nat.le_trans Zs3 (Nat.le_of_eq g4.symm)
    have E_b2 := E_b2.ext E4
    have V_b2 := V_b2.ext E4
    have Zs5 := Nat.le_trans Zs3 E4.1
    have E_b4 := A4
    have F_counts_b4 : Fld Z h4 b4 "com/example/patient_snoop/patientsnoop/model/Configuration" "counts" "[I" .null := D4 (Or.inr (hw _ (List.mem_of_getElem? (i := 21) rfl))) (ty := (.array .int)) (by decide)
    refine Go.st (S' := T4.setTop (mkF m 193 #[.val (.int p0), .val (.int p1), .val (.int p2), .val (.int p3), .val (.int p4), .val (.int n), .val (.int x), .val (.int y), .val (.int z), .val (.int wv), .val (.ref b2), .val (.long (0 : Int64)), .second, .unset] [(.ref b4)])) st4 ?_
    refine Go.st (S' := T4.setTop (mkF m 194 #[.val (.int p0), .val (.int p1), .val (.int p2), .val (.int p3), .val (.int p4), .val (.int n), .val (.int x), .val (.int y), .val (.int z), .val (.int wv), .val (.ref b2), .val (.long (0 : Int64)), .second, .unset] [(.ref b4), (.ref b4)])) (fun _ kk => XS.dup X4.here hx rfl (hb hby at_193) rfl rfl kk) ?_
    refine Go.st (S' := T4.setTop (mkF m 196 #[.val (.int p0), .val (.int p1), .val (.int p2), .val (.int p3), .val (.int p4), .val (.int n), .val (.int x), .val (.int y), .val (.int z), .val (.int wv), .val (.ref b2), .val (.long (0 : Int64)), .second, .unset] [(.ref b2), (.ref b4), (.ref b4)])) (fun _ kk => XS.aload X4.here hx rfl (hb hby at_194) rfl rfl kk) ?_
    obtain ⟨_, _, ⟨T6, L6, k6, n6⟩, -, X6, ⟨Lc6, hQ6, l6, y6, z6⟩, st6⟩ := X4.specialBack hx (y := (⟨"com/example/patient_snoop/patientsnoop/model/Configuration", "<init>", "([I)V"⟩ : MethodName)) rfl hown (mvT hZ (hw _ (List.mem_of_getElem? (i := 5) rfl))) (mvT hZ (hw _ (List.mem_of_getElem? (i := 6) rfl))) (mvT hZ (hw _ (List.mem_of_getElem? (i := 7) rfl))) (by decide) (backOf (W := 1) (rmC0 l Z az hw [] b4 b2  k2 h4 n0 Zs5 E_b4 g_b4 F_counts_b4 E_b2 V_b2 ) hZ (hw _ (List.mem_of_getElem? (i := 7) rfl)) (hw _ (List.mem_of_getElem? (i := 4) rfl)) (by decide) (by decide)) (g := (mkF m 196 #[.val (.int p0), .val (.int p1), .val (.int p2), .val (.int p3), .val (.int p4), .val (.int n), .val (.int x), .val (.int y), .val (.int z), .val (.int wv), .val (.ref b2), .val (.long (0 : Int64)), .second, .unset] [(.ref b2), (.ref b4), (.ref b4)])) rfl (by rw [hml]; rfl) (Steps.refl _) (a := b4) (argsL := [(.ref b2)]) (rest := [(.ref b4)]) (lenOf pd_0 rfl) rfl (by show 2 * 0 + _ ≤ _; exact Nat.le_of_eq rfl) (hb hby at_196) (fun _ _ => ⟨rfl, e4, (by decide : 2 + 1 ≤ _), (by decide : 1 + 0 ≤ _)⟩)
    dsimp only [Pt.U, Pt.locs, Pt.cells, Pt.slots] at X6 l6 y6 z6 st6 hQ6
    subst l6 y6 z6
    obtain ⟨t6, rfl, N6q, K6, Ec6, Fc6, Vc6, sz6⟩ := hQ6
    have N6 := Fr.app N0 N6q
    have E_b2 := E_b2.keep K6
    have V_b2 := V_b2.keep K6 (ninS ne_b2_b4 nin0)
    have E_b4 := E_b4.keep K6
    have Zs7 := Nat.le_trans Zs5 K6.1
    refine Go.tr (S' := T6.setTop (mkF m 199 #[.val (.int p0), .val (.int p1), .val (.int p2), .val (.int p3), .val (.int p4), .val (.int n), .val (.int x), .val (.int y), .val (.int z), .val (.int wv), .val (.ref b2), .val (.long (0 : Int64)), .second, .unset] [(.ref b4)])) st6 ?_
    refine Go.st (S' := T6.setTop (mkF m 201 #[.val (.int p0), .val (.int p1), .val (.int p2), .val (.int p3), .val (.int p4), .val (.int n), .val (.int x), .val (.int y), .val (.int z), .val (.int wv), .val (.ref b2), .val (.long (0 : Int64)), .second, .val (.ref b4)] [])) (fun _ kk => XS.astore X6.here hx rfl (hb hby at_199) rfl rfl (l' := #[.val (.int p0), .val (.int p1), .val (.int p2), .val (.int p3), .val (.int p4), .val (.int n), .val (.int x), .val (.int y), .val (.int z), .val (.int wv), .val (.ref b2), .val (.long (0 : Int64)), .second, .val (.ref b4)]) rfl kk) ?_
    refine Go.st (S' := T6.setTop (mkF m 203 #[.val (.int p0), .val (.int p1), .val (.int p2), .val (.int p3), .val (.int p4), .val (.int n), .val (.int x), .val (.int y), .val (.int z), .val (.int wv), .val (.ref b2), .val (.long (0 : Int64)), .second, .val (.ref b4)] [(.ref b4)])) (fun _ kk => XS.aload X6.here hx rfl (hb hby at_201) rfl rfl kk) ?_
    obtain ⟨cq8, kq8, q8a, q8b, q8c⟩ := isOf hZ rfl E_b4
    obtain ⟨_, _, ⟨T8, L8, k8, n8⟩, -, X8, ⟨Lc8, hQ8, l8, y8, z8⟩, st8⟩ := X6.virtualBack hx (y := (⟨"com/example/patient_snoop/patientsnoop/model/Configuration", "caches", "()J"⟩ : MethodName)) (z := (⟨"com/example/patient_snoop/patientsnoop/model/Configuration", "caches", "()J"⟩ : MethodName)) hown (mvT hZ (hw _ (List.mem_of_getElem? (i := 22) rfl))) (mvT hZ (hw _ (List.mem_of_getElem? (i := 23) rfl))) (notFace_of_selects (args := #[]) (mvT hZ (hw _ (List.mem_of_getElem? (i := 25) rfl)))) (mvT hZ (hw _ (List.mem_of_getElem? (i := 25) rfl))) (mvT hZ (hw _ (List.mem_of_getElem? (i := 24) rfl))) (by decide) (backOf (W := 0) (rmS0 l Z az hw [] b4 t6 k2  T6.heap n0 Zs7 Fc6 Vc6) hZ (hw _ (List.mem_of_getElem? (i := 26) rfl)) (hw _ (List.mem_of_getElem? (i := 4) rfl)) (by decide) (by decide)) q8a q8c (g := (mkF m 203 #[.val (.int p0), .val (.int p1), .val (.int p2), .val (.int p3), .val (.int p4), .val (.int n), .val (.int x), .val (.int y), .val (.int z), .val (.int wv), .val (.ref b2), .val (.long (0 : Int64)), .second, .val (.ref b4)] [(.ref b4)])) rfl (by rw [hml]; rfl) (Steps.refl _) (argsL := []) (rest := []) (lenOf pd_3 rfl) rfl (by show 2 * 0 + _ ≤ _; exact Nat.le_of_eq rfl) (hb hby at_203) (fun _ _ => ⟨rfl, rfl, (by decide : 3 + 0 ≤ _), (by decide : 1 + 0 ≤ _)⟩)
    dsimp only [Pt.U, Pt.locs, Pt.cells, Pt.slots] at X8 l8 y8 z8 st8 hQ8
    subst l8 y8 z8
    obtain ⟨hv8, N8q, e8⟩ := hQ8
    subst hv8
    have N8 := Fr.app N6 N8q
    refine Go.tr (S' := T8.setTop (mkF m 206 #[.val (.int p0), .val (.int p1), .val (.int p2), .val (.int p3), .val (.int p4), .val (.int n), .val (.int x), .val (.int y), .val (.int z), .val (.int wv), .val (.ref b2), .val (.long (0 : Int64)), .second, .val (.ref b4)] [(.long (fS0 ))])) st8 ?_
    refine Go.st (S' := T8.setTop (mkF m 208 #[.val (.int p0), .val (.int p1), .val (.int p2), .val (.int p3), .val (.int p4), .val (.int n), .val (.int x), .val (.int y), .val (.int z), .val (.int wv), .val (.ref b2), .val (.long (0 : Int64)), .second, .val (.ref b4)] [(.long (0 : Int64)), (.long (fS0 ))])) (fun _ kk => XS.lload X8.here hx rfl (hb hby at_206) rfl kk) ?_
    have hsum : (fS0 ) = (0 : Int64) := by rfl
    refine Go.st (S' := T8.setTop (mkF m 209 #[.val (.int p0), .val (.int p1), .val (.int p2), .val (.int p3), .val (.int p4), .val (.int n), .val (.int x), .val (.int y), .val (.int z), .val (.int wv), .val (.ref b2), .val (.long (0 : Int64)), .second, .val (.ref b4)] [(.int (lcmpW (fS0 ) (0 : Int64)))])) (fun _ kk => XS.lcmp X8.here hx rfl (hb hby at_208) rfl kk) ?_
    refine Go.st (S' := T8.setTop (mkF m 212 #[.val (.int p0), .val (.int p1), .val (.int p2), .val (.int p3), .val (.int p4), .val (.int n), .val (.int x), .val (.int y), .val (.int z), .val (.int wv), .val (.ref b2), .val (.long (0 : Int64)), .second, .val (.ref b4)] [])) (fun _ kk => XS.ifNo X8.here hx rfl (hb hby at_209) rfl ((if0 _ _).trans (teq ((lw_eq (fS0 ) (0 : Int64)).mpr hsum)).2) kk) ?_
    refine Go.st (S' := T8.setTop (mkF m 213 #[.val (.int p0), .val (.int p1), .val (.int p2), .val (.int p3), .val (.int p4), .val (.int n), .val (.int x), .val (.int y), .val (.int z), .val (.int wv), .val (.ref b2), .val (.long (0 : Int64)), .second, .val (.ref b4)] [(.int (1 : Int32))])) (fun _ kk => XS.iconst X8.here hx rfl (hb hby at_212) kk) ?_
    refine Go.st (S' := T8.setTop (mkF m 217 #[.val (.int p0), .val (.int p1), .val (.int p2), .val (.int p3), .val (.int p4), .val (.int n), .val (.int x), .val (.int y), .val (.int z), .val (.int wv), .val (.ref b2), .val (.long (0 : Int64)), .second, .val (.ref b4)] [(.int (1 : Int32))])) (fun _ kk => XS.goto X8.here hx rfl (pc0 := 213) (pc' := 217) rfl (hb hby at_213) (by decide) (by decide) kk) ?_
    exact Go.retN X8 hx hlk (t := .boolean) Bd.returns (by simp) (hb hby at_217) (⟨rfl, N8⟩) (by decide) (by decide)
  · refine Go.st (S' := s₁.setTop (mkF m 49 #[.val (.int p0), .val (.int p1), .val (.int p2), .val (.int p3), .val (.int p4), .val (.int n), .val (.int x), .val (.int y), .val (.int z), .val (.int wv), .unset, .unset, .unset, .unset] [])) (fun _ kk => XS.ifYes X0.here hx rfl (pc0 := 35) (pc' := 49) rfl (hb hby at_35) rfl ((if0 _ _).trans (feq hc1).2) (by decide) (by decide) kk) ?_
    refine Go.st (S' := s₁.setTop (mkF m 51 #[.val (.int p0), .val (.int p1), .val (.int p2), .val (.int p3), .val (.int p4), .val (.int n), .val (.int x), .val (.int y), .val (.int z), .val (.int wv), .unset, .unset, .unset, .unset] [(.int n)])) (fun _ kk => XS.iload X0.here hx rfl (hb hby at_49) rfl kk) ?_
    refine Go.st (S' := s₁.setTop (mkF m 52 #[.val (.int p0), .val (.int p1), .val (.int p2), .val (.int p3), .val (.int p4), .val (.int n), .val (.int x), .val (.int y), .val (.int z), .val (.int wv), .unset, .unset, .unset, .unset] [(.int (1 : Int32)), (.int n)])) (fun _ kk => XS.iconst X0.here hx rfl (hb hby at_51) kk) ?_
    by_cases hc9 : n = (1 : Int32)
    · refine Go.st (S' := s₁.setTop (mkF m 55 #[.val (.int p0), .val (.int p1), .val (.int p2), .val (.int p3), .val (.int p4), .val (.int n), .val (.int x), .val (.int y), .val (.int z), .val (.int wv), .unset, .unset, .unset, .unset] [])) (fun _ kk => XS.icmpNo X0.here hx rfl (hb hby at_52) rfl (teq hc9).2 kk) ?_
      refine Go.st (S' := s₁.setTop (mkF m 56 #[.val (.int p0), .val (.int p1), .val (.int p2), .val (.int p3), .val (.int p4), .val (.int n), .val (.int x), .val (.int y), .val (.int z), .val (.int wv), .unset, .unset, .unset, .unset] [(.int (1 : Int32))])) (fun _ kk => XS.iconst X0.here hx rfl (hb hby at_55) kk) ?_
      obtain ⟨T10, h10, k10, X10, e10, E10, A10, E_b10, st10⟩ := newPE X0 hx hZ (hw _ (List.mem_of_getElem? (i := 1) rfl)) e0 (g := (mkF m 56 #[.val (.int p0), .val (.int p1), .val (.int p2), .val (.int p3), .val (.int p4), .val (.int n), .val (.int x), .val (.int y), .val (.int z), .val (.int wv), .unset, .unset, .unset, .unset] [(.int (1 : Int32))])) rfl (hb hby at_56) rfl (by decide) (cap := 1) (by decide) (by decide) (by decide : 0 + 1 ≤ _) (by decide : 0 + 1 ≤ _) (ad := "[I") rfl
      obtain ⟨b10, g10⟩ : ∃ z, z = h0.size := ⟨_, rfl⟩
      rw [← g10] at A10 E_b10 st10
      have g_b10 : n0 ≤ b10 := Nat.le_trans Z0 (Nat.le_of_eq g10.symm)
      have Zs11 := Nat.le_trans Z0 E10.1
      have V_b10 : Arv Z h10 b10 k10 .int (1 : Int32) [(.int (0 : Int32))] (.int (0 : Int32)) := (Arv.new A10 (by decide)).pad (pad_rep [] (.int (0 : Int32)) 1)
      refine Go.st (S' := T10.setTop (mkF m 58 #[.val (.int p0), .val (.int p1), .val (.int p2), .val (.int p3), .val (.int p4), .val (.int n), .val (.int x), .val (.int y), .val (.int z), .val (.int wv), .unset, .unset, .unset, .unset] [(.ref b10)])) st10 ?_
      refine Go.st (S' := T10.setTop (mkF m 59 #[.val (.int p0), .val (.int p1), .val (.int p2), .val (.int p3), .val (.int p4), .val (.int n), .val (.int x), .val (.int y), .val (.int z), .val (.int wv), .unset, .unset, .unset, .unset] [(.ref b10), (.ref b10)])) (fun _ kk => XS.dup X10.here hx rfl (hb hby at_58) rfl rfl kk) ?_
      refine Go.st (S' := T10.setTop (mkF m 60 #[.val (.int p0), .val (.int p1), .val (.int p2), .val (.int p3), .val (.int p4), .val (.int n), .val (.int x), .val (.int y), .val (.int z), .val (.int wv), .unset, .unset, .unset, .unset] [(.int (0 : Int32)), (.ref b10), (.ref b10)])) (fun _ kk => XS.iconst X10.here hx rfl (hb hby at_59) kk) ?_
      refine Go.st (S' := T10.setTop (mkF m 62 #[.val (.int p0), .val (.int p1), .val (.int p2), .val (.int p3), .val (.int p4), .val (.int n), .val (.int x), .val (.int y), .val (.int z), .val (.int wv), .unset, .unset, .unset, .unset] [(.int x), (.int (0 : Int32)), (.ref b10), (.ref b10)])) (fun _ kk => XS.iload X10.here hx rfl (hb hby at_60) rfl kk) ?_
      obtain ⟨cl12, Ar12, q12, S12, Ng12, H12, G12⟩ := (id V_b10)
      have hin12 : ¬ ((0 : Int32) < 0 ∨ cl12.slots.size ≤ ((0 : Int32)).toNatClampNeg) := inb_of S12 ⟨by decide, by decide⟩
      obtain ⟨T12, h12, X12, e12, W12, st12⟩ := stI X10 hx hZ e10 Ar12 (j := (0 : Int32)) hin12 (g := (mkF m 62 #[.val (.int p0), .val (.int p1), .val (.int p2), .val (.int p3), .val (.int p4), .val (.int n), .val (.int x), .val (.int y), .val (.int z), .val (.int wv), .unset, .unset, .unset, .unset] [(.int x), (.int (0 : Int32)), (.ref b10), (.ref b10)])) rfl rfl (hb hby at_62)
      have V_b10 : Arv Z h12 b10 k10 .int (1 : Int32) [(.int x)] (.int (0 : Int32)) := Arv.set Ar12 q12 S12 Ng12 H12 G12 rfl W12 0 rfl (Nat.le_of_ble_eq_true rfl)
      have N12 := Fr.snoc X12 N0 g_b10
      have E_b10 := E_b10.wr W12
      have Zs13 := Nat.le_trans Zs11 (Keep.of_wr W12).1
      refine Go.st (S' := T12.setTop (mkF m 63 #[.val (.int p0), .val (.int p1), .val (.int p2), .val (.int p3), .val (.int p4), .val (.int n), .val (.int x), .val (.int y), .val (.int z), .val (.int wv), .unset, .unset, .unset, .unset] [(.ref b10)])) st12 ?_
      refine Go.st (S' := T12.setTop (mkF m 65 #[.val (.int p0), .val (.int p1), .val (.int p2), .val (.int p3), .val (.int p4), .val (.int n), .val (.int x), .val (.int y), .val (.int z), .val (.int wv), .val (.ref b10), .unset, .unset, .unset] [])) (fun _ kk => XS.astore X12.here hx rfl (hb hby at_63) rfl rfl (l' := #[.val (.int p0), .val (.int p1), .val (.int p2), .val (.int p3), .val (.int p4), .val (.int n), .val (.int x), .val (.int y), .val (.int z), .val (.int wv), .val (.ref b10), .unset, .unset, .unset]) rfl kk) ?_
      refine Go.st (S' := T12.setTop (mkF m 67 #[.val (.int p0), .val (.int p1), .val (.int p2), .val (.int p3), .val (.int p4), .val (.int n), .val (.int x), .val (.int y), .val (.int z), .val (.int wv), .val (.ref b10), .unset, .unset, .unset] [(.int x)])) (fun _ kk => XS.iload X12.here hx rfl (hb hby at_65) rfl kk) ?_
      refine Go.st (S' := T12.setTop (mkF m 68 #[.val (.int p0), .val (.int p1), .val (.int p2), .val (.int p3), .val (.int p4), .val (.int n), .val (.int x), .val (.int y), .val (.int z), .val (.int wv), .val (.ref b10), .unset, .unset, .unset] [(.long (x.toInt64))])) (fun _ kk => XS.i2l X12.here hx rfl (hb hby at_67) rfl kk) ?_
      refine Go.st (S' := T12.setTop (mkF m 70 #[.val (.int p0), .val (.int p1), .val (.int p2), .val (.int p3), .val (.int p4), .val (.int n), .val (.int x), .val (.int y), .val (.int z), .val (.int wv), .val (.ref b10), .val (.long (x.toInt64)), .second, .unset] [])) (fun _ kk => XS.lstore X12.here hx rfl (hb hby at_68) rfl (l' := #[.val (.int p0), .val (.int p1), .val (.int p2), .val (.int p3), .val (.int p4), .val (.int n), .val (.int x), .val (.int y), .val (.int z), .val (.int wv), .val (.ref b10), .val (.long (x.toInt64)), .second, .unset]) rfl kk) ?_
      refine Go.st (S' := T12.setTop (mkF m 190 #[.val (.int p0), .val (.int p1), .val (.int p2), .val (.int p3), .val (.int p4), .val (.int n), .val (.int x), .val (.int y), .val (.int z), .val (.int wv), .val (.ref b10), .val (.long (x.toInt64)), .second, .unset] [])) (fun _ kk => XS.goto X12.here hx rfl (pc0 := 70) (pc' := 190) rfl (hb hby at_70) (by decide) (by decide) kk) ?_
      obtain ⟨T14, h14, X14, e14, E14, A14, D14, -, st14⟩ := newO X12 hx hZ hown (hw _ (List.mem_of_getElem? (i := 2) rfl)) (hw _ (List.mem_of_getElem? (i := 3) rfl)) (hw _ (List.mem_of_getElem? (i := 4) rfl)) e12 (g := (mkF m 190 #[.val (.int p0), .val (.int p1), .val (.int p2), .val (.int p3), .val (.int p4), .val (.int n), .val (.int x), .val (.int y), .val (.int z), .val (.int wv), .val (.ref b10), .val (.long (x.toInt64)), .second, .unset] [])) rfl (hb hby at_190) (by decide : 1 + 1 ≤ _) (by decide : 1 + 1 ≤ _)
      obtain ⟨b14, g14⟩ : ∃ z, z = h12.size := ⟨_, rfl⟩
      rw [← g14] at A14 D14 st14
      have ne_b10_b14 : b10 ≠ b14 := Nat.ne_of_lt (Nat.lt_of_lt_of_le E_b10.lt (Nat.le_of_eq g14.symm))
      have g_b14 : n0 ≤ b14 := Nat.le_trans Zs13 (Nat.le_of_eq g14.symm)
      have E_b10 := E_b10.ext E14
      have V_b10 := V_b10.ext E14
      have Zs15 := Nat.le_trans Zs13 E14.1
      have E_b14 := A14
      have F_counts_b14 : Fld Z h14 b14 "com/example/patient_snoop/patientsnoop/model/Configuration" "counts" "[I" .null := D14 (Or.inr (hw _ (List.mem_of_getElem? (i := 21) rfl))) (ty := (.array .int)) (by decide)
      refine Go.st (S' := T14.setTop (mkF m 193 #[.val (.int p0), .val (.int p1), .val (.int p2), .val (.int p3), .val (.int p4), .val (.int n), .val (.int x), .val (.int y), .val (.int z), .val (.int wv), .val (.ref b10), .val (.long (x.toInt64)), .second, .unset] [(.ref b14)])) st14 ?_
      refine Go.st (S' := T14.setTop (mkF m 194 #[.val (.int p0), .val (.int p1), .val (.int p2), .val (.int p3), .val (.int p4), .val (.int n), .val (.int x), .val (.int y), .val (.int z), .val (.int wv), .val (.ref b10), .val (.long (x.toInt64)), .second, .unset] [(.ref b14), (.ref b14)])) (fun _ kk => XS.dup X14.here hx rfl (hb hby at_193) rfl rfl kk) ?_
      refine Go.st (S' := T14.setTop (mkF m 196 #[.val (.int p0), .val (.int p1), .val (.int p2), .val (.int p3), .val (.int p4), .val (.int n), .val (.int x), .val (.int y), .val (.int z), .val (.int wv), .val (.ref b10), .val (.long (x.toInt64)), .second, .unset] [(.ref b10), (.ref b14), (.ref b14)])) (fun _ kk => XS.aload X14.here hx rfl (hb hby at_194) rfl rfl kk) ?_
      obtain ⟨_, _, ⟨T16, L16, k16, n16⟩, -, X16, ⟨Lc16, hQ16, l16, y16, z16⟩, st16⟩ := X14.specialBack hx (y := (⟨"com/example/patient_snoop/patientsnoop/model/Configuration", "<init>", "([I)V"⟩ : MethodName)) rfl hown (mvT hZ (hw _ (List.mem_of_getElem? (i := 5) rfl))) (mvT hZ (hw _ (List.mem_of_getElem? (i := 6) rfl))) (mvT hZ (hw _ (List.mem_of_getElem? (i := 7) rfl))) (by decide) (backOf (W := 1) (rmC1 l Z az hw [] b14 b10 x k10 h14 n0 Zs15 E_b14 g_b14 F_counts_b14 E_b10 V_b10 hn_x) hZ (hw _ (List.mem_of_getElem? (i := 7) rfl)) (hw _ (List.mem_of_getElem? (i := 4) rfl)) (by decide) (by decide)) (g := (mkF m 196 #[.val (.int p0), .val (.int p1), .val (.int p2), .val (.int p3), .val (.int p4), .val (.int n), .val (.int x), .val (.int y), .val (.int z), .val (.int wv), .val (.ref b10), .val (.long (x.toInt64)), .second, .unset] [(.ref b10), (.ref b14), (.ref b14)])) rfl (by rw [hml]; rfl) (Steps.refl _) (a := b14) (argsL := [(.ref b10)]) (rest := [(.ref b14)]) (lenOf pd_0 rfl) rfl (by show 2 * 0 + _ ≤ _; exact Nat.le_of_eq rfl) (hb hby at_196) (fun _ _ => ⟨rfl, e14, (by decide : 2 + 1 ≤ _), (by decide : 2 + 1 ≤ _)⟩)
      dsimp only [Pt.U, Pt.locs, Pt.cells, Pt.slots] at X16 l16 y16 z16 st16 hQ16
      subst l16 y16 z16
      obtain ⟨t16, rfl, N16q, K16, Ec16, Fc16, Vc16, sz16⟩ := hQ16
      have N16 := Fr.app N12 N16q
      have E_b10 := E_b10.keep K16
      have V_b10 := V_b10.keep K16 (ninS ne_b10_b14 nin0)
      have E_b14 := E_b14.keep K16
      have Zs17 := Nat.le_trans Zs15 K16.1
      refine Go.tr (S' := T16.setTop (mkF m 199 #[.val (.int p0), .val (.int p1), .val (.int p2), .val (.int p3), .val (.int p4), .val (.int n), .val (.int x), .val (.int y), .val (.int z), .val (.int wv), .val (.ref b10), .val (.long (x.toInt64)), .second, .unset] [(.ref b14)])) st16 ?_
      refine Go.st (S' := T16.setTop (mkF m 201 #[.val (.int p0), .val (.int p1), .val (.int p2), .val (.int p3), .val (.int p4), .val (.int n), .val (.int x), .val (.int y), .val (.int z), .val (.int wv), .val (.ref b10), .val (.long (x.toInt64)), .second, .val (.ref b14)] [])) (fun _ kk => XS.astore X16.here hx rfl (hb hby at_199) rfl rfl (l' := #[.val (.int p0), .val (.int p1), .val (.int p2), .val (.int p3), .val (.int p4), .val (.int n), .val (.int x), .val (.int y), .val (.int z), .val (.int wv), .val (.ref b10), .val (.long (x.toInt64)), .second, .val (.ref b14)]) rfl kk) ?_
      refine Go.st (S' := T16.setTop (mkF m 203 #[.val (.int p0), .val (.int p1), .val (.int p2), .val (.int p3), .val (.int p4), .val (.int n), .val (.int x), .val (.int y), .val (.int z), .val (.int wv), .val (.ref b10), .val (.long (x.toInt64)), .second, .val (.ref b14)] [(.ref b14)])) (fun _ kk => XS.aload X16.here hx rfl (hb hby at_201) rfl rfl kk) ?_
      obtain ⟨cq18, kq18, q18a, q18b, q18c⟩ := isOf hZ rfl E_b14
      obtain ⟨_, _, ⟨T18, L18, k18, n18⟩, -, X18, ⟨Lc18, hQ18, l18, y18, z18⟩, st18⟩ := X16.virtualBack hx (y := (⟨"com/example/patient_snoop/patientsnoop/model/Configuration", "caches", "()J"⟩ : MethodName)) (z := (⟨"com/example/patient_snoop/patientsnoop/model/Configuration", "caches", "()J"⟩ : MethodName)) hown (mvT hZ (hw _ (List.mem_of_getElem? (i := 22) rfl))) (mvT hZ (hw _ (List.mem_of_getElem? (i := 23) rfl))) (notFace_of_selects (args := #[]) (mvT hZ (hw _ (List.mem_of_getElem? (i := 25) rfl)))) (mvT hZ (hw _ (List.mem_of_getElem? (i := 25) rfl))) (mvT hZ (hw _ (List.mem_of_getElem? (i := 24) rfl))) (by decide) (backOf (W := 0) (rmS1 l Z az hw [] b14 t16 k10 x T16.heap n0 Zs17 Fc16 Vc16) hZ (hw _ (List.mem_of_getElem? (i := 26) rfl)) (hw _ (List.mem_of_getElem? (i := 4) rfl)) (by decide) (by decide)) q18a q18c (g := (mkF m 203 #[.val (.int p0), .val (.int p1), .val (.int p2), .val (.int p3), .val (.int p4), .val (.int n), .val (.int x), .val (.int y), .val (.int z), .val (.int wv), .val (.ref b10), .val (.long (x.toInt64)), .second, .val (.ref b14)] [(.ref b14)])) rfl (by rw [hml]; rfl) (Steps.refl _) (argsL := []) (rest := []) (lenOf pd_3 rfl) rfl (by show 2 * 0 + _ ≤ _; exact Nat.le_of_eq rfl) (hb hby at_203) (fun _ _ => ⟨rfl, rfl, (by decide : 3 + 0 ≤ _), (by decide : 3 + 0 ≤ _)⟩)
      dsimp only [Pt.U, Pt.locs, Pt.cells, Pt.slots] at X18 l18 y18 z18 st18 hQ18
      subst l18 y18 z18
      obtain ⟨hv18, N18q, e18⟩ := hQ18
      subst hv18
      have N18 := Fr.app N16 N18q
      refine Go.tr (S' := T18.setTop (mkF m 206 #[.val (.int p0), .val (.int p1), .val (.int p2), .val (.int p3), .val (.int p4), .val (.int n), .val (.int x), .val (.int y), .val (.int z), .val (.int wv), .val (.ref b10), .val (.long (x.toInt64)), .second, .val (.ref b14)] [(.long (fS1 x))])) st18 ?_
      refine Go.st (S' := T18.setTop (mkF m 208 #[.val (.int p0), .val (.int p1), .val (.int p2), .val (.int p3), .val (.int p4), .val (.int n), .val (.int x), .val (.int y), .val (.int z), .val (.int wv), .val (.ref b10), .val (.long (x.toInt64)), .second, .val (.ref b14)] [(.long (x.toInt64)), (.long (fS1 x))])) (fun _ kk => XS.lload X18.here hx rfl (hb hby at_206) rfl kk) ?_
      have hsum : (fS1 x) = (x.toInt64) := by unfold fS1; rw [Int64.zero_add]
      refine Go.st (S' := T18.setTop (mkF m 209 #[.val (.int p0), .val (.int p1), .val (.int p2), .val (.int p3), .val (.int p4), .val (.int n), .val (.int x), .val (.int y), .val (.int z), .val (.int wv), .val (.ref b10), .val (.long (x.toInt64)), .second, .val (.ref b14)] [(.int (lcmpW (fS1 x) (x.toInt64)))])) (fun _ kk => XS.lcmp X18.here hx rfl (hb hby at_208) rfl kk) ?_
      refine Go.st (S' := T18.setTop (mkF m 212 #[.val (.int p0), .val (.int p1), .val (.int p2), .val (.int p3), .val (.int p4), .val (.int n), .val (.int x), .val (.int y), .val (.int z), .val (.int wv), .val (.ref b10), .val (.long (x.toInt64)), .second, .val (.ref b14)] [])) (fun _ kk => XS.ifNo X18.here hx rfl (hb hby at_209) rfl ((if0 _ _).trans (teq ((lw_eq (fS1 x) (x.toInt64)).mpr hsum)).2) kk) ?_
      refine Go.st (S' := T18.setTop (mkF m 213 #[.val (.int p0), .val (.int p1), .val (.int p2), .val (.int p3), .val (.int p4), .val (.int n), .val (.int x), .val (.int y), .val (.int z), .val (.int wv), .val (.ref b10), .val (.long (x.toInt64)), .second, .val (.ref b14)] [(.int (1 : Int32))])) (fun _ kk => XS.iconst X18.here hx rfl (hb hby at_212) kk) ?_
      refine Go.st (S' := T18.setTop (mkF m 217 #[.val (.int p0), .val (.int p1), .val (.int p2), .val (.int p3), .val (.int p4), .val (.int n), .val (.int x), .val (.int y), .val (.int z), .val (.int wv), .val (.ref b10), .val (.long (x.toInt64)), .second, .val (.ref b14)] [(.int (1 : Int32))])) (fun _ kk => XS.goto X18.here hx rfl (pc0 := 213) (pc' := 217) rfl (hb hby at_213) (by decide) (by decide) kk) ?_
      exact Go.retN X18 hx hlk (t := .boolean) Bd.returns (by simp) (hb hby at_217) (⟨rfl, N18⟩) (by decide) (by decide)
    · refine Go.st (S' := s₁.setTop (mkF m 73 #[.val (.int p0), .val (.int p1), .val (.int p2), .val (.int p3), .val (.int p4), .val (.int n), .val (.int x), .val (.int y), .val (.int z), .val (.int wv), .unset, .unset, .unset, .unset] [])) (fun _ kk => XS.icmpYes X0.here hx rfl (pc0 := 52) (pc' := 73) rfl (hb hby at_52) rfl (feq hc9).2 (by decide) (by decide) kk) ?_
      refine Go.st (S' := s₁.setTop (mkF m 75 #[.val (.int p0), .val (.int p1), .val (.int p2), .val (.int p3), .val (.int p4), .val (.int n), .val (.int x), .val (.int y), .val (.int z), .val (.int wv), .unset, .unset, .unset, .unset] [(.int n)])) (fun _ kk => XS.iload X0.here hx rfl (hb hby at_73) rfl kk) ?_
      refine Go.st (S' := s₁.setTop (mkF m 76 #[.val (.int p0), .val (.int p1), .val (.int p2), .val (.int p3), .val (.int p4), .val (.int n), .val (.int x), .val (.int y), .val (.int z), .val (.int wv), .unset, .unset, .unset, .unset] [(.int (2 : Int32)), (.int n)])) (fun _ kk => XS.iconst X0.here hx rfl (hb hby at_75) kk) ?_
      by_cases hc19 : n = (2 : Int32)
      · refine Go.st (S' := s₁.setTop (mkF m 79 #[.val (.int p0), .val (.int p1), .val (.int p2), .val (.int p3), .val (.int p4), .val (.int n), .val (.int x), .val (.int y), .val (.int z), .val (.int wv), .unset, .unset, .unset, .unset] [])) (fun _ kk => XS.icmpNo X0.here hx rfl (hb hby at_76) rfl (teq hc19).2 kk) ?_
        refine Go.st (S' := s₁.setTop (mkF m 80 #[.val (.int p0), .val (.int p1), .val (.int p2), .val (.int p3), .val (.int p4), .val (.int n), .val (.int x), .val (.int y), .val (.int z), .val (.int wv), .unset, .unset, .unset, .unset] [(.int (2 : Int32))])) (fun _ kk => XS.iconst X0.here hx rfl (hb hby at_79) kk) ?_
        obtain ⟨T20, h20, k20, X20, e20, E20, A20, E_b20, st20⟩ := newPE X0 hx hZ (hw _ (List.mem_of_getElem? (i := 1) rfl)) e0 (g := (mkF m 80 #[.val (.int p0), .val (.int p1), .val (.int p2), .val (.int p3), .val (.int p4), .val (.int n), .val (.int x), .val (.int y), .val (.int z), .val (.int wv), .unset, .unset, .unset, .unset] [(.int (2 : Int32))])) rfl (hb hby at_80) rfl (by decide) (cap := 2) (by decide) (by decide) (by decide : 0 + 1 ≤ _) (by decide : 0 + 2 ≤ _) (ad := "[I") rfl
        obtain ⟨b20, g20⟩ : ∃ z, z = h0.size := ⟨_, rfl⟩
        rw [← g20] at A20 E_b20 st20
        have g_b20 : n0 ≤ b20 := Nat.le_trans Z0 (Nat.le_of_eq g20.symm)
        have Zs21 := Nat.le_trans Z0 E20.1
        have V_b20 : Arv Z h20 b20 k20 .int (2 : Int32) [(.int (0 : Int32)), (.int (0 : Int32))] (.int (0 : Int32)) := (Arv.new A20 (by decide)).pad (pad_rep [] (.int (0 : Int32)) 2)
        refine Go.st (S' := T20.setTop (mkF m 82 #[.val (.int p0), .val (.int p1), .val (.int p2), .val (.int p3), .val (.int p4), .val (.int n), .val (.int x), .val (.int y), .val (.int z), .val (.int wv), .unset, .unset, .unset, .unset] [(.ref b20)])) st20 ?_
        refine Go.st (S' := T20.setTop (mkF m 83 #[.val (.int p0), .val (.int p1), .val (.int p2), .val (.int p3), .val (.int p4), .val (.int n), .val (.int x), .val (.int y), .val (.int z), .val (.int wv), .unset, .unset, .unset, .unset] [(.ref b20), (.ref b20)])) (fun _ kk => XS.dup X20.here hx rfl (hb hby at_82) rfl rfl kk) ?_
        refine Go.st (S' := T20.setTop (mkF m 84 #[.val (.int p0), .val (.int p1), .val (.int p2), .val (.int p3), .val (.int p4), .val (.int n), .val (.int x), .val (.int y), .val (.int z), .val (.int wv), .unset, .unset, .unset, .unset] [(.int (0 : Int32)), (.ref b20), (.ref b20)])) (fun _ kk => XS.iconst X20.here hx rfl (hb hby at_83) kk) ?_
        refine Go.st (S' := T20.setTop (mkF m 86 #[.val (.int p0), .val (.int p1), .val (.int p2), .val (.int p3), .val (.int p4), .val (.int n), .val (.int x), .val (.int y), .val (.int z), .val (.int wv), .unset, .unset, .unset, .unset] [(.int x), (.int (0 : Int32)), (.ref b20), (.ref b20)])) (fun _ kk => XS.iload X20.here hx rfl (hb hby at_84) rfl kk) ?_
        obtain ⟨cl22, Ar22, q22, S22, Ng22, H22, G22⟩ := (id V_b20)
        have hin22 : ¬ ((0 : Int32) < 0 ∨ cl22.slots.size ≤ ((0 : Int32)).toNatClampNeg) := inb_of S22 ⟨by decide, by decide⟩
        obtain ⟨T22, h22, X22, e22, W22, st22⟩ := stI X20 hx hZ e20 Ar22 (j := (0 : Int32)) hin22 (g := (mkF m 86 #[.val (.int p0), .val (.int p1), .val (.int p2), .val (.int p3), .val (.int p4), .val (.int n), .val (.int x), .val (.int y), .val (.int z), .val (.int wv), .unset, .unset, .unset, .unset] [(.int x), (.int (0 : Int32)), (.ref b20), (.ref b20)])) rfl rfl (hb hby at_86)
        have V_b20 : Arv Z h22 b20 k20 .int (2 : Int32) [(.int x), (.int (0 : Int32))] (.int (0 : Int32)) := Arv.set Ar22 q22 S22 Ng22 H22 G22 rfl W22 0 rfl (Nat.le_of_ble_eq_true rfl)
        have N22 := Fr.snoc X22 N0 g_b20
        have E_b20 := E_b20.wr W22
        have Zs23 := Nat.le_trans Zs21 (Keep.of_wr W22).1
        refine Go.st (S' := T22.setTop (mkF m 87 #[.val (.int p0), .val (.int p1), .val (.int p2), .val (.int p3), .val (.int p4), .val (.int n), .val (.int x), .val (.int y), .val (.int z), .val (.int wv), .unset, .unset, .unset, .unset] [(.ref b20)])) st22 ?_
        refine Go.st (S' := T22.setTop (mkF m 88 #[.val (.int p0), .val (.int p1), .val (.int p2), .val (.int p3), .val (.int p4), .val (.int n), .val (.int x), .val (.int y), .val (.int z), .val (.int wv), .unset, .unset, .unset, .unset] [(.ref b20), (.ref b20)])) (fun _ kk => XS.dup X22.here hx rfl (hb hby at_87) rfl rfl kk) ?_
        refine Go.st (S' := T22.setTop (mkF m 89 #[.val (.int p0), .val (.int p1), .val (.int p2), .val (.int p3), .val (.int p4), .val (.int n), .val (.int x), .val (.int y), .val (.int z), .val (.int wv), .unset, .unset, .unset, .unset] [(.int (1 : Int32)), (.ref b20), (.ref b20)])) (fun _ kk => XS.iconst X22.here hx rfl (hb hby at_88) kk) ?_
        refine Go.st (S' := T22.setTop (mkF m 91 #[.val (.int p0), .val (.int p1), .val (.int p2), .val (.int p3), .val (.int p4), .val (.int n), .val (.int x), .val (.int y), .val (.int z), .val (.int wv), .unset, .unset, .unset, .unset] [(.int y), (.int (1 : Int32)), (.ref b20), (.ref b20)])) (fun _ kk => XS.iload X22.here hx rfl (hb hby at_89) rfl kk) ?_
        obtain ⟨cl24, Ar24, q24, S24, Ng24, H24, G24⟩ := (id V_b20)
        have hin24 : ¬ ((1 : Int32) < 0 ∨ cl24.slots.size ≤ ((1 : Int32)).toNatClampNeg) := inb_of S24 ⟨by decide, by decide⟩
        obtain ⟨T24, h24, X24, e24, W24, st24⟩ := stI X22 hx hZ e22 Ar24 (j := (1 : Int32)) hin24 (g := (mkF m 91 #[.val (.int p0), .val (.int p1), .val (.int p2), .val (.int p3), .val (.int p4), .val (.int n), .val (.int x), .val (.int y), .val (.int z), .val (.int wv), .unset, .unset, .unset, .unset] [(.int y), (.int (1 : Int32)), (.ref b20), (.ref b20)])) rfl rfl (hb hby at_91)
        have V_b20 : Arv Z h24 b20 k20 .int (2 : Int32) [(.int x), (.int y)] (.int (0 : Int32)) := Arv.set Ar24 q24 S24 Ng24 H24 G24 rfl W24 1 rfl (Nat.le_of_ble_eq_true rfl)
        have N24 := Fr.snoc X24 N22 g_b20
        have E_b20 := E_b20.wr W24
        have Zs25 := Nat.le_trans Zs23 (Keep.of_wr W24).1
        refine Go.st (S' := T24.setTop (mkF m 92 #[.val (.int p0), .val (.int p1), .val (.int p2), .val (.int p3), .val (.int p4), .val (.int n), .val (.int x), .val (.int y), .val (.int z), .val (.int wv), .unset, .unset, .unset, .unset] [(.ref b20)])) st24 ?_
        refine Go.st (S' := T24.setTop (mkF m 94 #[.val (.int p0), .val (.int p1), .val (.int p2), .val (.int p3), .val (.int p4), .val (.int n), .val (.int x), .val (.int y), .val (.int z), .val (.int wv), .val (.ref b20), .unset, .unset, .unset] [])) (fun _ kk => XS.astore X24.here hx rfl (hb hby at_92) rfl rfl (l' := #[.val (.int p0), .val (.int p1), .val (.int p2), .val (.int p3), .val (.int p4), .val (.int n), .val (.int x), .val (.int y), .val (.int z), .val (.int wv), .val (.ref b20), .unset, .unset, .unset]) rfl kk) ?_
        refine Go.st (S' := T24.setTop (mkF m 96 #[.val (.int p0), .val (.int p1), .val (.int p2), .val (.int p3), .val (.int p4), .val (.int n), .val (.int x), .val (.int y), .val (.int z), .val (.int wv), .val (.ref b20), .unset, .unset, .unset] [(.int x)])) (fun _ kk => XS.iload X24.here hx rfl (hb hby at_94) rfl kk) ?_
        refine Go.st (S' := T24.setTop (mkF m 97 #[.val (.int p0), .val (.int p1), .val (.int p2), .val (.int p3), .val (.int p4), .val (.int n), .val (.int x), .val (.int y), .val (.int z), .val (.int wv), .val (.ref b20), .unset, .unset, .unset] [(.long (x.toInt64))])) (fun _ kk => XS.i2l X24.here hx rfl (hb hby at_96) rfl kk) ?_
        refine Go.st (S' := T24.setTop (mkF m 99 #[.val (.int p0), .val (.int p1), .val (.int p2), .val (.int p3), .val (.int p4), .val (.int n), .val (.int x), .val (.int y), .val (.int z), .val (.int wv), .val (.ref b20), .unset, .unset, .unset] [(.int y), (.long (x.toInt64))])) (fun _ kk => XS.iload X24.here hx rfl (hb hby at_97) rfl kk) ?_
        refine Go.st (S' := T24.setTop (mkF m 100 #[.val (.int p0), .val (.int p1), .val (.int p2), .val (.int p3), .val (.int p4), .val (.int n), .val (.int x), .val (.int y), .val (.int z), .val (.int wv), .val (.ref b20), .unset, .unset, .unset] [(.long (y.toInt64)), (.long (x.toInt64))])) (fun _ kk => XS.i2l X24.here hx rfl (hb hby at_99) rfl kk) ?_
        refine Go.st (S' := T24.setTop (mkF m 101 #[.val (.int p0), .val (.int p1), .val (.int p2), .val (.int p3), .val (.int p4), .val (.int n), .val (.int x), .val (.int y), .val (.int z), .val (.int wv), .val (.ref b20), .unset, .unset, .unset] [(.long ((x.toInt64) + (y.toInt64)))])) (fun _ kk => XS.ladd X24.here hx rfl (hb hby at_100) rfl kk) ?_
        refine Go.st (S' := T24.setTop (mkF m 103 #[.val (.int p0), .val (.int p1), .val (.int p2), .val (.int p3), .val (.int p4), .val (.int n), .val (.int x), .val (.int y), .val (.int z), .val (.int wv), .val (.ref b20), .val (.long ((x.toInt64) + (y.toInt64))), .second, .unset] [])) (fun _ kk => XS.lstore X24.here hx rfl (hb hby at_101) rfl (l' := #[.val (.int p0), .val (.int p1), .val (.int p2), .val (.int p3), .val (.int p4), .val (.int n), .val (.int x), .val (.int y), .val (.int z), .val (.int wv), .val (.ref b20), .val (.long ((x.toInt64) + (y.toInt64))), .second, .unset]) rfl kk) ?_
        refine Go.st (S' := T24.setTop (mkF m 190 #[.val (.int p0), .val (.int p1), .val (.int p2), .val (.int p3), .val (.int p4), .val (.int n), .val (.int x), .val (.int y), .val (.int z), .val (.int wv), .val (.ref b20), .val (.long ((x.toInt64) + (y.toInt64))), .second, .unset] [])) (fun _ kk => XS.goto X24.here hx rfl (pc0 := 103) (pc' := 190) rfl (hb hby at_103) (by decide) (by decide) kk) ?_
        obtain ⟨T26, h26, X26, e26, E26, A26, D26, -, st26⟩ := newO X24 hx hZ hown (hw _ (List.mem_of_getElem? (i := 2) rfl)) (hw _ (List.mem_of_getElem? (i := 3) rfl)) (hw _ (List.mem_of_getElem? (i := 4) rfl)) e24 (g := (mkF m 190 #[.val (.int p0), .val (.int p1), .val (.int p2), .val (.int p3), .val (.int p4), .val (.int n), .val (.int x), .val (.int y), .val (.int z), .val (.int wv), .val (.ref b20), .val (.long ((x.toInt64) + (y.toInt64))), .second, .unset] [])) rfl (hb hby at_190) (by decide : 1 + 1 ≤ _) (by decide : 2 + 1 ≤ _)
        obtain ⟨b26, g26⟩ : ∃ z, z = h24.size := ⟨_, rfl⟩
        rw [← g26] at A26 D26 st26
        have ne_b20_b26 : b20 ≠ b26 := Nat.ne_of_lt (Nat.lt_of_lt_of_le E_b20.lt (Nat.le_of_eq g26.symm))
        have g_b26 : n0 ≤ b26 := Nat.le_trans Zs25 (Nat.le_of_eq g26.symm)
        have E_b20 := E_b20.ext E26
        have V_b20 := V_b20.ext E26
        have Zs27 := Nat.le_trans Zs25 E26.1
        have E_b26 := A26
        have F_counts_b26 : Fld Z h26 b26 "com/example/patient_snoop/patientsnoop/model/Configuration" "counts" "[I" .null := D26 (Or.inr (hw _ (List.mem_of_getElem? (i := 21) rfl))) (ty := (.array .int)) (by decide)
        refine Go.st (S' := T26.setTop (mkF m 193 #[.val (.int p0), .val (.int p1), .val (.int p2), .val (.int p3), .val (.int p4), .val (.int n), .val (.int x), .val (.int y), .val (.int z), .val (.int wv), .val (.ref b20), .val (.long ((x.toInt64) + (y.toInt64))), .second, .unset] [(.ref b26)])) st26 ?_
        refine Go.st (S' := T26.setTop (mkF m 194 #[.val (.int p0), .val (.int p1), .val (.int p2), .val (.int p3), .val (.int p4), .val (.int n), .val (.int x), .val (.int y), .val (.int z), .val (.int wv), .val (.ref b20), .val (.long ((x.toInt64) + (y.toInt64))), .second, .unset] [(.ref b26), (.ref b26)])) (fun _ kk => XS.dup X26.here hx rfl (hb hby at_193) rfl rfl kk) ?_
        refine Go.st (S' := T26.setTop (mkF m 196 #[.val (.int p0), .val (.int p1), .val (.int p2), .val (.int p3), .val (.int p4), .val (.int n), .val (.int x), .val (.int y), .val (.int z), .val (.int wv), .val (.ref b20), .val (.long ((x.toInt64) + (y.toInt64))), .second, .unset] [(.ref b20), (.ref b26), (.ref b26)])) (fun _ kk => XS.aload X26.here hx rfl (hb hby at_194) rfl rfl kk) ?_
        obtain ⟨_, _, ⟨T28, L28, k28, n28⟩, -, X28, ⟨Lc28, hQ28, l28, y28, z28⟩, st28⟩ := X26.specialBack hx (y := (⟨"com/example/patient_snoop/patientsnoop/model/Configuration", "<init>", "([I)V"⟩ : MethodName)) rfl hown (mvT hZ (hw _ (List.mem_of_getElem? (i := 5) rfl))) (mvT hZ (hw _ (List.mem_of_getElem? (i := 6) rfl))) (mvT hZ (hw _ (List.mem_of_getElem? (i := 7) rfl))) (by decide) (backOf (W := 1) (rmC2 l Z az hw [] b26 b20 x y k20 h26 n0 Zs27 E_b26 g_b26 F_counts_b26 E_b20 V_b20 hn_x hn_y) hZ (hw _ (List.mem_of_getElem? (i := 7) rfl)) (hw _ (List.mem_of_getElem? (i := 4) rfl)) (by decide) (by decide)) (g := (mkF m 196 #[.val (.int p0), .val (.int p1), .val (.int p2), .val (.int p3), .val (.int p4), .val (.int n), .val (.int x), .val (.int y), .val (.int z), .val (.int wv), .val (.ref b20), .val (.long ((x.toInt64) + (y.toInt64))), .second, .unset] [(.ref b20), (.ref b26), (.ref b26)])) rfl (by rw [hml]; rfl) (Steps.refl _) (a := b26) (argsL := [(.ref b20)]) (rest := [(.ref b26)]) (lenOf pd_0 rfl) rfl (by show 2 * 0 + _ ≤ _; exact Nat.le_of_eq rfl) (hb hby at_196) (fun _ _ => ⟨rfl, e26, (by decide : 2 + 1 ≤ _), (by decide : 3 + 2 ≤ _)⟩)
        dsimp only [Pt.U, Pt.locs, Pt.cells, Pt.slots] at X28 l28 y28 z28 st28 hQ28
        subst l28 y28 z28
        obtain ⟨t28, rfl, N28q, K28, Ec28, Fc28, Vc28, sz28⟩ := hQ28
        have N28 := Fr.app N24 N28q
        have E_b20 := E_b20.keep K28
        have V_b20 := V_b20.keep K28 (ninS ne_b20_b26 nin0)
        have E_b26 := E_b26.keep K28
        have Zs29 := Nat.le_trans Zs27 K28.1
        refine Go.tr (S' := T28.setTop (mkF m 199 #[.val (.int p0), .val (.int p1), .val (.int p2), .val (.int p3), .val (.int p4), .val (.int n), .val (.int x), .val (.int y), .val (.int z), .val (.int wv), .val (.ref b20), .val (.long ((x.toInt64) + (y.toInt64))), .second, .unset] [(.ref b26)])) st28 ?_
        refine Go.st (S' := T28.setTop (mkF m 201 #[.val (.int p0), .val (.int p1), .val (.int p2), .val (.int p3), .val (.int p4), .val (.int n), .val (.int x), .val (.int y), .val (.int z), .val (.int wv), .val (.ref b20), .val (.long ((x.toInt64) + (y.toInt64))), .second, .val (.ref b26)] [])) (fun _ kk => XS.astore X28.here hx rfl (hb hby at_199) rfl rfl (l' := #[.val (.int p0), .val (.int p1), .val (.int p2), .val (.int p3), .val (.int p4), .val (.int n), .val (.int x), .val (.int y), .val (.int z), .val (.int wv), .val (.ref b20), .val (.long ((x.toInt64) + (y.toInt64))), .second, .val (.ref b26)]) rfl kk) ?_
        refine Go.st (S' := T28.setTop (mkF m 203 #[.val (.int p0), .val (.int p1), .val (.int p2), .val (.int p3), .val (.int p4), .val (.int n), .val (.int x), .val (.int y), .val (.int z), .val (.int wv), .val (.ref b20), .val (.long ((x.toInt64) + (y.toInt64))), .second, .val (.ref b26)] [(.ref b26)])) (fun _ kk => XS.aload X28.here hx rfl (hb hby at_201) rfl rfl kk) ?_
        obtain ⟨cq30, kq30, q30a, q30b, q30c⟩ := isOf hZ rfl E_b26
        obtain ⟨_, _, ⟨T30, L30, k30, n30⟩, -, X30, ⟨Lc30, hQ30, l30, y30, z30⟩, st30⟩ := X28.virtualBack hx (y := (⟨"com/example/patient_snoop/patientsnoop/model/Configuration", "caches", "()J"⟩ : MethodName)) (z := (⟨"com/example/patient_snoop/patientsnoop/model/Configuration", "caches", "()J"⟩ : MethodName)) hown (mvT hZ (hw _ (List.mem_of_getElem? (i := 22) rfl))) (mvT hZ (hw _ (List.mem_of_getElem? (i := 23) rfl))) (notFace_of_selects (args := #[]) (mvT hZ (hw _ (List.mem_of_getElem? (i := 25) rfl)))) (mvT hZ (hw _ (List.mem_of_getElem? (i := 25) rfl))) (mvT hZ (hw _ (List.mem_of_getElem? (i := 24) rfl))) (by decide) (backOf (W := 0) (rmS2 l Z az hw [] b26 t28 k20 x y T28.heap n0 Zs29 Fc28 Vc28) hZ (hw _ (List.mem_of_getElem? (i := 26) rfl)) (hw _ (List.mem_of_getElem? (i := 4) rfl)) (by decide) (by decide)) q30a q30c (g := (mkF m 203 #[.val (.int p0), .val (.int p1), .val (.int p2), .val (.int p3), .val (.int p4), .val (.int n), .val (.int x), .val (.int y), .val (.int z), .val (.int wv), .val (.ref b20), .val (.long ((x.toInt64) + (y.toInt64))), .second, .val (.ref b26)] [(.ref b26)])) rfl (by rw [hml]; rfl) (Steps.refl _) (argsL := []) (rest := []) (lenOf pd_3 rfl) rfl (by show 2 * 0 + _ ≤ _; exact Nat.le_of_eq rfl) (hb hby at_203) (fun _ _ => ⟨rfl, rfl, (by decide : 3 + 0 ≤ _), (by decide : 5 + 0 ≤ _)⟩)
        dsimp only [Pt.U, Pt.locs, Pt.cells, Pt.slots] at X30 l30 y30 z30 st30 hQ30
        subst l30 y30 z30
        obtain ⟨hv30, N30q, e30⟩ := hQ30
        subst hv30
        have N30 := Fr.app N28 N30q
        refine Go.tr (S' := T30.setTop (mkF m 206 #[.val (.int p0), .val (.int p1), .val (.int p2), .val (.int p3), .val (.int p4), .val (.int n), .val (.int x), .val (.int y), .val (.int z), .val (.int wv), .val (.ref b20), .val (.long ((x.toInt64) + (y.toInt64))), .second, .val (.ref b26)] [(.long (fS2 x y))])) st30 ?_
        refine Go.st (S' := T30.setTop (mkF m 208 #[.val (.int p0), .val (.int p1), .val (.int p2), .val (.int p3), .val (.int p4), .val (.int n), .val (.int x), .val (.int y), .val (.int z), .val (.int wv), .val (.ref b20), .val (.long ((x.toInt64) + (y.toInt64))), .second, .val (.ref b26)] [(.long ((x.toInt64) + (y.toInt64))), (.long (fS2 x y))])) (fun _ kk => XS.lload X30.here hx rfl (hb hby at_206) rfl kk) ?_
        have hsum : (fS2 x y) = ((x.toInt64) + (y.toInt64)) := by unfold fS2; rw [Int64.zero_add]
        refine Go.st (S' := T30.setTop (mkF m 209 #[.val (.int p0), .val (.int p1), .val (.int p2), .val (.int p3), .val (.int p4), .val (.int n), .val (.int x), .val (.int y), .val (.int z), .val (.int wv), .val (.ref b20), .val (.long ((x.toInt64) + (y.toInt64))), .second, .val (.ref b26)] [(.int (lcmpW (fS2 x y) ((x.toInt64) + (y.toInt64))))])) (fun _ kk => XS.lcmp X30.here hx rfl (hb hby at_208) rfl kk) ?_
        refine Go.st (S' := T30.setTop (mkF m 212 #[.val (.int p0), .val (.int p1), .val (.int p2), .val (.int p3), .val (.int p4), .val (.int n), .val (.int x), .val (.int y), .val (.int z), .val (.int wv), .val (.ref b20), .val (.long ((x.toInt64) + (y.toInt64))), .second, .val (.ref b26)] [])) (fun _ kk => XS.ifNo X30.here hx rfl (hb hby at_209) rfl ((if0 _ _).trans (teq ((lw_eq (fS2 x y) ((x.toInt64) + (y.toInt64))).mpr hsum)).2) kk) ?_
        refine Go.st (S' := T30.setTop (mkF m 213 #[.val (.int p0), .val (.int p1), .val (.int p2), .val (.int p3), .val (.int p4), .val (.int n), .val (.int x), .val (.int y), .val (.int z), .val (.int wv), .val (.ref b20), .val (.long ((x.toInt64) + (y.toInt64))), .second, .val (.ref b26)] [(.int (1 : Int32))])) (fun _ kk => XS.iconst X30.here hx rfl (hb hby at_212) kk) ?_
        refine Go.st (S' := T30.setTop (mkF m 217 #[.val (.int p0), .val (.int p1), .val (.int p2), .val (.int p3), .val (.int p4), .val (.int n), .val (.int x), .val (.int y), .val (.int z), .val (.int wv), .val (.ref b20), .val (.long ((x.toInt64) + (y.toInt64))), .second, .val (.ref b26)] [(.int (1 : Int32))])) (fun _ kk => XS.goto X30.here hx rfl (pc0 := 213) (pc' := 217) rfl (hb hby at_213) (by decide) (by decide) kk) ?_
        exact Go.retN X30 hx hlk (t := .boolean) Bd.returns (by simp) (hb hby at_217) (⟨rfl, N30⟩) (by decide) (by decide)
      · refine Go.st (S' := s₁.setTop (mkF m 106 #[.val (.int p0), .val (.int p1), .val (.int p2), .val (.int p3), .val (.int p4), .val (.int n), .val (.int x), .val (.int y), .val (.int z), .val (.int wv), .unset, .unset, .unset, .unset] [])) (fun _ kk => XS.icmpYes X0.here hx rfl (pc0 := 76) (pc' := 106) rfl (hb hby at_76) rfl (feq hc19).2 (by decide) (by decide) kk) ?_
        refine Go.st (S' := s₁.setTop (mkF m 108 #[.val (.int p0), .val (.int p1), .val (.int p2), .val (.int p3), .val (.int p4), .val (.int n), .val (.int x), .val (.int y), .val (.int z), .val (.int wv), .unset, .unset, .unset, .unset] [(.int n)])) (fun _ kk => XS.iload X0.here hx rfl (hb hby at_106) rfl kk) ?_
        refine Go.st (S' := s₁.setTop (mkF m 109 #[.val (.int p0), .val (.int p1), .val (.int p2), .val (.int p3), .val (.int p4), .val (.int n), .val (.int x), .val (.int y), .val (.int z), .val (.int wv), .unset, .unset, .unset, .unset] [(.int (3 : Int32)), (.int n)])) (fun _ kk => XS.iconst X0.here hx rfl (hb hby at_108) kk) ?_
        by_cases hc31 : n = (3 : Int32)
        · refine Go.st (S' := s₁.setTop (mkF m 112 #[.val (.int p0), .val (.int p1), .val (.int p2), .val (.int p3), .val (.int p4), .val (.int n), .val (.int x), .val (.int y), .val (.int z), .val (.int wv), .unset, .unset, .unset, .unset] [])) (fun _ kk => XS.icmpNo X0.here hx rfl (hb hby at_109) rfl (teq hc31).2 kk) ?_
          refine Go.st (S' := s₁.setTop (mkF m 113 #[.val (.int p0), .val (.int p1), .val (.int p2), .val (.int p3), .val (.int p4), .val (.int n), .val (.int x), .val (.int y), .val (.int z), .val (.int wv), .unset, .unset, .unset, .unset] [(.int (3 : Int32))])) (fun _ kk => XS.iconst X0.here hx rfl (hb hby at_112) kk) ?_
          obtain ⟨T32, h32, k32, X32, e32, E32, A32, E_b32, st32⟩ := newPE X0 hx hZ (hw _ (List.mem_of_getElem? (i := 1) rfl)) e0 (g := (mkF m 113 #[.val (.int p0), .val (.int p1), .val (.int p2), .val (.int p3), .val (.int p4), .val (.int n), .val (.int x), .val (.int y), .val (.int z), .val (.int wv), .unset, .unset, .unset, .unset] [(.int (3 : Int32))])) rfl (hb hby at_113) rfl (by decide) (cap := 3) (by decide) (by decide) (by decide : 0 + 1 ≤ _) (by decide : 0 + 3 ≤ _) (ad := "[I") rfl
          obtain ⟨b32, g32⟩ : ∃ z, z = h0.size := ⟨_, rfl⟩
          rw [← g32] at A32 E_b32 st32
          have g_b32 : n0 ≤ b32 := Nat.le_trans Z0 (Nat.le_of_eq g32.symm)
          have Zs33 := Nat.le_trans Z0 E32.1
          have V_b32 : Arv Z h32 b32 k32 .int (3 : Int32) [(.int (0 : Int32)), (.int (0 : Int32)), (.int (0 : Int32))] (.int (0 : Int32)) := (Arv.new A32 (by decide)).pad (pad_rep [] (.int (0 : Int32)) 3)
          refine Go.st (S' := T32.setTop (mkF m 115 #[.val (.int p0), .val (.int p1), .val (.int p2), .val (.int p3), .val (.int p4), .val (.int n), .val (.int x), .val (.int y), .val (.int z), .val (.int wv), .unset, .unset, .unset, .unset] [(.ref b32)])) st32 ?_
          refine Go.st (S' := T32.setTop (mkF m 116 #[.val (.int p0), .val (.int p1), .val (.int p2), .val (.int p3), .val (.int p4), .val (.int n), .val (.int x), .val (.int y), .val (.int z), .val (.int wv), .unset, .unset, .unset, .unset] [(.ref b32), (.ref b32)])) (fun _ kk => XS.dup X32.here hx rfl (hb hby at_115) rfl rfl kk) ?_
          refine Go.st (S' := T32.setTop (mkF m 117 #[.val (.int p0), .val (.int p1), .val (.int p2), .val (.int p3), .val (.int p4), .val (.int n), .val (.int x), .val (.int y), .val (.int z), .val (.int wv), .unset, .unset, .unset, .unset] [(.int (0 : Int32)), (.ref b32), (.ref b32)])) (fun _ kk => XS.iconst X32.here hx rfl (hb hby at_116) kk) ?_
          refine Go.st (S' := T32.setTop (mkF m 119 #[.val (.int p0), .val (.int p1), .val (.int p2), .val (.int p3), .val (.int p4), .val (.int n), .val (.int x), .val (.int y), .val (.int z), .val (.int wv), .unset, .unset, .unset, .unset] [(.int x), (.int (0 : Int32)), (.ref b32), (.ref b32)])) (fun _ kk => XS.iload X32.here hx rfl (hb hby at_117) rfl kk) ?_
          obtain ⟨cl34, Ar34, q34, S34, Ng34, H34, G34⟩ := (id V_b32)
          have hin34 : ¬ ((0 : Int32) < 0 ∨ cl34.slots.size ≤ ((0 : Int32)).toNatClampNeg) := inb_of S34 ⟨by decide, by decide⟩
          obtain ⟨T34, h34, X34, e34, W34, st34⟩ := stI X32 hx hZ e32 Ar34 (j := (0 : Int32)) hin34 (g := (mkF m 119 #[.val (.int p0), .val (.int p1), .val (.int p2), .val (.int p3), .val (.int p4), .val (.int n), .val (.int x), .val (.int y), .val (.int z), .val (.int wv), .unset, .unset, .unset, .unset] [(.int x), (.int (0 : Int32)), (.ref b32), (.ref b32)])) rfl rfl (hb hby at_119)
          have V_b32 : Arv Z h34 b32 k32 .int (3 : Int32) [(.int x), (.int (0 : Int32)), (.int (0 : Int32))] (.int (0 : Int32)) := Arv.set Ar34 q34 S34 Ng34 H34 G34 rfl W34 0 rfl (Nat.le_of_ble_eq_true rfl)
          have N34 := Fr.snoc X34 N0 g_b32
          have E_b32 := E_b32.wr W34
          have Zs35 := Nat.le_trans Zs33 (Keep.of_wr W34).1
          refine Go.st (S' := T34.setTop (mkF m 120 #[.val (.int p0), .val (.int p1), .val (.int p2), .val (.int p3), .val (.int p4), .val (.int n), .val (.int x), .val (.int y), .val (.int z), .val (.int wv), .unset, .unset, .unset, .unset] [(.ref b32)])) st34 ?_
          refine Go.st (S' := T34.setTop (mkF m 121 #[.val (.int p0), .val (.int p1), .val (.int p2), .val (.int p3), .val (.int p4), .val (.int n), .val (.int x), .val (.int y), .val (.int z), .val (.int wv), .unset, .unset, .unset, .unset] [(.ref b32), (.ref b32)])) (fun _ kk => XS.dup X34.here hx rfl (hb hby at_120) rfl rfl kk) ?_
          refine Go.st (S' := T34.setTop (mkF m 122 #[.val (.int p0), .val (.int p1), .val (.int p2), .val (.int p3), .val (.int p4), .val (.int n), .val (.int x), .val (.int y), .val (.int z), .val (.int wv), .unset, .unset, .unset, .unset] [(.int (1 : Int32)), (.ref b32), (.ref b32)])) (fun _ kk => XS.iconst X34.here hx rfl (hb hby at_121) kk) ?_
          refine Go.st (S' := T34.setTop (mkF m 124 #[.val (.int p0), .val (.int p1), .val (.int p2), .val (.int p3), .val (.int p4), .val (.int n), .val (.int x), .val (.int y), .val (.int z), .val (.int wv), .unset, .unset, .unset, .unset] [(.int y), (.int (1 : Int32)), (.ref b32), (.ref b32)])) (fun _ kk => XS.iload X34.here hx rfl (hb hby at_122) rfl kk) ?_
          obtain ⟨cl36, Ar36, q36, S36, Ng36, H36, G36⟩ := (id V_b32)
          have hin36 : ¬ ((1 : Int32) < 0 ∨ cl36.slots.size ≤ ((1 : Int32)).toNatClampNeg) := inb_of S36 ⟨by decide, by decide⟩
          obtain ⟨T36, h36, X36, e36, W36, st36⟩ := stI X34 hx hZ e34 Ar36 (j := (1 : Int32)) hin36 (g := (mkF m 124 #[.val (.int p0), .val (.int p1), .val (.int p2), .val (.int p3), .val (.int p4), .val (.int n), .val (.int x), .val (.int y), .val (.int z), .val (.int wv), .unset, .unset, .unset, .unset] [(.int y), (.int (1 : Int32)), (.ref b32), (.ref b32)])) rfl rfl (hb hby at_124)
          have V_b32 : Arv Z h36 b32 k32 .int (3 : Int32) [(.int x), (.int y), (.int (0 : Int32))] (.int (0 : Int32)) := Arv.set Ar36 q36 S36 Ng36 H36 G36 rfl W36 1 rfl (Nat.le_of_ble_eq_true rfl)
          have N36 := Fr.snoc X36 N34 g_b32
          have E_b32 := E_b32.wr W36
          have Zs37 := Nat.le_trans Zs35 (Keep.of_wr W36).1
          refine Go.st (S' := T36.setTop (mkF m 125 #[.val (.int p0), .val (.int p1), .val (.int p2), .val (.int p3), .val (.int p4), .val (.int n), .val (.int x), .val (.int y), .val (.int z), .val (.int wv), .unset, .unset, .unset, .unset] [(.ref b32)])) st36 ?_
          refine Go.st (S' := T36.setTop (mkF m 126 #[.val (.int p0), .val (.int p1), .val (.int p2), .val (.int p3), .val (.int p4), .val (.int n), .val (.int x), .val (.int y), .val (.int z), .val (.int wv), .unset, .unset, .unset, .unset] [(.ref b32), (.ref b32)])) (fun _ kk => XS.dup X36.here hx rfl (hb hby at_125) rfl rfl kk) ?_
          refine Go.st (S' := T36.setTop (mkF m 127 #[.val (.int p0), .val (.int p1), .val (.int p2), .val (.int p3), .val (.int p4), .val (.int n), .val (.int x), .val (.int y), .val (.int z), .val (.int wv), .unset, .unset, .unset, .unset] [(.int (2 : Int32)), (.ref b32), (.ref b32)])) (fun _ kk => XS.iconst X36.here hx rfl (hb hby at_126) kk) ?_
          refine Go.st (S' := T36.setTop (mkF m 129 #[.val (.int p0), .val (.int p1), .val (.int p2), .val (.int p3), .val (.int p4), .val (.int n), .val (.int x), .val (.int y), .val (.int z), .val (.int wv), .unset, .unset, .unset, .unset] [(.int z), (.int (2 : Int32)), (.ref b32), (.ref b32)])) (fun _ kk => XS.iload X36.here hx rfl (hb hby at_127) rfl kk) ?_
          obtain ⟨cl38, Ar38, q38, S38, Ng38, H38, G38⟩ := (id V_b32)
          have hin38 : ¬ ((2 : Int32) < 0 ∨ cl38.slots.size ≤ ((2 : Int32)).toNatClampNeg) := inb_of S38 ⟨by decide, by decide⟩
          obtain ⟨T38, h38, X38, e38, W38, st38⟩ := stI X36 hx hZ e36 Ar38 (j := (2 : Int32)) hin38 (g := (mkF m 129 #[.val (.int p0), .val (.int p1), .val (.int p2), .val (.int p3), .val (.int p4), .val (.int n), .val (.int x), .val (.int y), .val (.int z), .val (.int wv), .unset, .unset, .unset, .unset] [(.int z), (.int (2 : Int32)), (.ref b32), (.ref b32)])) rfl rfl (hb hby at_129)
          have V_b32 : Arv Z h38 b32 k32 .int (3 : Int32) [(.int x), (.int y), (.int z)] (.int (0 : Int32)) := Arv.set Ar38 q38 S38 Ng38 H38 G38 rfl W38 2 rfl (Nat.le_of_ble_eq_true rfl)
          have N38 := Fr.snoc X38 N36 g_b32
          have E_b32 := E_b32.wr W38
          have Zs39 := Nat.le_trans Zs37 (Keep.of_wr W38).1
          refine Go.st (S' := T38.setTop (mkF m 130 #[.val (.int p0), .val (.int p1), .val (.int p2), .val (.int p3), .val (.int p4), .val (.int n), .val (.int x), .val (.int y), .val (.int z), .val (.int wv), .unset, .unset, .unset, .unset] [(.ref b32)])) st38 ?_
          refine Go.st (S' := T38.setTop (mkF m 132 #[.val (.int p0), .val (.int p1), .val (.int p2), .val (.int p3), .val (.int p4), .val (.int n), .val (.int x), .val (.int y), .val (.int z), .val (.int wv), .val (.ref b32), .unset, .unset, .unset] [])) (fun _ kk => XS.astore X38.here hx rfl (hb hby at_130) rfl rfl (l' := #[.val (.int p0), .val (.int p1), .val (.int p2), .val (.int p3), .val (.int p4), .val (.int n), .val (.int x), .val (.int y), .val (.int z), .val (.int wv), .val (.ref b32), .unset, .unset, .unset]) rfl kk) ?_
          refine Go.st (S' := T38.setTop (mkF m 134 #[.val (.int p0), .val (.int p1), .val (.int p2), .val (.int p3), .val (.int p4), .val (.int n), .val (.int x), .val (.int y), .val (.int z), .val (.int wv), .val (.ref b32), .unset, .unset, .unset] [(.int x)])) (fun _ kk => XS.iload X38.here hx rfl (hb hby at_132) rfl kk) ?_
          refine Go.st (S' := T38.setTop (mkF m 135 #[.val (.int p0), .val (.int p1), .val (.int p2), .val (.int p3), .val (.int p4), .val (.int n), .val (.int x), .val (.int y), .val (.int z), .val (.int wv), .val (.ref b32), .unset, .unset, .unset] [(.long (x.toInt64))])) (fun _ kk => XS.i2l X38.here hx rfl (hb hby at_134) rfl kk) ?_
          refine Go.st (S' := T38.setTop (mkF m 137 #[.val (.int p0), .val (.int p1), .val (.int p2), .val (.int p3), .val (.int p4), .val (.int n), .val (.int x), .val (.int y), .val (.int z), .val (.int wv), .val (.ref b32), .unset, .unset, .unset] [(.int y), (.long (x.toInt64))])) (fun _ kk => XS.iload X38.here hx rfl (hb hby at_135) rfl kk) ?_
          refine Go.st (S' := T38.setTop (mkF m 138 #[.val (.int p0), .val (.int p1), .val (.int p2), .val (.int p3), .val (.int p4), .val (.int n), .val (.int x), .val (.int y), .val (.int z), .val (.int wv), .val (.ref b32), .unset, .unset, .unset] [(.long (y.toInt64)), (.long (x.toInt64))])) (fun _ kk => XS.i2l X38.here hx rfl (hb hby at_137) rfl kk) ?_
          refine Go.st (S' := T38.setTop (mkF m 139 #[.val (.int p0), .val (.int p1), .val (.int p2), .val (.int p3), .val (.int p4), .val (.int n), .val (.int x), .val (.int y), .val (.int z), .val (.int wv), .val (.ref b32), .unset, .unset, .unset] [(.long ((x.toInt64) + (y.toInt64)))])) (fun _ kk => XS.ladd X38.here hx rfl (hb hby at_138) rfl kk) ?_
          refine Go.st (S' := T38.setTop (mkF m 141 #[.val (.int p0), .val (.int p1), .val (.int p2), .val (.int p3), .val (.int p4), .val (.int n), .val (.int x), .val (.int y), .val (.int z), .val (.int wv), .val (.ref b32), .unset, .unset, .unset] [(.int z), (.long ((x.toInt64) + (y.toInt64)))])) (fun _ kk => XS.iload X38.here hx rfl (hb hby at_139) rfl kk) ?_
          refine Go.st (S' := T38.setTop (mkF m 142 #[.val (.int p0), .val (.int p1), .val (.int p2), .val (.int p3), .val (.int p4), .val (.int n), .val (.int x), .val (.int y), .val (.int z), .val (.int wv), .val (.ref b32), .unset, .unset, .unset] [(.long (z.toInt64)), (.long ((x.toInt64) + (y.toInt64)))])) (fun _ kk => XS.i2l X38.here hx rfl (hb hby at_141) rfl kk) ?_
          refine Go.st (S' := T38.setTop (mkF m 143 #[.val (.int p0), .val (.int p1), .val (.int p2), .val (.int p3), .val (.int p4), .val (.int n), .val (.int x), .val (.int y), .val (.int z), .val (.int wv), .val (.ref b32), .unset, .unset, .unset] [(.long (((x.toInt64) + (y.toInt64)) + (z.toInt64)))])) (fun _ kk => XS.ladd X38.here hx rfl (hb hby at_142) rfl kk) ?_
          refine Go.st (S' := T38.setTop (mkF m 145 #[.val (.int p0), .val (.int p1), .val (.int p2), .val (.int p3), .val (.int p4), .val (.int n), .val (.int x), .val (.int y), .val (.int z), .val (.int wv), .val (.ref b32), .val (.long (((x.toInt64) + (y.toInt64)) + (z.toInt64))), .second, .unset] [])) (fun _ kk => XS.lstore X38.here hx rfl (hb hby at_143) rfl (l' := #[.val (.int p0), .val (.int p1), .val (.int p2), .val (.int p3), .val (.int p4), .val (.int n), .val (.int x), .val (.int y), .val (.int z), .val (.int wv), .val (.ref b32), .val (.long (((x.toInt64) + (y.toInt64)) + (z.toInt64))), .second, .unset]) rfl kk) ?_
          refine Go.st (S' := T38.setTop (mkF m 190 #[.val (.int p0), .val (.int p1), .val (.int p2), .val (.int p3), .val (.int p4), .val (.int n), .val (.int x), .val (.int y), .val (.int z), .val (.int wv), .val (.ref b32), .val (.long (((x.toInt64) + (y.toInt64)) + (z.toInt64))), .second, .unset] [])) (fun _ kk => XS.goto X38.here hx rfl (pc0 := 145) (pc' := 190) rfl (hb hby at_145) (by decide) (by decide) kk) ?_
          obtain ⟨T40, h40, X40, e40, E40, A40, D40, -, st40⟩ := newO X38 hx hZ hown (hw _ (List.mem_of_getElem? (i := 2) rfl)) (hw _ (List.mem_of_getElem? (i := 3) rfl)) (hw _ (List.mem_of_getElem? (i := 4) rfl)) e38 (g := (mkF m 190 #[.val (.int p0), .val (.int p1), .val (.int p2), .val (.int p3), .val (.int p4), .val (.int n), .val (.int x), .val (.int y), .val (.int z), .val (.int wv), .val (.ref b32), .val (.long (((x.toInt64) + (y.toInt64)) + (z.toInt64))), .second, .unset] [])) rfl (hb hby at_190) (by decide : 1 + 1 ≤ _) (by decide : 3 + 1 ≤ _)
          obtain ⟨b40, g40⟩ : ∃ z, z = h38.size := ⟨_, rfl⟩
          rw [← g40] at A40 D40 st40
          have ne_b32_b40 : b32 ≠ b40 := Nat.ne_of_lt (Nat.lt_of_lt_of_le E_b32.lt (Nat.le_of_eq g40.symm))
          have g_b40 : n0 ≤ b40 := Nat.le_trans Zs39 (Nat.le_of_eq g40.symm)
          have E_b32 := E_b32.ext E40
          have V_b32 := V_b32.ext E40
          have Zs41 := Nat.le_trans Zs39 E40.1
          have E_b40 := A40
          have F_counts_b40 : Fld Z h40 b40 "com/example/patient_snoop/patientsnoop/model/Configuration" "counts" "[I" .null := D40 (Or.inr (hw _ (List.mem_of_getElem? (i := 21) rfl))) (ty := (.array .int)) (by decide)
          refine Go.st (S' := T40.setTop (mkF m 193 #[.val (.int p0), .val (.int p1), .val (.int p2), .val (.int p3), .val (.int p4), .val (.int n), .val (.int x), .val (.int y), .val (.int z), .val (.int wv), .val (.ref b32), .val (.long (((x.toInt64) + (y.toInt64)) + (z.toInt64))), .second, .unset] [(.ref b40)])) st40 ?_
          refine Go.st (S' := T40.setTop (mkF m 194 #[.val (.int p0), .val (.int p1), .val (.int p2), .val (.int p3), .val (.int p4), .val (.int n), .val (.int x), .val (.int y), .val (.int z), .val (.int wv), .val (.ref b32), .val (.long (((x.toInt64) + (y.toInt64)) + (z.toInt64))), .second, .unset] [(.ref b40), (.ref b40)])) (fun _ kk => XS.dup X40.here hx rfl (hb hby at_193) rfl rfl kk) ?_
          refine Go.st (S' := T40.setTop (mkF m 196 #[.val (.int p0), .val (.int p1), .val (.int p2), .val (.int p3), .val (.int p4), .val (.int n), .val (.int x), .val (.int y), .val (.int z), .val (.int wv), .val (.ref b32), .val (.long (((x.toInt64) + (y.toInt64)) + (z.toInt64))), .second, .unset] [(.ref b32), (.ref b40), (.ref b40)])) (fun _ kk => XS.aload X40.here hx rfl (hb hby at_194) rfl rfl kk) ?_
          obtain ⟨_, _, ⟨T42, L42, k42, n42⟩, -, X42, ⟨Lc42, hQ42, l42, y42, z42⟩, st42⟩ := X40.specialBack hx (y := (⟨"com/example/patient_snoop/patientsnoop/model/Configuration", "<init>", "([I)V"⟩ : MethodName)) rfl hown (mvT hZ (hw _ (List.mem_of_getElem? (i := 5) rfl))) (mvT hZ (hw _ (List.mem_of_getElem? (i := 6) rfl))) (mvT hZ (hw _ (List.mem_of_getElem? (i := 7) rfl))) (by decide) (backOf (W := 1) (rmC3 l Z az hw [] b40 b32 x y z k32 h40 n0 Zs41 E_b40 g_b40 F_counts_b40 E_b32 V_b32 hn_x hn_y hn_z) hZ (hw _ (List.mem_of_getElem? (i := 7) rfl)) (hw _ (List.mem_of_getElem? (i := 4) rfl)) (by decide) (by decide)) (g := (mkF m 196 #[.val (.int p0), .val (.int p1), .val (.int p2), .val (.int p3), .val (.int p4), .val (.int n), .val (.int x), .val (.int y), .val (.int z), .val (.int wv), .val (.ref b32), .val (.long (((x.toInt64) + (y.toInt64)) + (z.toInt64))), .second, .unset] [(.ref b32), (.ref b40), (.ref b40)])) rfl (by rw [hml]; rfl) (Steps.refl _) (a := b40) (argsL := [(.ref b32)]) (rest := [(.ref b40)]) (lenOf pd_0 rfl) rfl (by show 2 * 0 + _ ≤ _; exact Nat.le_of_eq rfl) (hb hby at_196) (fun _ _ => ⟨rfl, e40, (by decide : 2 + 1 ≤ _), (by decide : 4 + 3 ≤ _)⟩)
          dsimp only [Pt.U, Pt.locs, Pt.cells, Pt.slots] at X42 l42 y42 z42 st42 hQ42
          subst l42 y42 z42
          obtain ⟨t42, rfl, N42q, K42, Ec42, Fc42, Vc42, sz42⟩ := hQ42
          have N42 := Fr.app N38 N42q
          have E_b32 := E_b32.keep K42
          have V_b32 := V_b32.keep K42 (ninS ne_b32_b40 nin0)
          have E_b40 := E_b40.keep K42
          have Zs43 := Nat.le_trans Zs41 K42.1
          refine Go.tr (S' := T42.setTop (mkF m 199 #[.val (.int p0), .val (.int p1), .val (.int p2), .val (.int p3), .val (.int p4), .val (.int n), .val (.int x), .val (.int y), .val (.int z), .val (.int wv), .val (.ref b32), .val (.long (((x.toInt64) + (y.toInt64)) + (z.toInt64))), .second, .unset] [(.ref b40)])) st42 ?_
          refine Go.st (S' := T42.setTop (mkF m 201 #[.val (.int p0), .val (.int p1), .val (.int p2), .val (.int p3), .val (.int p4), .val (.int n), .val (.int x), .val (.int y), .val (.int z), .val (.int wv), .val (.ref b32), .val (.long (((x.toInt64) + (y.toInt64)) + (z.toInt64))), .second, .val (.ref b40)] [])) (fun _ kk => XS.astore X42.here hx rfl (hb hby at_199) rfl rfl (l' := #[.val (.int p0), .val (.int p1), .val (.int p2), .val (.int p3), .val (.int p4), .val (.int n), .val (.int x), .val (.int y), .val (.int z), .val (.int wv), .val (.ref b32), .val (.long (((x.toInt64) + (y.toInt64)) + (z.toInt64))), .second, .val (.ref b40)]) rfl kk) ?_
          refine Go.st (S' := T42.setTop (mkF m 203 #[.val (.int p0), .val (.int p1), .val (.int p2), .val (.int p3), .val (.int p4), .val (.int n), .val (.int x), .val (.int y), .val (.int z), .val (.int wv), .val (.ref b32), .val (.long (((x.toInt64) + (y.toInt64)) + (z.toInt64))), .second, .val (.ref b40)] [(.ref b40)])) (fun _ kk => XS.aload X42.here hx rfl (hb hby at_201) rfl rfl kk) ?_
          obtain ⟨cq44, kq44, q44a, q44b, q44c⟩ := isOf hZ rfl E_b40
          obtain ⟨_, _, ⟨T44, L44, k44, n44⟩, -, X44, ⟨Lc44, hQ44, l44, y44, z44⟩, st44⟩ := X42.virtualBack hx (y := (⟨"com/example/patient_snoop/patientsnoop/model/Configuration", "caches", "()J"⟩ : MethodName)) (z := (⟨"com/example/patient_snoop/patientsnoop/model/Configuration", "caches", "()J"⟩ : MethodName)) hown (mvT hZ (hw _ (List.mem_of_getElem? (i := 22) rfl))) (mvT hZ (hw _ (List.mem_of_getElem? (i := 23) rfl))) (notFace_of_selects (args := #[]) (mvT hZ (hw _ (List.mem_of_getElem? (i := 25) rfl)))) (mvT hZ (hw _ (List.mem_of_getElem? (i := 25) rfl))) (mvT hZ (hw _ (List.mem_of_getElem? (i := 24) rfl))) (by decide) (backOf (W := 0) (rmS3 l Z az hw [] b40 t42 k32 x y z T42.heap n0 Zs43 Fc42 Vc42) hZ (hw _ (List.mem_of_getElem? (i := 26) rfl)) (hw _ (List.mem_of_getElem? (i := 4) rfl)) (by decide) (by decide)) q44a q44c (g := (mkF m 203 #[.val (.int p0), .val (.int p1), .val (.int p2), .val (.int p3), .val (.int p4), .val (.int n), .val (.int x), .val (.int y), .val (.int z), .val (.int wv), .val (.ref b32), .val (.long (((x.toInt64) + (y.toInt64)) + (z.toInt64))), .second, .val (.ref b40)] [(.ref b40)])) rfl (by rw [hml]; rfl) (Steps.refl _) (argsL := []) (rest := []) (lenOf pd_3 rfl) rfl (by show 2 * 0 + _ ≤ _; exact Nat.le_of_eq rfl) (hb hby at_203) (fun _ _ => ⟨rfl, rfl, (by decide : 3 + 0 ≤ _), (by decide : 7 + 0 ≤ _)⟩)
          dsimp only [Pt.U, Pt.locs, Pt.cells, Pt.slots] at X44 l44 y44 z44 st44 hQ44
          subst l44 y44 z44
          obtain ⟨hv44, N44q, e44⟩ := hQ44
          subst hv44
          have N44 := Fr.app N42 N44q
          refine Go.tr (S' := T44.setTop (mkF m 206 #[.val (.int p0), .val (.int p1), .val (.int p2), .val (.int p3), .val (.int p4), .val (.int n), .val (.int x), .val (.int y), .val (.int z), .val (.int wv), .val (.ref b32), .val (.long (((x.toInt64) + (y.toInt64)) + (z.toInt64))), .second, .val (.ref b40)] [(.long (fS3 x y z))])) st44 ?_
          refine Go.st (S' := T44.setTop (mkF m 208 #[.val (.int p0), .val (.int p1), .val (.int p2), .val (.int p3), .val (.int p4), .val (.int n), .val (.int x), .val (.int y), .val (.int z), .val (.int wv), .val (.ref b32), .val (.long (((x.toInt64) + (y.toInt64)) + (z.toInt64))), .second, .val (.ref b40)] [(.long (((x.toInt64) + (y.toInt64)) + (z.toInt64))), (.long (fS3 x y z))])) (fun _ kk => XS.lload X44.here hx rfl (hb hby at_206) rfl kk) ?_
          have hsum : (fS3 x y z) = (((x.toInt64) + (y.toInt64)) + (z.toInt64)) := by unfold fS3; rw [Int64.zero_add]
          refine Go.st (S' := T44.setTop (mkF m 209 #[.val (.int p0), .val (.int p1), .val (.int p2), .val (.int p3), .val (.int p4), .val (.int n), .val (.int x), .val (.int y), .val (.int z), .val (.int wv), .val (.ref b32), .val (.long (((x.toInt64) + (y.toInt64)) + (z.toInt64))), .second, .val (.ref b40)] [(.int (lcmpW (fS3 x y z) (((x.toInt64) + (y.toInt64)) + (z.toInt64))))])) (fun _ kk => XS.lcmp X44.here hx rfl (hb hby at_208) rfl kk) ?_
          refine Go.st (S' := T44.setTop (mkF m 212 #[.val (.int p0), .val (.int p1), .val (.int p2), .val (.int p3), .val (.int p4), .val (.int n), .val (.int x), .val (.int y), .val (.int z), .val (.int wv), .val (.ref b32), .val (.long (((x.toInt64) + (y.toInt64)) + (z.toInt64))), .second, .val (.ref b40)] [])) (fun _ kk => XS.ifNo X44.here hx rfl (hb hby at_209) rfl ((if0 _ _).trans (teq ((lw_eq (fS3 x y z) (((x.toInt64) + (y.toInt64)) + (z.toInt64))).mpr hsum)).2) kk) ?_
          refine Go.st (S' := T44.setTop (mkF m 213 #[.val (.int p0), .val (.int p1), .val (.int p2), .val (.int p3), .val (.int p4), .val (.int n), .val (.int x), .val (.int y), .val (.int z), .val (.int wv), .val (.ref b32), .val (.long (((x.toInt64) + (y.toInt64)) + (z.toInt64))), .second, .val (.ref b40)] [(.int (1 : Int32))])) (fun _ kk => XS.iconst X44.here hx rfl (hb hby at_212) kk) ?_
          refine Go.st (S' := T44.setTop (mkF m 217 #[.val (.int p0), .val (.int p1), .val (.int p2), .val (.int p3), .val (.int p4), .val (.int n), .val (.int x), .val (.int y), .val (.int z), .val (.int wv), .val (.ref b32), .val (.long (((x.toInt64) + (y.toInt64)) + (z.toInt64))), .second, .val (.ref b40)] [(.int (1 : Int32))])) (fun _ kk => XS.goto X44.here hx rfl (pc0 := 213) (pc' := 217) rfl (hb hby at_213) (by decide) (by decide) kk) ?_
          exact Go.retN X44 hx hlk (t := .boolean) Bd.returns (by simp) (hb hby at_217) (⟨rfl, N44⟩) (by decide) (by decide)
        · refine Go.st (S' := s₁.setTop (mkF m 148 #[.val (.int p0), .val (.int p1), .val (.int p2), .val (.int p3), .val (.int p4), .val (.int n), .val (.int x), .val (.int y), .val (.int z), .val (.int wv), .unset, .unset, .unset, .unset] [])) (fun _ kk => XS.icmpYes X0.here hx rfl (pc0 := 109) (pc' := 148) rfl (hb hby at_109) rfl (feq hc31).2 (by decide) (by decide) kk) ?_
          refine Go.st (S' := s₁.setTop (mkF m 149 #[.val (.int p0), .val (.int p1), .val (.int p2), .val (.int p3), .val (.int p4), .val (.int n), .val (.int x), .val (.int y), .val (.int z), .val (.int wv), .unset, .unset, .unset, .unset] [(.int (4 : Int32))])) (fun _ kk => XS.iconst X0.here hx rfl (hb hby at_148) kk) ?_
          obtain ⟨T45, h45, k45, X45, e45, E45, A45, E_b45, st45⟩ := newPE X0 hx hZ (hw _ (List.mem_of_getElem? (i := 1) rfl)) e0 (g := (mkF m 149 #[.val (.int p0), .val (.int p1), .val (.int p2), .val (.int p3), .val (.int p4), .val (.int n), .val (.int x), .val (.int y), .val (.int z), .val (.int wv), .unset, .unset, .unset, .unset] [(.int (4 : Int32))])) rfl (hb hby at_149) rfl (by decide) (cap := 4) (by decide) (by decide) (by decide : 0 + 1 ≤ _) (by decide : 0 + 4 ≤ _) (ad := "[I") rfl
          obtain ⟨b45, g45⟩ : ∃ z, z = h0.size := ⟨_, rfl⟩
          rw [← g45] at A45 E_b45 st45
          have g_b45 : n0 ≤ b45 := Nat.le_trans Z0 (Nat.le_of_eq g45.symm)
          have Zs46 := Nat.le_trans Z0 E45.1
          have V_b45 : Arv Z h45 b45 k45 .int (4 : Int32) [(.int (0 : Int32)), (.int (0 : Int32)), (.int (0 : Int32)), (.int (0 : Int32))] (.int (0 : Int32)) := (Arv.new A45 (by decide)).pad (pad_rep [] (.int (0 : Int32)) 4)
          refine Go.st (S' := T45.setTop (mkF m 151 #[.val (.int p0), .val (.int p1), .val (.int p2), .val (.int p3), .val (.int p4), .val (.int n), .val (.int x), .val (.int y), .val (.int z), .val (.int wv), .unset, .unset, .unset, .unset] [(.ref b45)])) st45 ?_
          refine Go.st (S' := T45.setTop (mkF m 152 #[.val (.int p0), .val (.int p1), .val (.int p2), .val (.int p3), .val (.int p4), .val (.int n), .val (.int x), .val (.int y), .val (.int z), .val (.int wv), .unset, .unset, .unset, .unset] [(.ref b45), (.ref b45)])) (fun _ kk => XS.dup X45.here hx rfl (hb hby at_151) rfl rfl kk) ?_
          refine Go.st (S' := T45.setTop (mkF m 153 #[.val (.int p0), .val (.int p1), .val (.int p2), .val (.int p3), .val (.int p4), .val (.int n), .val (.int x), .val (.int y), .val (.int z), .val (.int wv), .unset, .unset, .unset, .unset] [(.int (0 : Int32)), (.ref b45), (.ref b45)])) (fun _ kk => XS.iconst X45.here hx rfl (hb hby at_152) kk) ?_
          refine Go.st (S' := T45.setTop (mkF m 155 #[.val (.int p0), .val (.int p1), .val (.int p2), .val (.int p3), .val (.int p4), .val (.int n), .val (.int x), .val (.int y), .val (.int z), .val (.int wv), .unset, .unset, .unset, .unset] [(.int x), (.int (0 : Int32)), (.ref b45), (.ref b45)])) (fun _ kk => XS.iload X45.here hx rfl (hb hby at_153) rfl kk) ?_
          obtain ⟨cl47, Ar47, q47, S47, Ng47, H47, G47⟩ := (id V_b45)
          have hin47 : ¬ ((0 : Int32) < 0 ∨ cl47.slots.size ≤ ((0 : Int32)).toNatClampNeg) := inb_of S47 ⟨by decide, by decide⟩
          obtain ⟨T47, h47, X47, e47, W47, st47⟩ := stI X45 hx hZ e45 Ar47 (j := (0 : Int32)) hin47 (g := (mkF m 155 #[.val (.int p0), .val (.int p1), .val (.int p2), .val (.int p3), .val (.int p4), .val (.int n), .val (.int x), .val (.int y), .val (.int z), .val (.int wv), .unset, .unset, .unset, .unset] [(.int x), (.int (0 : Int32)), (.ref b45), (.ref b45)])) rfl rfl (hb hby at_155)
          have V_b45 : Arv Z h47 b45 k45 .int (4 : Int32) [(.int x), (.int (0 : Int32)), (.int (0 : Int32)), (.int (0 : Int32))] (.int (0 : Int32)) := Arv.set Ar47 q47 S47 Ng47 H47 G47 rfl W47 0 rfl (Nat.le_of_ble_eq_true rfl)
          have N47 := Fr.snoc X47 N0 g_b45
          have E_b45 := E_b45.wr W47
          have Zs48 := Nat.le_trans Zs46 (Keep.of_wr W47).1
          refine Go.st (S' := T47.setTop (mkF m 156 #[.val (.int p0), .val (.int p1), .val (.int p2), .val (.int p3), .val (.int p4), .val (.int n), .val (.int x), .val (.int y), .val (.int z), .val (.int wv), .unset, .unset, .unset, .unset] [(.ref b45)])) st47 ?_
          refine Go.st (S' := T47.setTop (mkF m 157 #[.val (.int p0), .val (.int p1), .val (.int p2), .val (.int p3), .val (.int p4), .val (.int n), .val (.int x), .val (.int y), .val (.int z), .val (.int wv), .unset, .unset, .unset, .unset] [(.ref b45), (.ref b45)])) (fun _ kk => XS.dup X47.here hx rfl (hb hby at_156) rfl rfl kk) ?_
          refine Go.st (S' := T47.setTop (mkF m 158 #[.val (.int p0), .val (.int p1), .val (.int p2), .val (.int p3), .val (.int p4), .val (.int n), .val (.int x), .val (.int y), .val (.int z), .val (.int wv), .unset, .unset, .unset, .unset] [(.int (1 : Int32)), (.ref b45), (.ref b45)])) (fun _ kk => XS.iconst X47.here hx rfl (hb hby at_157) kk) ?_
          refine Go.st (S' := T47.setTop (mkF m 160 #[.val (.int p0), .val (.int p1), .val (.int p2), .val (.int p3), .val (.int p4), .val (.int n), .val (.int x), .val (.int y), .val (.int z), .val (.int wv), .unset, .unset, .unset, .unset] [(.int y), (.int (1 : Int32)), (.ref b45), (.ref b45)])) (fun _ kk => XS.iload X47.here hx rfl (hb hby at_158) rfl kk) ?_
          obtain ⟨cl49, Ar49, q49, S49, Ng49, H49, G49⟩ := (id V_b45)
          have hin49 : ¬ ((1 : Int32) < 0 ∨ cl49.slots.size ≤ ((1 : Int32)).toNatClampNeg) := inb_of S49 ⟨by decide, by decide⟩
          obtain ⟨T49, h49, X49, e49, W49, st49⟩ := stI X47 hx hZ e47 Ar49 (j := (1 : Int32)) hin49 (g := (mkF m 160 #[.val (.int p0), .val (.int p1), .val (.int p2), .val (.int p3), .val (.int p4), .val (.int n), .val (.int x), .val (.int y), .val (.int z), .val (.int wv), .unset, .unset, .unset, .unset] [(.int y), (.int (1 : Int32)), (.ref b45), (.ref b45)])) rfl rfl (hb hby at_160)
          have V_b45 : Arv Z h49 b45 k45 .int (4 : Int32) [(.int x), (.int y), (.int (0 : Int32)), (.int (0 : Int32))] (.int (0 : Int32)) := Arv.set Ar49 q49 S49 Ng49 H49 G49 rfl W49 1 rfl (Nat.le_of_ble_eq_true rfl)
          have N49 := Fr.snoc X49 N47 g_b45
          have E_b45 := E_b45.wr W49
          have Zs50 := Nat.le_trans Zs48 (Keep.of_wr W49).1
          refine Go.st (S' := T49.setTop (mkF m 161 #[.val (.int p0), .val (.int p1), .val (.int p2), .val (.int p3), .val (.int p4), .val (.int n), .val (.int x), .val (.int y), .val (.int z), .val (.int wv), .unset, .unset, .unset, .unset] [(.ref b45)])) st49 ?_
          refine Go.st (S' := T49.setTop (mkF m 162 #[.val (.int p0), .val (.int p1), .val (.int p2), .val (.int p3), .val (.int p4), .val (.int n), .val (.int x), .val (.int y), .val (.int z), .val (.int wv), .unset, .unset, .unset, .unset] [(.ref b45), (.ref b45)])) (fun _ kk => XS.dup X49.here hx rfl (hb hby at_161) rfl rfl kk) ?_
          refine Go.st (S' := T49.setTop (mkF m 163 #[.val (.int p0), .val (.int p1), .val (.int p2), .val (.int p3), .val (.int p4), .val (.int n), .val (.int x), .val (.int y), .val (.int z), .val (.int wv), .unset, .unset, .unset, .unset] [(.int (2 : Int32)), (.ref b45), (.ref b45)])) (fun _ kk => XS.iconst X49.here hx rfl (hb hby at_162) kk) ?_
          refine Go.st (S' := T49.setTop (mkF m 165 #[.val (.int p0), .val (.int p1), .val (.int p2), .val (.int p3), .val (.int p4), .val (.int n), .val (.int x), .val (.int y), .val (.int z), .val (.int wv), .unset, .unset, .unset, .unset] [(.int z), (.int (2 : Int32)), (.ref b45), (.ref b45)])) (fun _ kk => XS.iload X49.here hx rfl (hb hby at_163) rfl kk) ?_
          obtain ⟨cl51, Ar51, q51, S51, Ng51, H51, G51⟩ := (id V_b45)
          have hin51 : ¬ ((2 : Int32) < 0 ∨ cl51.slots.size ≤ ((2 : Int32)).toNatClampNeg) := inb_of S51 ⟨by decide, by decide⟩
          obtain ⟨T51, h51, X51, e51, W51, st51⟩ := stI X49 hx hZ e49 Ar51 (j := (2 : Int32)) hin51 (g := (mkF m 165 #[.val (.int p0), .val (.int p1), .val (.int p2), .val (.int p3), .val (.int p4), .val (.int n), .val (.int x), .val (.int y), .val (.int z), .val (.int wv), .unset, .unset, .unset, .unset] [(.int z), (.int (2 : Int32)), (.ref b45), (.ref b45)])) rfl rfl (hb hby at_165)
          have V_b45 : Arv Z h51 b45 k45 .int (4 : Int32) [(.int x), (.int y), (.int z), (.int (0 : Int32))] (.int (0 : Int32)) := Arv.set Ar51 q51 S51 Ng51 H51 G51 rfl W51 2 rfl (Nat.le_of_ble_eq_true rfl)
          have N51 := Fr.snoc X51 N49 g_b45
          have E_b45 := E_b45.wr W51
          have Zs52 := Nat.le_trans Zs50 (Keep.of_wr W51).1
          refine Go.st (S' := T51.setTop (mkF m 166 #[.val (.int p0), .val (.int p1), .val (.int p2), .val (.int p3), .val (.int p4), .val (.int n), .val (.int x), .val (.int y), .val (.int z), .val (.int wv), .unset, .unset, .unset, .unset] [(.ref b45)])) st51 ?_
          refine Go.st (S' := T51.setTop (mkF m 167 #[.val (.int p0), .val (.int p1), .val (.int p2), .val (.int p3), .val (.int p4), .val (.int n), .val (.int x), .val (.int y), .val (.int z), .val (.int wv), .unset, .unset, .unset, .unset] [(.ref b45), (.ref b45)])) (fun _ kk => XS.dup X51.here hx rfl (hb hby at_166) rfl rfl kk) ?_
          refine Go.st (S' := T51.setTop (mkF m 168 #[.val (.int p0), .val (.int p1), .val (.int p2), .val (.int p3), .val (.int p4), .val (.int n), .val (.int x), .val (.int y), .val (.int z), .val (.int wv), .unset, .unset, .unset, .unset] [(.int (3 : Int32)), (.ref b45), (.ref b45)])) (fun _ kk => XS.iconst X51.here hx rfl (hb hby at_167) kk) ?_
          refine Go.st (S' := T51.setTop (mkF m 170 #[.val (.int p0), .val (.int p1), .val (.int p2), .val (.int p3), .val (.int p4), .val (.int n), .val (.int x), .val (.int y), .val (.int z), .val (.int wv), .unset, .unset, .unset, .unset] [(.int wv), (.int (3 : Int32)), (.ref b45), (.ref b45)])) (fun _ kk => XS.iload X51.here hx rfl (hb hby at_168) rfl kk) ?_
          obtain ⟨cl53, Ar53, q53, S53, Ng53, H53, G53⟩ := (id V_b45)
          have hin53 : ¬ ((3 : Int32) < 0 ∨ cl53.slots.size ≤ ((3 : Int32)).toNatClampNeg) := inb_of S53 ⟨by decide, by decide⟩
          obtain ⟨T53, h53, X53, e53, W53, st53⟩ := stI X51 hx hZ e51 Ar53 (j := (3 : Int32)) hin53 (g := (mkF m 170 #[.val (.int p0), .val (.int p1), .val (.int p2), .val (.int p3), .val (.int p4), .val (.int n), .val (.int x), .val (.int y), .val (.int z), .val (.int wv), .unset, .unset, .unset, .unset] [(.int wv), (.int (3 : Int32)), (.ref b45), (.ref b45)])) rfl rfl (hb hby at_170)
          have V_b45 : Arv Z h53 b45 k45 .int (4 : Int32) [(.int x), (.int y), (.int z), (.int wv)] (.int (0 : Int32)) := Arv.set Ar53 q53 S53 Ng53 H53 G53 rfl W53 3 rfl (Nat.le_of_ble_eq_true rfl)
          have N53 := Fr.snoc X53 N51 g_b45
          have E_b45 := E_b45.wr W53
          have Zs54 := Nat.le_trans Zs52 (Keep.of_wr W53).1
          refine Go.st (S' := T53.setTop (mkF m 171 #[.val (.int p0), .val (.int p1), .val (.int p2), .val (.int p3), .val (.int p4), .val (.int n), .val (.int x), .val (.int y), .val (.int z), .val (.int wv), .unset, .unset, .unset, .unset] [(.ref b45)])) st53 ?_
          refine Go.st (S' := T53.setTop (mkF m 173 #[.val (.int p0), .val (.int p1), .val (.int p2), .val (.int p3), .val (.int p4), .val (.int n), .val (.int x), .val (.int y), .val (.int z), .val (.int wv), .val (.ref b45), .unset, .unset, .unset] [])) (fun _ kk => XS.astore X53.here hx rfl (hb hby at_171) rfl rfl (l' := #[.val (.int p0), .val (.int p1), .val (.int p2), .val (.int p3), .val (.int p4), .val (.int n), .val (.int x), .val (.int y), .val (.int z), .val (.int wv), .val (.ref b45), .unset, .unset, .unset]) rfl kk) ?_
          refine Go.st (S' := T53.setTop (mkF m 175 #[.val (.int p0), .val (.int p1), .val (.int p2), .val (.int p3), .val (.int p4), .val (.int n), .val (.int x), .val (.int y), .val (.int z), .val (.int wv), .val (.ref b45), .unset, .unset, .unset] [(.int x)])) (fun _ kk => XS.iload X53.here hx rfl (hb hby at_173) rfl kk) ?_
          refine Go.st (S' := T53.setTop (mkF m 176 #[.val (.int p0), .val (.int p1), .val (.int p2), .val (.int p3), .val (.int p4), .val (.int n), .val (.int x), .val (.int y), .val (.int z), .val (.int wv), .val (.ref b45), .unset, .unset, .unset] [(.long (x.toInt64))])) (fun _ kk => XS.i2l X53.here hx rfl (hb hby at_175) rfl kk) ?_
          refine Go.st (S' := T53.setTop (mkF m 178 #[.val (.int p0), .val (.int p1), .val (.int p2), .val (.int p3), .val (.int p4), .val (.int n), .val (.int x), .val (.int y), .val (.int z), .val (.int wv), .val (.ref b45), .unset, .unset, .unset] [(.int y), (.long (x.toInt64))])) (fun _ kk => XS.iload X53.here hx rfl (hb hby at_176) rfl kk) ?_
          refine Go.st (S' := T53.setTop (mkF m 179 #[.val (.int p0), .val (.int p1), .val (.int p2), .val (.int p3), .val (.int p4), .val (.int n), .val (.int x), .val (.int y), .val (.int z), .val (.int wv), .val (.ref b45), .unset, .unset, .unset] [(.long (y.toInt64)), (.long (x.toInt64))])) (fun _ kk => XS.i2l X53.here hx rfl (hb hby at_178) rfl kk) ?_
          refine Go.st (S' := T53.setTop (mkF m 180 #[.val (.int p0), .val (.int p1), .val (.int p2), .val (.int p3), .val (.int p4), .val (.int n), .val (.int x), .val (.int y), .val (.int z), .val (.int wv), .val (.ref b45), .unset, .unset, .unset] [(.long ((x.toInt64) + (y.toInt64)))])) (fun _ kk => XS.ladd X53.here hx rfl (hb hby at_179) rfl kk) ?_
          refine Go.st (S' := T53.setTop (mkF m 182 #[.val (.int p0), .val (.int p1), .val (.int p2), .val (.int p3), .val (.int p4), .val (.int n), .val (.int x), .val (.int y), .val (.int z), .val (.int wv), .val (.ref b45), .unset, .unset, .unset] [(.int z), (.long ((x.toInt64) + (y.toInt64)))])) (fun _ kk => XS.iload X53.here hx rfl (hb hby at_180) rfl kk) ?_
          refine Go.st (S' := T53.setTop (mkF m 183 #[.val (.int p0), .val (.int p1), .val (.int p2), .val (.int p3), .val (.int p4), .val (.int n), .val (.int x), .val (.int y), .val (.int z), .val (.int wv), .val (.ref b45), .unset, .unset, .unset] [(.long (z.toInt64)), (.long ((x.toInt64) + (y.toInt64)))])) (fun _ kk => XS.i2l X53.here hx rfl (hb hby at_182) rfl kk) ?_
          refine Go.st (S' := T53.setTop (mkF m 184 #[.val (.int p0), .val (.int p1), .val (.int p2), .val (.int p3), .val (.int p4), .val (.int n), .val (.int x), .val (.int y), .val (.int z), .val (.int wv), .val (.ref b45), .unset, .unset, .unset] [(.long (((x.toInt64) + (y.toInt64)) + (z.toInt64)))])) (fun _ kk => XS.ladd X53.here hx rfl (hb hby at_183) rfl kk) ?_
          refine Go.st (S' := T53.setTop (mkF m 186 #[.val (.int p0), .val (.int p1), .val (.int p2), .val (.int p3), .val (.int p4), .val (.int n), .val (.int x), .val (.int y), .val (.int z), .val (.int wv), .val (.ref b45), .unset, .unset, .unset] [(.int wv), (.long (((x.toInt64) + (y.toInt64)) + (z.toInt64)))])) (fun _ kk => XS.iload X53.here hx rfl (hb hby at_184) rfl kk) ?_
          refine Go.st (S' := T53.setTop (mkF m 187 #[.val (.int p0), .val (.int p1), .val (.int p2), .val (.int p3), .val (.int p4), .val (.int n), .val (.int x), .val (.int y), .val (.int z), .val (.int wv), .val (.ref b45), .unset, .unset, .unset] [(.long (wv.toInt64)), (.long (((x.toInt64) + (y.toInt64)) + (z.toInt64)))])) (fun _ kk => XS.i2l X53.here hx rfl (hb hby at_186) rfl kk) ?_
          refine Go.st (S' := T53.setTop (mkF m 188 #[.val (.int p0), .val (.int p1), .val (.int p2), .val (.int p3), .val (.int p4), .val (.int n), .val (.int x), .val (.int y), .val (.int z), .val (.int wv), .val (.ref b45), .unset, .unset, .unset] [(.long ((((x.toInt64) + (y.toInt64)) + (z.toInt64)) + (wv.toInt64)))])) (fun _ kk => XS.ladd X53.here hx rfl (hb hby at_187) rfl kk) ?_
          refine Go.st (S' := T53.setTop (mkF m 190 #[.val (.int p0), .val (.int p1), .val (.int p2), .val (.int p3), .val (.int p4), .val (.int n), .val (.int x), .val (.int y), .val (.int z), .val (.int wv), .val (.ref b45), .val (.long ((((x.toInt64) + (y.toInt64)) + (z.toInt64)) + (wv.toInt64))), .second, .unset] [])) (fun _ kk => XS.lstore X53.here hx rfl (hb hby at_188) rfl (l' := #[.val (.int p0), .val (.int p1), .val (.int p2), .val (.int p3), .val (.int p4), .val (.int n), .val (.int x), .val (.int y), .val (.int z), .val (.int wv), .val (.ref b45), .val (.long ((((x.toInt64) + (y.toInt64)) + (z.toInt64)) + (wv.toInt64))), .second, .unset]) rfl kk) ?_
          obtain ⟨T55, h55, X55, e55, E55, A55, D55, -, st55⟩ := newO X53 hx hZ hown (hw _ (List.mem_of_getElem? (i := 2) rfl)) (hw _ (List.mem_of_getElem? (i := 3) rfl)) (hw _ (List.mem_of_getElem? (i := 4) rfl)) e53 (g := (mkF m 190 #[.val (.int p0), .val (.int p1), .val (.int p2), .val (.int p3), .val (.int p4), .val (.int n), .val (.int x), .val (.int y), .val (.int z), .val (.int wv), .val (.ref b45), .val (.long ((((x.toInt64) + (y.toInt64)) + (z.toInt64)) + (wv.toInt64))), .second, .unset] [])) rfl (hb hby at_190) (by decide : 1 + 1 ≤ _) (by decide : 4 + 1 ≤ _)
          obtain ⟨b55, g55⟩ : ∃ z, z = h53.size := ⟨_, rfl⟩
          rw [← g55] at A55 D55 st55
          have ne_b45_b55 : b45 ≠ b55 := Nat.ne_of_lt (Nat.lt_of_lt_of_le E_b45.lt (Nat.le_of_eq g55.symm))
          have g_b55 : n0 ≤ b55 := Nat.le_trans Zs54 (Nat.le_of_eq g55.symm)
          have E_b45 := E_b45.ext E55
          have V_b45 := V_b45.ext E55
          have Zs56 := Nat.le_trans Zs54 E55.1
          have E_b55 := A55
          have F_counts_b55 : Fld Z h55 b55 "com/example/patient_snoop/patientsnoop/model/Configuration" "counts" "[I" .null := D55 (Or.inr (hw _ (List.mem_of_getElem? (i := 21) rfl))) (ty := (.array .int)) (by decide)
          refine Go.st (S' := T55.setTop (mkF m 193 #[.val (.int p0), .val (.int p1), .val (.int p2), .val (.int p3), .val (.int p4), .val (.int n), .val (.int x), .val (.int y), .val (.int z), .val (.int wv), .val (.ref b45), .val (.long ((((x.toInt64) + (y.toInt64)) + (z.toInt64)) + (wv.toInt64))), .second, .unset] [(.ref b55)])) st55 ?_
          refine Go.st (S' := T55.setTop (mkF m 194 #[.val (.int p0), .val (.int p1), .val (.int p2), .val (.int p3), .val (.int p4), .val (.int n), .val (.int x), .val (.int y), .val (.int z), .val (.int wv), .val (.ref b45), .val (.long ((((x.toInt64) + (y.toInt64)) + (z.toInt64)) + (wv.toInt64))), .second, .unset] [(.ref b55), (.ref b55)])) (fun _ kk => XS.dup X55.here hx rfl (hb hby at_193) rfl rfl kk) ?_
          refine Go.st (S' := T55.setTop (mkF m 196 #[.val (.int p0), .val (.int p1), .val (.int p2), .val (.int p3), .val (.int p4), .val (.int n), .val (.int x), .val (.int y), .val (.int z), .val (.int wv), .val (.ref b45), .val (.long ((((x.toInt64) + (y.toInt64)) + (z.toInt64)) + (wv.toInt64))), .second, .unset] [(.ref b45), (.ref b55), (.ref b55)])) (fun _ kk => XS.aload X55.here hx rfl (hb hby at_194) rfl rfl kk) ?_
          obtain ⟨_, _, ⟨T57, L57, k57, n57⟩, -, X57, ⟨Lc57, hQ57, l57, y57, z57⟩, st57⟩ := X55.specialBack hx (y := (⟨"com/example/patient_snoop/patientsnoop/model/Configuration", "<init>", "([I)V"⟩ : MethodName)) rfl hown (mvT hZ (hw _ (List.mem_of_getElem? (i := 5) rfl))) (mvT hZ (hw _ (List.mem_of_getElem? (i := 6) rfl))) (mvT hZ (hw _ (List.mem_of_getElem? (i := 7) rfl))) (by decide) (backOf (W := 1) (rmC4 l Z az hw [] b55 b45 x y z wv k45 h55 n0 Zs56 E_b55 g_b55 F_counts_b55 E_b45 V_b45 hn_x hn_y hn_z hn_wv) hZ (hw _ (List.mem_of_getElem? (i := 7) rfl)) (hw _ (List.mem_of_getElem? (i := 4) rfl)) (by decide) (by decide)) (g := (mkF m 196 #[.val (.int p0), .val (.int p1), .val (.int p2), .val (.int p3), .val (.int p4), .val (.int n), .val (.int x), .val (.int y), .val (.int z), .val (.int wv), .val (.ref b45), .val (.long ((((x.toInt64) + (y.toInt64)) + (z.toInt64)) + (wv.toInt64))), .second, .unset] [(.ref b45), (.ref b55), (.ref b55)])) rfl (by rw [hml]; rfl) (Steps.refl _) (a := b55) (argsL := [(.ref b45)]) (rest := [(.ref b55)]) (lenOf pd_0 rfl) rfl (by show 2 * 0 + _ ≤ _; exact Nat.le_of_eq rfl) (hb hby at_196) (fun _ _ => ⟨rfl, e55, (by decide : 2 + 1 ≤ _), (by decide : 5 + 4 ≤ _)⟩)
          dsimp only [Pt.U, Pt.locs, Pt.cells, Pt.slots] at X57 l57 y57 z57 st57 hQ57
          subst l57 y57 z57
          obtain ⟨t57, rfl, N57q, K57, Ec57, Fc57, Vc57, sz57⟩ := hQ57
          have N57 := Fr.app N53 N57q
          have E_b45 := E_b45.keep K57
          have V_b45 := V_b45.keep K57 (ninS ne_b45_b55 nin0)
          have E_b55 := E_b55.keep K57
          have Zs58 := Nat.le_trans Zs56 K57.1
          refine Go.tr (S' := T57.setTop (mkF m 199 #[.val (.int p0), .val (.int p1), .val (.int p2), .val (.int p3), .val (.int p4), .val (.int n), .val (.int x), .val (.int y), .val (.int z), .val (.int wv), .val (.ref b45), .val (.long ((((x.toInt64) + (y.toInt64)) + (z.toInt64)) + (wv.toInt64))), .second, .unset] [(.ref b55)])) st57 ?_
          refine Go.st (S' := T57.setTop (mkF m 201 #[.val (.int p0), .val (.int p1), .val (.int p2), .val (.int p3), .val (.int p4), .val (.int n), .val (.int x), .val (.int y), .val (.int z), .val (.int wv), .val (.ref b45), .val (.long ((((x.toInt64) + (y.toInt64)) + (z.toInt64)) + (wv.toInt64))), .second, .val (.ref b55)] [])) (fun _ kk => XS.astore X57.here hx rfl (hb hby at_199) rfl rfl (l' := #[.val (.int p0), .val (.int p1), .val (.int p2), .val (.int p3), .val (.int p4), .val (.int n), .val (.int x), .val (.int y), .val (.int z), .val (.int wv), .val (.ref b45), .val (.long ((((x.toInt64) + (y.toInt64)) + (z.toInt64)) + (wv.toInt64))), .second, .val (.ref b55)]) rfl kk) ?_
          refine Go.st (S' := T57.setTop (mkF m 203 #[.val (.int p0), .val (.int p1), .val (.int p2), .val (.int p3), .val (.int p4), .val (.int n), .val (.int x), .val (.int y), .val (.int z), .val (.int wv), .val (.ref b45), .val (.long ((((x.toInt64) + (y.toInt64)) + (z.toInt64)) + (wv.toInt64))), .second, .val (.ref b55)] [(.ref b55)])) (fun _ kk => XS.aload X57.here hx rfl (hb hby at_201) rfl rfl kk) ?_
          obtain ⟨cq59, kq59, q59a, q59b, q59c⟩ := isOf hZ rfl E_b55
          obtain ⟨_, _, ⟨T59, L59, k59, n59⟩, -, X59, ⟨Lc59, hQ59, l59, y59, z59⟩, st59⟩ := X57.virtualBack hx (y := (⟨"com/example/patient_snoop/patientsnoop/model/Configuration", "caches", "()J"⟩ : MethodName)) (z := (⟨"com/example/patient_snoop/patientsnoop/model/Configuration", "caches", "()J"⟩ : MethodName)) hown (mvT hZ (hw _ (List.mem_of_getElem? (i := 22) rfl))) (mvT hZ (hw _ (List.mem_of_getElem? (i := 23) rfl))) (notFace_of_selects (args := #[]) (mvT hZ (hw _ (List.mem_of_getElem? (i := 25) rfl)))) (mvT hZ (hw _ (List.mem_of_getElem? (i := 25) rfl))) (mvT hZ (hw _ (List.mem_of_getElem? (i := 24) rfl))) (by decide) (backOf (W := 0) (rmS4 l Z az hw [] b55 t57 k45 x y z wv T57.heap n0 Zs58 Fc57 Vc57) hZ (hw _ (List.mem_of_getElem? (i := 26) rfl)) (hw _ (List.mem_of_getElem? (i := 4) rfl)) (by decide) (by decide)) q59a q59c (g := (mkF m 203 #[.val (.int p0), .val (.int p1), .val (.int p2), .val (.int p3), .val (.int p4), .val (.int n), .val (.int x), .val (.int y), .val (.int z), .val (.int wv), .val (.ref b45), .val (.long ((((x.toInt64) + (y.toInt64)) + (z.toInt64)) + (wv.toInt64))), .second, .val (.ref b55)] [(.ref b55)])) rfl (by rw [hml]; rfl) (Steps.refl _) (argsL := []) (rest := []) (lenOf pd_3 rfl) rfl (by show 2 * 0 + _ ≤ _; exact Nat.le_of_eq rfl) (hb hby at_203) (fun _ _ => ⟨rfl, rfl, (by decide : 3 + 0 ≤ _), (by decide : 9 + 0 ≤ _)⟩)
          dsimp only [Pt.U, Pt.locs, Pt.cells, Pt.slots] at X59 l59 y59 z59 st59 hQ59
          subst l59 y59 z59
          obtain ⟨hv59, N59q, e59⟩ := hQ59
          subst hv59
          have N59 := Fr.app N57 N59q
          refine Go.tr (S' := T59.setTop (mkF m 206 #[.val (.int p0), .val (.int p1), .val (.int p2), .val (.int p3), .val (.int p4), .val (.int n), .val (.int x), .val (.int y), .val (.int z), .val (.int wv), .val (.ref b45), .val (.long ((((x.toInt64) + (y.toInt64)) + (z.toInt64)) + (wv.toInt64))), .second, .val (.ref b55)] [(.long (fS4 x y z wv))])) st59 ?_
          refine Go.st (S' := T59.setTop (mkF m 208 #[.val (.int p0), .val (.int p1), .val (.int p2), .val (.int p3), .val (.int p4), .val (.int n), .val (.int x), .val (.int y), .val (.int z), .val (.int wv), .val (.ref b45), .val (.long ((((x.toInt64) + (y.toInt64)) + (z.toInt64)) + (wv.toInt64))), .second, .val (.ref b55)] [(.long ((((x.toInt64) + (y.toInt64)) + (z.toInt64)) + (wv.toInt64))), (.long (fS4 x y z wv))])) (fun _ kk => XS.lload X59.here hx rfl (hb hby at_206) rfl kk) ?_
          have hsum : (fS4 x y z wv) = ((((x.toInt64) + (y.toInt64)) + (z.toInt64)) + (wv.toInt64)) := by unfold fS4; rw [Int64.zero_add]
          refine Go.st (S' := T59.setTop (mkF m 209 #[.val (.int p0), .val (.int p1), .val (.int p2), .val (.int p3), .val (.int p4), .val (.int n), .val (.int x), .val (.int y), .val (.int z), .val (.int wv), .val (.ref b45), .val (.long ((((x.toInt64) + (y.toInt64)) + (z.toInt64)) + (wv.toInt64))), .second, .val (.ref b55)] [(.int (lcmpW (fS4 x y z wv) ((((x.toInt64) + (y.toInt64)) + (z.toInt64)) + (wv.toInt64))))])) (fun _ kk => XS.lcmp X59.here hx rfl (hb hby at_208) rfl kk) ?_
          refine Go.st (S' := T59.setTop (mkF m 212 #[.val (.int p0), .val (.int p1), .val (.int p2), .val (.int p3), .val (.int p4), .val (.int n), .val (.int x), .val (.int y), .val (.int z), .val (.int wv), .val (.ref b45), .val (.long ((((x.toInt64) + (y.toInt64)) + (z.toInt64)) + (wv.toInt64))), .second, .val (.ref b55)] [])) (fun _ kk => XS.ifNo X59.here hx rfl (hb hby at_209) rfl ((if0 _ _).trans (teq ((lw_eq (fS4 x y z wv) ((((x.toInt64) + (y.toInt64)) + (z.toInt64)) + (wv.toInt64))).mpr hsum)).2) kk) ?_
          refine Go.st (S' := T59.setTop (mkF m 213 #[.val (.int p0), .val (.int p1), .val (.int p2), .val (.int p3), .val (.int p4), .val (.int n), .val (.int x), .val (.int y), .val (.int z), .val (.int wv), .val (.ref b45), .val (.long ((((x.toInt64) + (y.toInt64)) + (z.toInt64)) + (wv.toInt64))), .second, .val (.ref b55)] [(.int (1 : Int32))])) (fun _ kk => XS.iconst X59.here hx rfl (hb hby at_212) kk) ?_
          refine Go.st (S' := T59.setTop (mkF m 217 #[.val (.int p0), .val (.int p1), .val (.int p2), .val (.int p3), .val (.int p4), .val (.int n), .val (.int x), .val (.int y), .val (.int z), .val (.int wv), .val (.ref b45), .val (.long ((((x.toInt64) + (y.toInt64)) + (z.toInt64)) + (wv.toInt64))), .second, .val (.ref b55)] [(.int (1 : Int32))])) (fun _ kk => XS.goto X59.here hx rfl (pc0 := 213) (pc' := 217) rfl (hb hby at_213) (by decide) (by decide) kk) ?_
          exact Go.retN X59 hx hlk (t := .boolean) Bd.returns (by simp) (hb hby at_217) (⟨rfl, N59⟩) (by decide) (by decide)
set_option maxRecDepth 65536 in
set_option maxHeartbeats 40000000 in
theorem comes_1 {Post : Tables → Env → Array Value → State → Outcome → State → Prop} (hpost : ∀ tb e args s v u, (limb_1_1.after args s (.returned v) u = true ∧ limb_1_2.after args s (.returned v) u = true ∧ True) → FrameEnd s (.returned v) u (Jvm.fieldLocs frame_1_writes args s ++ Jvm.arrayLocs frame_1_arrays args s ++ Jvm.staticLocs frame_1_statics s) 16 128 → Post tb e args s (.returned v) u) :
    ArmFor flags0 classFile x code maxLocals ret World_1 tables_1 room_1 Calls_1 rest_1 Pre_1 Post := by
  intro l hfl _ _ p e ha hc hk s m args below hf hA hF happ hP
  obtain ⟨hcalls, hrest, hpre⟩ := hP
  obtain ⟨-, -, -, hnamed, -, -, -, hat⟩ := (Spec.applies_iff hf).mp happ
  obtain ⟨hg, hn⟩ := and_e (Cond.before_iff.mp (show (Jvm.Cond.and given_1 narrow_1).before args s = true from hpre))
  obtain ⟨g0, gr0⟩ := and_e hg
  obtain ⟨ga0, gr1⟩ := and_e gr0
  obtain ⟨ga1, gr2⟩ := and_e gr1
  obtain ⟨ga2, gr3⟩ := and_e gr2
  obtain ⟨ga3, gr4⟩ := and_e gr3
  have ga4 := gr4
  obtain ⟨w0, w1, w2, w3, w4, rfl⟩ : ∃ w0 w1 w2 w3 w4 : Value, args = #[w0, w1, w2, w3, w4] := by
    have hs : args.size = 5 := by simpa [Cond.value, given_1] using g0
    obtain ⟨L⟩ := args
    match L, hs with
    | [w0, w1, w2, w3, w4], _ => exact ⟨w0, w1, w2, w3, w4, rfl⟩
  have hw := fun d (hd : d ∈ tables_1) => atoms_spec (ws := Jvm.Cond.code x code maxLocals ret :: tables_1) hat d (List.mem_cons_of_mem _ hd)
  have hfit : Fit s := fun {y c} hc i hi => by
    obtain ⟨ha, rfl⟩ := Array.getElem?_eq_some_iff.mp hc
    have q := List.all_eq_true.mp ((Array.all_eq_true_iff_forall_mem.mp hF) _ (Array.getElem_mem ha)) i (List.mem_range.mpr hi)
    simpa [Array.getElem?_eq_getElem hi] using q
  obtain ⟨i0, ei0⟩ := is_v ga0
  obtain rfl : w0 = (.int i0) := Option.some.inj ei0
  obtain ⟨i1, ei1⟩ := is_v ga1
  obtain rfl : w1 = (.int i1) := Option.some.inj ei1
  obtain ⟨i2, ei2⟩ := is_v ga2
  obtain rfl : w2 = (.int i2) := Option.some.inj ei2
  obtain ⟨i3, ei3⟩ := is_v ga3
  obtain rfl : w3 = (.int i3) := Option.some.inj ei3
  obtain ⟨i4, ei4⟩ := is_v ga4
  obtain rfl : w4 = (.int i4) := Option.some.inj ei4
  obtain ⟨n, o, h1, h2, h3, _, L, rfl, ⟨rfl, N⟩, hq⟩ := rm0 l s _ hw tables_1 i0 i1 i2 i3 i4 s.heap s.heap.size (Nat.le_refl _) p e ha hc hk s m _ below hf ((Spec.applies_iff_loose hf).mp happ).1 ⟨rfl, State.Warmed39.refl s, rfl⟩ trivial
  refine ⟨n, _, h1, h2, h3, hpost _ _ _ _ _ _ ⟨Cond.after_iff.mpr rfl, Cond.after_iff.mpr (eq_i res_at (Term.int_eval (1)) rfl), trivial⟩ ⟨hq.1, hq.2.1, (hq.2.2.sift fun y hy => Or.inr (N y hy)).mono (by decide) (by decide)⟩⟩
theorem main_1_1 : Claimed_1_1 := comes_1 fun _ _ _ _ _ _ h hF => ⟨h.1, hF⟩
theorem main_1_2 : Claimed_1_2 := comes_1 fun _ _ _ _ _ _ h hF => ⟨h.2.1, hF⟩
end Jvm.Pilot.@@N@@
namespace Jvm.Pilot.@@N@@
open Jvm Jvm.ClassFile Sem Op Lib Jvm.Free Jvm.Stand Jvm.Pilot.@@N@@.Jvm.D
/-! MADE BY PROGRAM (witnessworld.py) out of the Statement's table words and the real class files: 9 classes; the members and pool entries that the words name. The judged class is class 1, her method 1. -/
namespace start1
open Jvm.ClassFile
def u (s : String) : CpInfo := .utf8 (stringToUtf16 s)
/-- a pool by its gaps: so many unusable entries, then the entry; so many at the end -/
def gap : Nat → List CpInfo → List CpInfo
  | 0, r => r
  | n + 1, r => .unusable :: gap n r
def poolList (es : List (Nat × CpInfo)) (last : Nat) : List CpInfo := es.foldr (fun e r => gap e.1 (e.2 :: r)) (gap last [])
def pool (es : List (Nat × CpInfo)) (last : Nat) : Array CpInfo := ⟨poolList es last⟩
def fileOf (pool : Array CpInfo) (this : Nat) (attrs : Array Attribute := #[]) (ms : Array MethodInfo := #[]) (fl : Nat := 33) (sup : Nat := 0) (ifs : Array Nat := #[]) (fds : Array FieldInfo := #[]) : ClassFile where
  minorVersion := 0
  majorVersion := 65
  constantPool := pool
  accessFlags := fl
  thisClass := this
  superClass := sup
  interfaces := ifs
  fields := fds
  methods := ms
  attributes := attrs
def plain (name : String) (sup : Option ClassId) : Class where
  name := name
  kind := .ordinary
  loader := none
  accessFlags := 33
  super := sup
  interfaces := #[]
  cf := none
  fields := #[]
  methods := #[]
  instanceTypes := #[]
  staticTypes := #[]
  resolved := #[]
  callSites := []
  init := .initialized
  statics := none
  mirror := none

def pool0 : Array CpInfo := pool [(5, u "<init>"), (0, u "()V"), (1, .class_ 10), (1, u "java/lang/Object"), (85, u "clone"), (0, u "()Ljava/lang/Object;")] 26

def k0c0 : Code := { maxStack := 0, maxLocals := 1, code := object_method_1_code, exceptionTable := #[], attributes := #[] }
def k0m0 : Method := { name := "<init>", desc := "()V", sig := { parameters := [], returnType := none }, accessFlags := 1, code := some k0c0 }
def k0m1 : Method := { name := "clone", desc := "()Ljava/lang/Object;", sig := { parameters := [], returnType := some (.object "java/lang/Object") }, accessFlags := 260, code := none }
/-- java/lang/Object -/
def k0 : Class := { plain "java/lang/Object" none with
  accessFlags := 33
  interfaces := #[]
  cf := some (fileOf pool0 8 #[] #[{ accessFlags := 1, nameIndex := 5, descriptorIndex := 6, attributes := #[] }, { accessFlags := 260, nameIndex := 96, descriptorIndex := 97, attributes := #[] }] 33 0 #[] #[])
  fields := #[]
  methods := #[k0m0, k0m1]
  instanceTypes := #[]
  staticTypes := #[]
  resolved := Array.replicate 124 none
  statics := none }

def pool1 : Array CpInfo := pool [(2, .class_ 4), (1, u "java/lang/Object"), (0, u "<init>"), (0, u "()V"), (0, .integer 2147483647), (0, .class_ 9), (0, u "com/example/patient_snoop/patientsnoop/model/Configuration"), (0, .methodref 8 11), (0, .nameAndType 5 12), (0, u "([I)V"), (0, .methodref 8 14), (0, .nameAndType 15 16), (0, u "caches"), (0, u "()J"), (0, .class_ 18), (0, u "com/example/patient_snoop/patientsnoop/model/ConfigurationCachesPinLaw"), (2, u "law"), (0, u "(IIIII)Z")] 5

def k1m0 : Method := { name := "<init>", desc := "()V", sig := { parameters := [], returnType := none }, accessFlags := 1, code := none }
def k1c1 : Code := { maxStack := 4, maxLocals := 14, code := code, exceptionTable := #[], attributes := #[] }
def k1m1 : Method := { name := "law", desc := "(IIIII)Z", sig := { parameters := [.int, .int, .int, .int, .int], returnType := some .boolean }, accessFlags := 9, code := some k1c1 }
/-- com/example/patient_snoop/patientsnoop/model/ConfigurationCachesPinLaw -/
def k1 : Class := { plain "com/example/patient_snoop/patientsnoop/model/ConfigurationCachesPinLaw" (some 0) with
  accessFlags := 49
  interfaces := #[]
  cf := some (fileOf pool1 17 #[] #[{ accessFlags := 1, nameIndex := 5, descriptorIndex := 6, attributes := #[] }, { accessFlags := 9, nameIndex := 21, descriptorIndex := 22, attributes := #[] }] 49 2 #[] #[])
  fields := #[]
  methods := #[k1m0, k1m1]
  instanceTypes := #[]
  staticTypes := #[]
  resolved := Array.replicate 28 none
  statics := none }

def pool2 : Array CpInfo := pool [(1, .methodref 2 3), (0, .class_ 4), (0, .nameAndType 5 6), (0, u "java/lang/Object"), (0, u "<init>"), (0, u "()V"), (0, .methodref 8 9), (0, .class_ 10), (0, .nameAndType 11 12), (0, u "[I"), (0, u "clone"), (0, u "()Ljava/lang/Object;"), (0, .fieldref 14 15), (0, .class_ 16), (0, .nameAndType 17 10), (0, u "com/example/patient_snoop/patientsnoop/model/Configuration"), (0, u "counts"), (23, u "([I)V"), (7, u "caches"), (0, u "()J")] 21

def k2c0 : Code := { maxStack := 3, maxLocals := 6, code := prog_19_method_1_code, exceptionTable := #[], attributes := #[] }
def k2m0 : Method := { name := "<init>", desc := "([I)V", sig := { parameters := [(.array .int)], returnType := none }, accessFlags := 129, code := some k2c0 }
def k2c1 : Code := { maxStack := 4, maxLocals := 7, code := prog_19_method_4_code, exceptionTable := #[], attributes := #[] }
def k2m1 : Method := { name := "caches", desc := "()J", sig := { parameters := [], returnType := some .long }, accessFlags := 1, code := some k2c1 }
/-- com/example/patient_snoop/patientsnoop/model/Configuration -/
def k2 : Class := { plain "com/example/patient_snoop/patientsnoop/model/Configuration" (some 0) with
  accessFlags := 33
  interfaces := #[]
  cf := some (fileOf pool2 14 #[] #[{ accessFlags := 129, nameIndex := 5, descriptorIndex := 41, attributes := #[] }, { accessFlags := 1, nameIndex := 49, descriptorIndex := 50, attributes := #[] }] 33 2 #[] #[{ accessFlags := 18, nameIndex := 17, descriptorIndex := 10, attributes := #[] }])
  fields := #[{ name := "counts", type := (.array .int), accessFlags := 18, slot := 0, constantValue := 0 }]
  methods := #[k2m0, k2m1]
  instanceTypes := #[(.array .int)]
  staticTypes := #[]
  resolved := Array.replicate 72 none
  statics := none }

def pool3 : Array CpInfo := pool [(1, .class_ 2), (0, u "java/lang/Cloneable"), (0, .class_ 4), (0, u "java/lang/Object")] 2

/-- java/lang/Cloneable -/
def k3 : Class := { plain "java/lang/Cloneable" (some 0) with
  accessFlags := 1537
  interfaces := #[]
  cf := some (fileOf pool3 1 #[] #[] 1537 3 #[] #[])
  fields := #[]
  methods := #[]
  instanceTypes := #[]
  staticTypes := #[]
  resolved := Array.replicate 7 none
  statics := none }

def pool4 : Array CpInfo := pool [(1, u "java/io/Serializable"), (0, .class_ 1), (0, u "java/lang/Object"), (0, .class_ 3)] 3

/-- java/io/Serializable -/
def k4 : Class := { plain "java/io/Serializable" (some 0) with
  accessFlags := 1537
  interfaces := #[]
  cf := some (fileOf pool4 2 #[] #[] 1537 4 #[] #[])
  fields := #[]
  methods := #[]
  instanceTypes := #[]
  staticTypes := #[]
  resolved := Array.replicate 8 none
  statics := none }

/-- the primitive byte -/
def k5 : Class := { plain "byte" none with kind := .primitive 'B', accessFlags := 0x411 }
/-- [B -/
def k6 : Class := { plain "[B" (some 0) with kind := .array 5 .byte, interfaces := #[3, 4], accessFlags := 1041 }

/-- the primitive int -/
def k7 : Class := { plain "int" none with kind := .primitive 'I', accessFlags := 0x411 }
/-- [I -/
def k8 : Class := { plain "[I" (some 0) with kind := .array 7 .int, interfaces := #[3, 4], accessFlags := 1041 }

def heap : Heap := #[]
def classes : Array Class := #[k0, k1, k2, k3, k4, k5, k6, k7, k8]
def interned : List (Array UInt16 × Addr) := []
def slotsUsed : Nat := 0
def theMethod : MethodId := ⟨1, 1⟩
def args0 : Array Value := #[.int 3, .int 5, .int 6, .int 7, .int 8]
def aboutOver (below : List Frame) : State where
  vm := { classes := classes, interned := interned.toArray }
  heap := heap
  slotsUsed := slotsUsed
  threads := #[{ frames := .invoking theMethod args0 :: below }]
def below0 : List Frame := [.native { method := ⟨0, 0⟩, args := #[] }]
def about1 : State := aboutOver below0
def p0 : Program := .bare "" "" ""
def e0 : Env := launch0.env 0 0 0
theorem w_frames : about1.frames = Frame.invoking theMethod args0 :: below0 := rfl
set_option maxRecDepth 65536 in
theorem w_args : argsFit about1.vm theMethod args0 = true := by decide +kernel
set_option maxRecDepth 65536 in
theorem w_heap : heapFits about1 = true := by decide +kernel
set_option maxRecDepth 65536 in
theorem w_runnable : about1.curStatus? = some .runnable := by decide +kernel
set_option maxRecDepth 65536 in
theorem w_alone : about1.alone = true := by decide +kernel
set_option maxRecDepth 65536 in
theorem w_named : about1.methodNamed? x = some theMethod := by decide +kernel
set_option maxRecDepth 65536 in
theorem w_hears : about1.hears theMethod below0 = true := by decide +kernel
set_option maxRecDepth 65536 in
theorem w_ripe : about1.ripe theMethod args0 below0 = true := by decide +kernel
theorem w_running : about1.status = .running := rfl
set_option maxRecDepth 65536 in
theorem w_room : about1.hasRoom e0.platform room_1 = true :=
  launch0.hasRoom_least _ room_1 (by decide +kernel) (by decide +kernel) (by decide +kernel) (by decide +kernel) (by decide +kernel) (by decide +kernel)
theorem allAtoms_all (ts : List Jvm.Cond) (a : Array Jvm.Value) (st : Jvm.State) : (allAtoms ts).before a st = ts.all (fun c => c.before a st) := by
  induction ts with
  | nil => rfl
  | cons c t ih =>
    show (Jvm.Cond.and c (allAtoms t)).before a st = _
    rw [Jvm.Cond.before_and, ih, List.all_cons]
def words1 : List Jvm.Cond := Jvm.Cond.code x code maxLocals ret :: tables_1
/-- a 'code' word, met by the world's own term for the bytes: nothing is compared byte by byte -/
theorem code_word {y : MethodName} {bytes : ByteArray} {mx : Nat} {rt : Option FieldType} {a : Array Value} {s : State} {m : MethodId} {meth : Method} {c : Code} (h1 : s.methodNamed? y = some m) (h2 : s.vm.method? m = some meth) (h3 : meth.code = some c) (h4 : c.code = bytes)
    (h5 : (c.maxLocals == mx && c.exceptionTable.isEmpty && decide (c.maxStack ≤ mostOperands) && decide (meth.sig.returnType = rt) && !meth.locks && decide (parseMethodDescriptor y.desc = some meth.sig)) = true) : (Jvm.Cond.code y bytes mx rt).before a s = true := by
  simp only [Bool.and_eq_true, beq_iff_eq, Bool.not_eq_true', decide_eq_true_eq] at h5
  obtain ⟨⟨⟨⟨⟨g1, g2⟩, g3⟩, g4⟩, g5⟩, g6⟩ := h5
  simp [Cond.before, Cond.holds, Cond.value, h1, h2, h3, h4, g1, g2, g3, g4, g5, g6]
def isCode : Jvm.Cond → Bool
  | .code _ _ _ _ => true
  | _ => false
theorem all_split {L : List Jvm.Cond} {P : Jvm.Cond → Bool} (h1 : L.all (fun c => isCode c || P c) = true) (h2 : ∀ c ∈ L.filter isCode, P c = true) : L.all P = true := by
  refine List.all_eq_true.mpr fun c hc => ?_
  have h := List.all_eq_true.mp h1 c hc
  rcases Bool.eq_false_or_eq_true (isCode c) with hi | hi
  · exact h2 c (List.mem_filter.mpr ⟨hc, hi⟩)
  · simpa [hi] using h
set_option maxRecDepth 65536 in
theorem w_c0 : (Jvm.Cond.code x code maxLocals ret).before args0 about1 = true := code_word (m := ⟨1, 1⟩) (meth := k1m1) (c := k1c1) (by decide +kernel) rfl rfl rfl (by decide +kernel)
set_option maxRecDepth 65536 in
theorem w_c1 : (Jvm.Cond.code ({ cls := "com/example/patient_snoop/patientsnoop/model/Configuration", name := "<init>", desc := "([I)V" } : Jvm.MethodName) prog_19_method_1_code (6 : Nat) (Option.none : Option Jvm.ClassFile.FieldType)).before args0 about1 = true := code_word (m := ⟨2, 0⟩) (meth := k2m0) (c := k2c0) (by decide +kernel) rfl rfl rfl (by decide +kernel)
set_option maxRecDepth 65536 in
theorem w_c2 : (Jvm.Cond.code ({ cls := "java/lang/Object", name := "<init>", desc := "()V" } : Jvm.MethodName) object_method_1_code (1 : Nat) (Option.none : Option Jvm.ClassFile.FieldType)).before args0 about1 = true := code_word (m := ⟨0, 0⟩) (meth := k0m0) (c := k0c0) (by decide +kernel) rfl rfl rfl (by decide +kernel)
set_option maxRecDepth 65536 in
theorem w_c3 : (Jvm.Cond.code ({ cls := "com/example/patient_snoop/patientsnoop/model/Configuration", name := "caches", desc := "()J" } : Jvm.MethodName) prog_19_method_4_code (7 : Nat) (Option.some Jvm.ClassFile.FieldType.long)).before args0 about1 = true := code_word (m := ⟨2, 1⟩) (meth := k2m1) (c := k2c1) (by decide +kernel) rfl rfl rfl (by decide +kernel)
def codes1 : List Jvm.Cond := [Jvm.Cond.code x code maxLocals ret, Jvm.Cond.code ({ cls := "com/example/patient_snoop/patientsnoop/model/Configuration", name := "<init>", desc := "([I)V" } : Jvm.MethodName) prog_19_method_1_code (6 : Nat) (Option.none : Option Jvm.ClassFile.FieldType), Jvm.Cond.code ({ cls := "java/lang/Object", name := "<init>", desc := "()V" } : Jvm.MethodName) object_method_1_code (1 : Nat) (Option.none : Option Jvm.ClassFile.FieldType), Jvm.Cond.code ({ cls := "com/example/patient_snoop/patientsnoop/model/Configuration", name := "caches", desc := "()J" } : Jvm.MethodName) prog_19_method_4_code (7 : Nat) (Option.some Jvm.ClassFile.FieldType.long)]
set_option maxRecDepth 65536 in
theorem codes_eq : words1.filter isCode = codes1 := rfl
theorem w_codes : ∀ c ∈ words1.filter isCode, c.before args0 about1 = true := by
  rw [codes_eq]
  intro c hc
  simp only [codes1, List.mem_cons, List.not_mem_nil, or_false] at hc
  rcases hc with rfl | rfl | rfl | rfl
  · exact w_c0
  · exact w_c1
  · exact w_c2
  · exact w_c3
set_option maxRecDepth 65536 in
theorem w_t1 : (words1.take 24).all (fun c => isCode c || c.before args0 about1) = true := by decide +kernel
set_option maxRecDepth 65536 in
theorem w_t2 : (words1.drop 24).all (fun c => isCode c || c.before args0 about1) = true := by decide +kernel
theorem w_tables : (allAtoms (Jvm.Cond.code x code maxLocals ret :: tables_1)).before args0 about1 = true := by
  rw [allAtoms_all]
  show words1.all (fun c => c.before args0 about1) = true
  refine all_split ?_ w_codes
  rw [← List.take_append_drop 24 words1, List.all_append, w_t1, w_t2]
  rfl
set_option maxRecDepth 65536 in
theorem w_case : (Jvm.Cond.and given_1 narrow_1).before args0 about1 = true := by decide +kernel
theorem w_applies : (headSpec (Jvm.Cond.code x code maxLocals ret :: tables_1) room_1).applies x e0.platform about1 = true :=
  (Spec.applies_iff w_frames).mpr ⟨w_running, w_runnable, w_alone, w_named, w_hears, w_ripe, w_room, w_tables⟩
theorem atStart : AtStart classFile x code maxLocals ret World_1 tables_1 room_1 Calls_1 rest_1 Pre_1 launch0 p0 e0 about1 theMethod args0 below0 :=
  ⟨lists_1, trivial, launch0.admits_env _ _ _, launch0.least_env, fairChoices_fair.cas, fairChoices_fair.clock, w_frames, w_args, w_heap, w_applies, trivial, trivial, w_case⟩
end start1
theorem witness_1 : WitnessClaimed_1 := ⟨start1.p0, start1.e0, start1.about1, start1.theMethod, start1.args0, start1.below0, start1.atStart⟩
end Jvm.Pilot.@@N@@
