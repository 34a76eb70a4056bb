import JvmDerived
import JvmDerived.Pilot.@@N@@Statement
import JvmDerived.Pilot.@@N@@Code
set_option linter.unusedVariables false
set_option linter.unusedSimpArgs false
namespace Jvm.Pilot.@@N@@
open Jvm Jvm.ClassFile Sem Op Lib Jvm.Free Jvm.Stand Jvm.LawKit Jvm.RoadKit Bundle Jvm.Pilot.@@N@@.Jvm.D
section OwnKit
variable {p : Program} {l : Launch} {e : Env} {R : Room} {s : State} {m : MethodId} {args : Array Value} {below : List Frame} {meth : Method} {c : Code} {T : State} {locs : List Loc} {cells slots ck sk : Nat} {S S' t : State} {Q : Option Value → Heap → List Loc → Prop}
/-- from S the run comes to a return of which Q is said -/
def Go (p : Program) (e : Env) (below : List Frame) (s : State) (Q : Option Value → Heap → List Loc → Prop) (ck sk : Nat) (S : State) : Prop :=
  ∃ s₂ o, Steps p.tables e below S s₂ ∧ s₂.status = .running ∧ Ended s₂ below o ∧ ∃ v L, o = .returned v ∧ Q v s₂.heap L ∧ FrameEnd s o s₂ L ck sk
theorem Go.st (h : ∀ t, Steps p.tables e below S' t → Steps p.tables e below S t) (k : Go p e below s Q ck sk S') : Go p e below s Q ck sk S := by
  obtain ⟨s₂, o, h1, r⟩ := k
  exact ⟨s₂, o, h _ h1, r⟩
theorem Go.tr (h : Steps p.tables e below S S') (k : Go p e below s Q ck sk S') : Go p e below s Q ck sk S := Go.st (fun _ q => h.trans q) k
theorem via (h : Steps p.tables e below S' t → Steps p.tables e below S t) (k : Steps p.tables e below S' t) : Steps p.tables e below S t := h k
theorem Go.retW (X : Stand p l e R s m args below meth c T locs cells slots) (hx : p.tables.exec = Jvm.exec) (hlk : meth.locks = false) {pc : Nat} {Ls : Array Slot} {w : Value} {ty : FieldType} {i : Instr} {rest : List Value} (hret : meth.sig.returnType = some ty) (hn : narrow ty w = w)
    (hi : (i = .ireturn ∧ (ty = .int ∨ ty = .boolean ∨ ty = .byte ∨ ty = .char ∨ ty = .short) ∧ ∃ z, w = .int z) ∨ (i = .lreturn ∧ ty = .long ∧ ∃ z, w = .long z) ∨ (i = .dreturn ∧ ty = .double ∧ ∃ z, w = .double z) ∨ (i = .freturn ∧ ty = .float ∧ ∃ z, w = .float z) ∨ (i = .areturn ∧ ty.isReference = true ∧ w.isRef = true))
    (hd : decode c.code pc = .ok (i, 1)) (hQ : Q (some w) T.heap locs) (hc : cells ≤ ck) (hs : slots ≤ sk) : Go p e below s Q ck sk (T.setTop (mkF m pc Ls (w :: rest))) := by
  obtain ⟨fs, hr, hrun, hended, hW, hsame⟩ := X.leave (v := some w) (fun h => by rw [hret] at h; cases h)
  exact ⟨_, _, retOut X hx hret hn hi hd hr, hrun, hended, _, _, rfl, hQ, ⟨_, rfl⟩, hW, hsame.mono hc hs⟩
theorem Go.retI (X : Stand p l e R s m args below meth c T locs cells slots) (hx : p.tables.exec = Jvm.exec) (hlk : meth.locks = false) {pc : Nat} {Ls : Array Slot} {z : Int32} {rest : List Value} (hret : meth.sig.returnType = some .int) (hd : decode c.code pc = .ok (.ireturn, 1)) (hQ : Q (some (.int z)) T.heap locs) (hc : cells ≤ ck) (hs : slots ≤ sk) : Go p e below s Q ck sk (T.setTop (mkF m pc Ls (.int z :: rest))) :=
  Go.retW X hx hlk hret rfl (Or.inl ⟨rfl, Or.inl rfl, _, rfl⟩) hd hQ hc hs
theorem Go.retJ (X : Stand p l e R s m args below meth c T locs cells slots) (hx : p.tables.exec = Jvm.exec) (hlk : meth.locks = false) {pc : Nat} {Ls : Array Slot} {z : Int64} {rest : List Value} (hret : meth.sig.returnType = some .long) (hd : decode c.code pc = .ok (.lreturn, 1)) (hQ : Q (some (.long z)) T.heap locs) (hc : cells ≤ ck) (hs : slots ≤ sk) : Go p e below s Q ck sk (T.setTop (mkF m pc Ls (.long z :: rest))) :=
  Go.retW X hx hlk hret rfl (Or.inr (Or.inl ⟨rfl, rfl, _, rfl⟩)) hd hQ hc hs
theorem Go.retA (X : Stand p l e R s m args below meth c T locs cells slots) (hx : p.tables.exec = Jvm.exec) (hlk : meth.locks = false) {pc : Nat} {Ls : Array Slot} {w : Value} {ty : FieldType} {rest : List Value} (hret : meth.sig.returnType = some ty) (ht : ty.isReference = true) (hw : w.isRef = true) (hd : decode c.code pc = .ok (.areturn, 1)) (hQ : Q (some w) T.heap locs) (hc : cells ≤ ck) (hs : slots ≤ sk) : Go p e below s Q ck sk (T.setTop (mkF m pc Ls (w :: rest))) :=
  Go.retW X hx hlk hret (by cases ty <;> first | (cases ht; done) | (cases w <;> first | rfl | cases hw)) (Or.inr (Or.inr (Or.inr (Or.inr ⟨rfl, ht, hw⟩)))) hd hQ hc hs
theorem Go.retN (X : Stand p l e R s m args below meth c T locs cells slots) (hx : p.tables.exec = Jvm.exec) (hlk : meth.locks = false) {pc : Nat} {Ls : Array Slot} {z : Int32} {t : FieldType} {rest : List Value} (hret : meth.sig.returnType = some t) (ht : t = .boolean ∨ t = .byte ∨ t = .char ∨ t = .short) (hd : decode c.code pc = .ok (.ireturn, 1)) (hQ : Q (some (.int (nar t z))) T.heap locs) (hc : cells ≤ ck) (hs : slots ≤ sk) : Go p e below s Q ck sk (T.setTop (mkF m pc Ls (.int z :: rest))) := by
  obtain ⟨fs, hr, hrun, hended, hW, hsame⟩ := X.leave (v := some (.int (nar t z))) (fun h => by rw [hret] at h; cases h)
  exact ⟨_, _, Jvm.RoadKit.retN X hx hret ht hd hr, hrun, hended, _, _, rfl, hQ, ⟨_, rfl⟩, hW, hsame.mono hc hs⟩
theorem Go.ret0 (X : Stand p l e R s m args below meth c T locs cells slots) (hx : p.tables.exec = Jvm.exec) (hlk : meth.locks = false) {pc : Nat} {Ls : Array Slot} (hret : meth.sig.returnType = none) (hd : decode c.code pc = .ok (.return_, 1)) (hQ : Q none T.heap locs) (hc : cells ≤ ck) (hs : slots ≤ sk) : Go p e below s Q ck sk (T.setTop (mkF m pc Ls [])) := by
  obtain ⟨fs, hr, hrun, hended, hW, hsame⟩ := X.leave (v := none) (fun _ => rfl)
  exact ⟨_, _, X.returnOut hx hret hd hr, hrun, hended, _, _, rfl, hQ, ⟨_, rfl⟩, hW, hsame.mono hc hs⟩
/-- what a body leaves that writes nothing -/
def PQ (w : Value) (n0 : Nat) (h0 : Heap) (v : Option Value) (h : Heap) (L : List Loc) : Prop := v = some w ∧ Fr n0 L ∧ h = h0
/-- what the law leaves -/
def LQ (n0 : Nat) (v : Option Value) (h : Heap) (L : List Loc) : Prop := v = some (.int 1) ∧ Fr n0 L
/-- the j-th of a list of ints -/
def bt (bs : List Int32) (j : Int32) : Int32 := bs.getD j.toNatClampNeg 0
theorem own_at {bs : List Int32} {c : Cell} {j : Int32} (H : Has c (bs.map .int) (.int 0)) (hin : ¬ (j < 0 ∨ c.slots.size ≤ j.toNatClampNeg)) : c.slots[j.toNatClampNeg]? = some (.int (bt bs j)) :=
  Has.at H hin (by unfold bt; simp only [List.getD, List.getElem?_map]; cases bs[j.toNatClampNeg]? <;> rfl)
theorem own_len {t : Term} {a : Addr} {cl : Cell} {n : Int32} (ev : t.eval args s none [] s = some (.ref a)) (ha : s.arrayAt? a = some cl) (h : (Cond.eq (.length t) (.int n)).value args s none s [] = some true) : cl.slots.size < 2 ^ 31 ∧ cl.slots.size.toInt32 = n := by
  by_cases q : cl.slots.size < 2 ^ 31
  · exact ⟨q, gotT (Cond.eq_ints (len_f ev ha q) (Term.int_eval n)) h⟩
  · exfalso
    simp [Cond.value, Term.eval, ev, ha, q] at h
theorem own_size {cl : Cell} {n : Int32} {k : Nat} (q : cl.slots.size < 2 ^ 31 ∧ cl.slots.size.toInt32 = n) (hk : n.toInt = k) : cl.slots.size = k := by
  have h := len_toInt q.1
  rw [q.2, hk] at h
  omega
end OwnKit

theorem pd_0 : parseMethodDescriptor "([BIIII)Z" = some ⟨[(.array .byte), .int, .int, .int, .int], some .boolean⟩ := by decide +kernel
theorem own_rng {x : Int32} (h0 : 0 ≤ x.toInt) (h1 : x.toInt < 6) : ¬ x < (0 : Int32) ∧ x < (6 : Int32) := by
  simp only [Int32.lt_iff_toInt_lt, Int32.reduceToInt]; omega
theorem own_sum {x y : Int32} (h0 : 0 ≤ x.toInt) (h1 : x.toInt ≤ 6) (h2 : 0 ≤ y.toInt) (h3 : y.toInt ≤ 6) : (x + y).toInt = x.toInt + y.toInt := XT.add32 ⟨by omega, by omega⟩
theorem own_dif {x y : Int32} (h0 : 0 ≤ x.toInt) (h1 : x.toInt ≤ 7) (h2 : 0 ≤ y.toInt) (h3 : y.toInt ≤ 7) : (x - y).toInt = x.toInt - y.toInt := XT.sub32 ⟨by omega, by omega⟩
def own_all (bs : List Int32) (s o : Int32) (n : Int) : Prop := ∀ d : Nat, (d : Int) < n → bs.getD (s.toInt.toNat + d) 0 = bs.getD (o.toInt.toNat + d) 0
theorem own_bt {bs : List Int32} {s i : Int32} (h0 : 0 ≤ s.toInt) (h1 : s.toInt ≤ 6) (h2 : 0 ≤ i.toInt) (h3 : i.toInt ≤ 6) : bt bs (s + i) = bs.getD (s.toInt.toNat + i.toInt.toNat) 0 := by
  unfold bt
  rw [show (s + i).toNatClampNeg = s.toInt.toNat + i.toInt.toNat from by rw [Int32.toNatClampNeg, own_sum h0 h1 h2 h3]; omega]
def fE (bs : List Int32) (p1 : Int32) (p2 : Int32) (p3 : Int32) (p4 : Int32) : Int32 := (if p3 < p4 then (if (bt bs (p1 + p3)) = (bt bs (p2 + p3)) then (1 : Int32) else (0 : Int32)) else (1 : Int32))
theorem d2_0 : decode method_3_code 0 = .ok (.iload_n 3, 1) := by decide +kernel
theorem d2_1 : decode method_3_code 1 = .ok (.iload 4, 2) := by decide +kernel
theorem d2_3 : decode method_3_code 3 = .ok (.if_icmp .ge 16, 3) := by decide +kernel
theorem d2_6 : decode method_3_code 6 = .ok (.aload_n 0, 1) := by decide +kernel
theorem d2_7 : decode method_3_code 7 = .ok (.iload_n 1, 1) := by decide +kernel
theorem d2_8 : decode method_3_code 8 = .ok (.iload_n 3, 1) := by decide +kernel
theorem d2_9 : decode method_3_code 9 = .ok (.iadd, 1) := by decide +kernel
theorem d2_10 : decode method_3_code 10 = .ok (.baload, 1) := by decide +kernel
theorem d2_11 : decode method_3_code 11 = .ok (.aload_n 0, 1) := by decide +kernel
theorem d2_12 : decode method_3_code 12 = .ok (.iload_n 2, 1) := by decide +kernel
theorem d2_13 : decode method_3_code 13 = .ok (.iload_n 3, 1) := by decide +kernel
theorem d2_14 : decode method_3_code 14 = .ok (.iadd, 1) := by decide +kernel
theorem d2_15 : decode method_3_code 15 = .ok (.baload, 1) := by decide +kernel
theorem d2_16 : decode method_3_code 16 = .ok (.if_icmp .ne 7, 3) := by decide +kernel
theorem d2_19 : decode method_3_code 19 = .ok (.iconst 1, 1) := by decide +kernel
theorem d2_20 : decode method_3_code 20 = .ok (.goto 4, 3) := by decide +kernel
theorem d2_23 : decode method_3_code 23 = .ok (.iconst 0, 1) := by decide +kernel
theorem d2_24 : decode method_3_code 24 = .ok (.ireturn, 1) := by decide +kernel
theorem pn_0 : plainName "com/example/grantbook/grantbook/licence/PlainXmlSameBytesPinLaw" = true := by first | (simp [plainName, overriddenIn]; done) | decide +kernel
theorem ef_2 (m : MethodId) (a0 : Addr) (p1 : Int32) (p2 : Int32) (p3 : Int32) (p4 : Int32) : entryFrame m #[(.ref a0), (.int p1), (.int p2), (.int p3), (.int p4)] 5 = mkF m 0 #[.val (.ref a0), .val (.int p1), .val (.int p2), .val (.int p3), .val (.int p4)] [] := by first | (simp [entryFrame, mkF, argsToLocals, Value.category]; done) | rfl
set_option maxRecDepth 65536 in
set_option maxHeartbeats 40000000 in
theorem rmE (l : Launch) (Z : State) (az : Array Value) (hw : ∀ d ∈ tables_1, d.before az Z = true) (ws : List Jvm.Cond) (a0 : Addr) (p1 : Int32) (p2 : Int32) (p3 : Int32) (p4 : Int32) (kk : ClassId) (bs : List Int32) (h0 : Heap) (n0 : Nat) (Z0 : n0 ≤ h0.size) (V_a : Arv Z h0 a0 kk .byte (6 : Int32) (bs.map .int) (.int 0)) (hr : p3 < p4 → (¬ (p1 + p3) < (0 : Int32) ∧ (p1 + p3) < (6 : Int32)) ∧ (¬ (p2 + p3) < (0 : Int32) ∧ (p2 + p3) < (6 : Int32))) :
    MetFree l (⟨"com/example/grantbook/grantbook/licence/PlainXmlSameBytesPinLaw", "eqAt", "([BIIII)Z"⟩ : MethodName) (head1 (Jvm.Cond.code (⟨"com/example/grantbook/grantbook/licence/PlainXmlSameBytesPinLaw", "eqAt", "([BIIII)Z"⟩ : MethodName) method_3_code 5 (some .boolean) :: ws) ({ frames := 0, cells := 0, slots := 0, locals := 0 } : Room)) (fun a U => a = #[(.ref a0), (.int p1), (.int p2), (.int p3), (.int p4)] ∧ Z.Warmed39 U.vm ∧ U.heap = h0) (fun _ _ _ _ _ => True) (fun _ U o U' => ∃ v L, o = .returned v ∧ (PQ (.int (fE bs p1 p2 p3 p4)) n0 h0) v U'.heap L ∧ FrameEnd U o U' L ({ frames := 0, cells := 0, slots := 0, locals := 0 } : Room).cells ({ frames := 0, cells := 0, slots := 0, locals := 0 } : Room).slots) := by
  refine MetFree.of_bodySF (plainFor_of_name pn_0) hisR ?_
  intro p e s m args below meth c s₁ Bd hml0 hP hK
  obtain ⟨rfl, hZ, hh⟩ := hP
  have hx := Bd.exec
  have hby := Bd.bytes
  have hlk : meth.locks = false := Bd.notSynchronized
  have hml : c.maxLocals = 5 := hml0
  have hown : s.vm.findClass "com/example/grantbook/grantbook/licence/PlainXmlSameBytesPinLaw" = some m.cls := findClass_of_methodNamed Bd.named
  have hnm := (name_of_methodNamed Bd.named Bd.method).1
  have X0 : Stand p l e ({ frames := 0, cells := 0, slots := 0, locals := 0 } : Room) s m #[(.ref a0), (.int p1), (.int p2), (.int p3), (.int p4)] below meth c s₁ [] 0 0 := Stand.of_body Bd
  have e0 : s₁.heap = h0 := by rw [← hh, Bd.state]; rfl
  have N0 := Fr.nil n0
  show Go p e below s ((PQ (.int (fE bs p1 p2 p3 p4)) n0 h0)) ({ frames := 0, cells := 0, slots := 0, locals := 0 } : Room).cells ({ frames := 0, cells := 0, slots := 0, locals := 0 } : Room).slots (s₁.setTop (entryFrame m #[(.ref a0), (.int p1), (.int p2), (.int p3), (.int p4)] 5))
  rw [ef_2 m a0 p1 p2 p3 p4]
  refine Go.st (S' := s₁.setTop (mkF m 1 #[.val (.ref a0), .val (.int p1), .val (.int p2), .val (.int p3), .val (.int p4)] [(.int p3)])) (fun _ kk => XS.iloadN X0.here hx rfl (hb hby d2_0) rfl kk) ?_
  refine Go.st (S' := s₁.setTop (mkF m 3 #[.val (.ref a0), .val (.int p1), .val (.int p2), .val (.int p3), .val (.int p4)] [(.int p4), (.int p3)])) (fun _ kk => XS.iload X0.here hx rfl (hb hby d2_1) rfl kk) ?_
  by_cases hc1 : p3 < p4
  · refine Go.st (S' := s₁.setTop (mkF m 6 #[.val (.ref a0), .val (.int p1), .val (.int p2), .val (.int p3), .val (.int p4)] [])) (fun _ kk => XS.icmpNo X0.here hx rfl (hb hby d2_3) rfl (tlt hc1).2.1 kk) ?_
    refine Go.st (S' := s₁.setTop (mkF m 7 #[.val (.ref a0), .val (.int p1), .val (.int p2), .val (.int p3), .val (.int p4)] [(.ref a0)])) (fun _ kk => XS.aloadN X0.here hx rfl (hb hby d2_6) rfl rfl kk) ?_
    refine Go.st (S' := s₁.setTop (mkF m 8 #[.val (.ref a0), .val (.int p1), .val (.int p2), .val (.int p3), .val (.int p4)] [(.int p1), (.ref a0)])) (fun _ kk => XS.iloadN X0.here hx rfl (hb hby d2_7) rfl kk) ?_
    refine Go.st (S' := s₁.setTop (mkF m 9 #[.val (.ref a0), .val (.int p1), .val (.int p2), .val (.int p3), .val (.int p4)] [(.int p3), (.int p1), (.ref a0)])) (fun _ kk => XS.iloadN X0.here hx rfl (hb hby d2_8) rfl kk) ?_
    refine Go.st (S' := s₁.setTop (mkF m 10 #[.val (.ref a0), .val (.int p1), .val (.int p2), .val (.int p3), .val (.int p4)] [(.int (p1 + p3)), (.ref a0)])) (fun _ kk => XS.iadd X0.here hx rfl (hb hby d2_9) rfl kk) ?_
    obtain ⟨cl2, Ar2, q2, S2, Ng2, H2, G2⟩ := (id V_a)
    have hin2 : ¬ ((p1 + p3) < 0 ∨ cl2.slots.size ≤ ((p1 + p3)).toNatClampNeg) := inb_of S2 ((hr hc1).1)
    have hat2 : cl2.slots[((p1 + p3)).toNatClampNeg]? = some (.int (bt bs (p1 + p3))) := own_at H2 hin2
    refine Go.st (S' := s₁.setTop (mkF m 11 #[.val (.ref a0), .val (.int p1), .val (.int p2), .val (.int p3), .val (.int p4)] [(.int (bt bs (p1 + p3)))])) (fun _ kk => X0.baloadBytes hx (j := (p1 + p3)) (v := (.int (bt bs (p1 + p3)))) (by rw [e0]; exact Ar2.1) (State.isArrayOf_alike hZ.alike Ar2.2.1) Ar2.2.2 hin2 hat2 (g := (mkF m 10 #[.val (.ref a0), .val (.int p1), .val (.int p2), .val (.int p3), .val (.int p4)] [(.int (p1 + p3)), (.ref a0)])) rfl rfl (hb hby d2_10) _ kk) ?_
    refine Go.st (S' := s₁.setTop (mkF m 12 #[.val (.ref a0), .val (.int p1), .val (.int p2), .val (.int p3), .val (.int p4)] [(.ref a0), (.int (bt bs (p1 + p3)))])) (fun _ kk => XS.aloadN X0.here hx rfl (hb hby d2_11) rfl rfl kk) ?_
    refine Go.st (S' := s₁.setTop (mkF m 13 #[.val (.ref a0), .val (.int p1), .val (.int p2), .val (.int p3), .val (.int p4)] [(.int p2), (.ref a0), (.int (bt bs (p1 + p3)))])) (fun _ kk => XS.iloadN X0.here hx rfl (hb hby d2_12) rfl kk) ?_
    refine Go.st (S' := s₁.setTop (mkF m 14 #[.val (.ref a0), .val (.int p1), .val (.int p2), .val (.int p3), .val (.int p4)] [(.int p3), (.int p2), (.ref a0), (.int (bt bs (p1 + p3)))])) (fun _ kk => XS.iloadN X0.here hx rfl (hb hby d2_13) rfl kk) ?_
    refine Go.st (S' := s₁.setTop (mkF m 15 #[.val (.ref a0), .val (.int p1), .val (.int p2), .val (.int p3), .val (.int p4)] [(.int (p2 + p3)), (.ref a0), (.int (bt bs (p1 + p3)))])) (fun _ kk => XS.iadd X0.here hx rfl (hb hby d2_14) rfl kk) ?_
    obtain ⟨cl3, Ar3, q3, S3, Ng3, H3, G3⟩ := (id V_a)
    have hin3 : ¬ ((p2 + p3) < 0 ∨ cl3.slots.size ≤ ((p2 + p3)).toNatClampNeg) := inb_of S3 ((hr hc1).2)
    have hat3 : cl3.slots[((p2 + p3)).toNatClampNeg]? = some (.int (bt bs (p2 + p3))) := own_at H3 hin3
    refine Go.st (S' := s₁.setTop (mkF m 16 #[.val (.ref a0), .val (.int p1), .val (.int p2), .val (.int p3), .val (.int p4)] [(.int (bt bs (p2 + p3))), (.int (bt bs (p1 + p3)))])) (fun _ kk => X0.baloadBytes hx (j := (p2 + p3)) (v := (.int (bt bs (p2 + p3)))) (by rw [e0]; exact Ar3.1) (State.isArrayOf_alike hZ.alike Ar3.2.1) Ar3.2.2 hin3 hat3 (g := (mkF m 15 #[.val (.ref a0), .val (.int p1), .val (.int p2), .val (.int p3), .val (.int p4)] [(.int (p2 + p3)), (.ref a0), (.int (bt bs (p1 + p3)))])) rfl rfl (hb hby d2_15) _ kk) ?_
    by_cases hc4 : (bt bs (p1 + p3)) = (bt bs (p2 + p3))
    · refine Go.st (S' := s₁.setTop (mkF m 19 #[.val (.ref a0), .val (.int p1), .val (.int p2), .val (.int p3), .val (.int p4)] [])) (fun _ kk => XS.icmpNo X0.here hx rfl (hb hby d2_16) rfl (teq hc4).2 kk) ?_
      refine Go.st (S' := s₁.setTop (mkF m 20 #[.val (.ref a0), .val (.int p1), .val (.int p2), .val (.int p3), .val (.int p4)] [(.int (1 : Int32))])) (fun _ kk => XS.iconst X0.here hx rfl (hb hby d2_19) kk) ?_
      refine Go.st (S' := s₁.setTop (mkF m 24 #[.val (.ref a0), .val (.int p1), .val (.int p2), .val (.int p3), .val (.int p4)] [(.int (1 : Int32))])) (fun _ kk => XS.goto X0.here hx rfl (pc0 := 20) (pc' := 24) rfl (hb hby d2_20) (by decide) (by decide) kk) ?_
      exact Go.retN X0 hx hlk (t := .boolean) Bd.returns (by simp) (hb hby d2_24) (⟨congrArg (fun q => some (Value.int q)) (Eq.symm (show fE bs p1 p2 p3 p4 = (1 : Int32) from by unfold fE; rw [if_pos hc1, if_pos hc4])), N0, e0⟩) (by decide) (by decide)
    · refine Go.st (S' := s₁.setTop (mkF m 23 #[.val (.ref a0), .val (.int p1), .val (.int p2), .val (.int p3), .val (.int p4)] [])) (fun _ kk => XS.icmpYes X0.here hx rfl (pc0 := 16) (pc' := 23) rfl (hb hby d2_16) rfl (feq hc4).2 (by decide) (by decide) kk) ?_
      refine Go.st (S' := s₁.setTop (mkF m 24 #[.val (.ref a0), .val (.int p1), .val (.int p2), .val (.int p3), .val (.int p4)] [(.int (0 : Int32))])) (fun _ kk => XS.iconst X0.here hx rfl (hb hby d2_23) kk) ?_
      exact Go.retN X0 hx hlk (t := .boolean) Bd.returns (by simp) (hb hby d2_24) (⟨congrArg (fun q => some (Value.int q)) (Eq.symm (show fE bs p1 p2 p3 p4 = (0 : Int32) from by unfold fE; rw [if_pos hc1, if_neg hc4])), N0, e0⟩) (by decide) (by decide)
  · refine Go.st (S' := s₁.setTop (mkF m 19 #[.val (.ref a0), .val (.int p1), .val (.int p2), .val (.int p3), .val (.int p4)] [])) (fun _ kk => XS.icmpYes X0.here hx rfl (pc0 := 3) (pc' := 19) rfl (hb hby d2_3) rfl (flt hc1).2.1 (by decide) (by decide) kk) ?_
    refine Go.st (S' := s₁.setTop (mkF m 20 #[.val (.ref a0), .val (.int p1), .val (.int p2), .val (.int p3), .val (.int p4)] [(.int (1 : Int32))])) (fun _ kk => XS.iconst X0.here hx rfl (hb hby d2_19) kk) ?_
    refine Go.st (S' := s₁.setTop (mkF m 24 #[.val (.ref a0), .val (.int p1), .val (.int p2), .val (.int p3), .val (.int p4)] [(.int (1 : Int32))])) (fun _ kk => XS.goto X0.here hx rfl (pc0 := 20) (pc' := 24) rfl (hb hby d2_20) (by decide) (by decide) kk) ?_
    exact Go.retN X0 hx hlk (t := .boolean) Bd.returns (by simp) (hb hby d2_24) (⟨congrArg (fun q => some (Value.int q)) (Eq.symm (show fE bs p1 p2 p3 p4 = (1 : Int32) from by unfold fE; rw [if_neg hc1])), N0, e0⟩) (by decide) (by decide)
theorem d1_0 : decode prog_22_method_22_code 0 = .ok (.iload_n 2, 1) := by decide +kernel
theorem d1_1 : decode prog_22_method_22_code 1 = .ok (.iload_n 1, 1) := by decide +kernel
theorem d1_2 : decode prog_22_method_22_code 2 = .ok (.isub, 1) := by decide +kernel
theorem d1_3 : decode prog_22_method_22_code 3 = .ok (.iload 4, 2) := by decide +kernel
theorem d1_5 : decode prog_22_method_22_code 5 = .ok (.iload_n 3, 1) := by decide +kernel
theorem d1_6 : decode prog_22_method_22_code 6 = .ok (.isub, 1) := by decide +kernel
theorem d1_7 : decode prog_22_method_22_code 7 = .ok (.if_icmp .ne 7, 3) := by decide +kernel
theorem d1_10 : decode prog_22_method_22_code 10 = .ok (.iconst 1, 1) := by decide +kernel
theorem d1_11 : decode prog_22_method_22_code 11 = .ok (.goto 4, 3) := by decide +kernel
theorem d1_14 : decode prog_22_method_22_code 14 = .ok (.iconst 0, 1) := by decide +kernel
theorem d1_15 : decode prog_22_method_22_code 15 = .ok (.istore 5, 2) := by decide +kernel
theorem d1_17 : decode prog_22_method_22_code 17 = .ok (.iconst 0, 1) := by decide +kernel
theorem d1_18 : decode prog_22_method_22_code 18 = .ok (.istore 6, 2) := by decide +kernel
theorem d1_20 : decode prog_22_method_22_code 20 = .ok (.iload_n 1, 1) := by decide +kernel
theorem d1_21 : decode prog_22_method_22_code 21 = .ok (.iload 6, 2) := by decide +kernel
theorem d1_23 : decode prog_22_method_22_code 23 = .ok (.iadd, 1) := by decide +kernel
theorem d1_24 : decode prog_22_method_22_code 24 = .ok (.iload_n 2, 1) := by decide +kernel
theorem d1_25 : decode prog_22_method_22_code 25 = .ok (.if_icmp .ge 36, 3) := by decide +kernel
theorem d1_28 : decode prog_22_method_22_code 28 = .ok (.iload 5, 2) := by decide +kernel
theorem d1_30 : decode prog_22_method_22_code 30 = .ok (.ifCond .eq 31, 3) := by decide +kernel
theorem d1_33 : decode prog_22_method_22_code 33 = .ok (.aload_n 0, 1) := by decide +kernel
theorem d1_34 : decode prog_22_method_22_code 34 = .ok (.iload_n 1, 1) := by decide +kernel
theorem d1_35 : decode prog_22_method_22_code 35 = .ok (.iload 6, 2) := by decide +kernel
theorem d1_37 : decode prog_22_method_22_code 37 = .ok (.iadd, 1) := by decide +kernel
theorem d1_38 : decode prog_22_method_22_code 38 = .ok (.baload, 1) := by decide +kernel
theorem d1_39 : decode prog_22_method_22_code 39 = .ok (.aload_n 0, 1) := by decide +kernel
theorem d1_40 : decode prog_22_method_22_code 40 = .ok (.iload_n 3, 1) := by decide +kernel
theorem d1_41 : decode prog_22_method_22_code 41 = .ok (.iload 6, 2) := by decide +kernel
theorem d1_43 : decode prog_22_method_22_code 43 = .ok (.iadd, 1) := by decide +kernel
theorem d1_44 : decode prog_22_method_22_code 44 = .ok (.baload, 1) := by decide +kernel
theorem d1_45 : decode prog_22_method_22_code 45 = .ok (.if_icmp .ne 7, 3) := by decide +kernel
theorem d1_48 : decode prog_22_method_22_code 48 = .ok (.iconst 1, 1) := by decide +kernel
theorem d1_49 : decode prog_22_method_22_code 49 = .ok (.goto 4, 3) := by decide +kernel
theorem d1_52 : decode prog_22_method_22_code 52 = .ok (.iconst 0, 1) := by decide +kernel
theorem d1_53 : decode prog_22_method_22_code 53 = .ok (.istore 5, 2) := by decide +kernel
theorem d1_55 : decode prog_22_method_22_code 55 = .ok (.iinc 6 1, 3) := by decide +kernel
theorem d1_58 : decode prog_22_method_22_code 58 = .ok (.goto (-38), 3) := by decide +kernel
theorem d1_61 : decode prog_22_method_22_code 61 = .ok (.iload 5, 2) := by decide +kernel
theorem d1_63 : decode prog_22_method_22_code 63 = .ok (.ireturn, 1) := by decide +kernel
set_option maxRecDepth 65536 in
set_option maxHeartbeats 4000000 in
theorem pB_out {p : Program} {l : Launch} {e : Env} {R : Room} {s : State} {m : MethodId} {args : Array Value} {below : List Frame} {meth : Method} {c : Code} {T0 : State} {locs : List Loc} {cells slots : Nat} {Z : State} {h0 : Heap} (a0 : Addr) (p1 p2 p3 p4 sm i : Int32) (X0 : Stand p l e R s m args below meth c T0 locs cells slots) (hx : p.tables.exec = Jvm.exec) (hZ : Z.Warmed39 s.vm) (hby : c.code = prog_22_method_22_code) (e0 : T0.heap = h0) (hq : ¬ (p1 + i) < p2) :
    ∀ t, Steps p.tables e below (T0.setTop (mkF m 61 #[.val (.ref a0), .val (.int p1), .val (.int p2), .val (.int p3), .val (.int p4), .val (.int sm), .val (.int i)] [])) t → Steps p.tables e below (T0.setTop (mkF m 20 #[.val (.ref a0), .val (.int p1), .val (.int p2), .val (.int p3), .val (.int p4), .val (.int sm), .val (.int i)] [])) t := by
  intro t kj
  refine via (S' := T0.setTop (mkF m 21 #[.val (.ref a0), .val (.int p1), .val (.int p2), .val (.int p3), .val (.int p4), .val (.int sm), .val (.int i)] [(.int p1)])) (fun kk => XS.iloadN X0.here hx rfl (hb hby d1_20) rfl kk) ?_
  refine via (S' := T0.setTop (mkF m 23 #[.val (.ref a0), .val (.int p1), .val (.int p2), .val (.int p3), .val (.int p4), .val (.int sm), .val (.int i)] [(.int i), (.int p1)])) (fun kk => XS.iload X0.here hx rfl (hb hby d1_21) rfl kk) ?_
  refine via (S' := T0.setTop (mkF m 24 #[.val (.ref a0), .val (.int p1), .val (.int p2), .val (.int p3), .val (.int p4), .val (.int sm), .val (.int i)] [(.int (p1 + i))])) (fun kk => XS.iadd X0.here hx rfl (hb hby d1_23) rfl kk) ?_
  refine via (S' := T0.setTop (mkF m 25 #[.val (.ref a0), .val (.int p1), .val (.int p2), .val (.int p3), .val (.int p4), .val (.int sm), .val (.int i)] [(.int p2), (.int (p1 + i))])) (fun kk => XS.iloadN X0.here hx rfl (hb hby d1_24) rfl kk) ?_
  refine via (S' := T0.setTop (mkF m 61 #[.val (.ref a0), .val (.int p1), .val (.int p2), .val (.int p3), .val (.int p4), .val (.int sm), .val (.int i)] [])) (fun kk => XS.icmpYes X0.here hx rfl (pc0 := 25) (pc' := 61) rfl (hb hby d1_25) rfl (flt hq).2.1 (by decide) (by decide) kk) ?_
  exact kj
set_option maxRecDepth 65536 in
set_option maxHeartbeats 4000000 in
theorem pB_no {p : Program} {l : Launch} {e : Env} {R : Room} {s : State} {m : MethodId} {args : Array Value} {below : List Frame} {meth : Method} {c : Code} {T0 : State} {locs : List Loc} {cells slots : Nat} {Z : State} {h0 : Heap} (a0 : Addr) (p1 p2 p3 p4 i : Int32) (X0 : Stand p l e R s m args below meth c T0 locs cells slots) (hx : p.tables.exec = Jvm.exec) (hZ : Z.Warmed39 s.vm) (hby : c.code = prog_22_method_22_code) (e0 : T0.heap = h0) (hq : (p1 + i) < p2) :
    ∀ t, Steps p.tables e below (T0.setTop (mkF m 61 #[.val (.ref a0), .val (.int p1), .val (.int p2), .val (.int p3), .val (.int p4), .val (.int (0 : Int32)), .val (.int i)] [])) t → Steps p.tables e below (T0.setTop (mkF m 20 #[.val (.ref a0), .val (.int p1), .val (.int p2), .val (.int p3), .val (.int p4), .val (.int (0 : Int32)), .val (.int i)] [])) t := by
  intro t kj
  refine via (S' := T0.setTop (mkF m 21 #[.val (.ref a0), .val (.int p1), .val (.int p2), .val (.int p3), .val (.int p4), .val (.int (0 : Int32)), .val (.int i)] [(.int p1)])) (fun kk => XS.iloadN X0.here hx rfl (hb hby d1_20) rfl kk) ?_
  refine via (S' := T0.setTop (mkF m 23 #[.val (.ref a0), .val (.int p1), .val (.int p2), .val (.int p3), .val (.int p4), .val (.int (0 : Int32)), .val (.int i)] [(.int i), (.int p1)])) (fun kk => XS.iload X0.here hx rfl (hb hby d1_21) rfl kk) ?_
  refine via (S' := T0.setTop (mkF m 24 #[.val (.ref a0), .val (.int p1), .val (.int p2), .val (.int p3), .val (.int p4), .val (.int (0 : Int32)), .val (.int i)] [(.int (p1 + i))])) (fun kk => XS.iadd X0.here hx rfl (hb hby d1_23) rfl kk) ?_
  refine via (S' := T0.setTop (mkF m 25 #[.val (.ref a0), .val (.int p1), .val (.int p2), .val (.int p3), .val (.int p4), .val (.int (0 : Int32)), .val (.int i)] [(.int p2), (.int (p1 + i))])) (fun kk => XS.iloadN X0.here hx rfl (hb hby d1_24) rfl kk) ?_
  refine via (S' := T0.setTop (mkF m 28 #[.val (.ref a0), .val (.int p1), .val (.int p2), .val (.int p3), .val (.int p4), .val (.int (0 : Int32)), .val (.int i)] [])) (fun kk => XS.icmpNo X0.here hx rfl (hb hby d1_25) rfl (tlt hq).2.1 kk) ?_
  refine via (S' := T0.setTop (mkF m 30 #[.val (.ref a0), .val (.int p1), .val (.int p2), .val (.int p3), .val (.int p4), .val (.int (0 : Int32)), .val (.int i)] [(.int (0 : Int32))])) (fun kk => XS.iload X0.here hx rfl (hb hby d1_28) rfl kk) ?_
  refine via (S' := T0.setTop (mkF m 61 #[.val (.ref a0), .val (.int p1), .val (.int p2), .val (.int p3), .val (.int p4), .val (.int (0 : Int32)), .val (.int i)] [])) (fun kk => XS.ifYes X0.here hx rfl (pc0 := 30) (pc' := 61) rfl (hb hby d1_30) rfl ((if0 _ _).trans (teq (by decide : (0 : Int32) = (0 : Int32))).1) (by decide) (by decide) kk) ?_
  exact kj
set_option maxRecDepth 65536 in
set_option maxHeartbeats 4000000 in
theorem pB_eq {p : Program} {l : Launch} {e : Env} {R : Room} {s : State} {m : MethodId} {args : Array Value} {below : List Frame} {meth : Method} {c : Code} {T0 : State} {locs : List Loc} {cells slots : Nat} {Z : State} {h0 : Heap} (a0 : Addr) (p1 p2 p3 p4 i : Int32) (kk : ClassId) (bs : List Int32) (X0 : Stand p l e R s m args below meth c T0 locs cells slots) (hx : p.tables.exec = Jvm.exec) (hZ : Z.Warmed39 s.vm) (hby : c.code = prog_22_method_22_code) (e0 : T0.heap = h0) (V_a : Arv Z h0 a0 kk .byte (6 : Int32) (bs.map .int) (.int 0)) (hq : (p1 + i) < p2) (hi1 : ¬ (p1 + i) < (0 : Int32) ∧ (p1 + i) < (6 : Int32)) (hi2 : ¬ (p3 + i) < (0 : Int32) ∧ (p3 + i) < (6 : Int32)) (he : (bt bs (p1 + i)) = (bt bs (p3 + i))) :
    ∀ t, Steps p.tables e below (T0.setTop (mkF m 20 #[.val (.ref a0), .val (.int p1), .val (.int p2), .val (.int p3), .val (.int p4), .val (.int (1 : Int32)), .val (.int (i + (1 : Int32)))] [])) t → Steps p.tables e below (T0.setTop (mkF m 20 #[.val (.ref a0), .val (.int p1), .val (.int p2), .val (.int p3), .val (.int p4), .val (.int (1 : Int32)), .val (.int i)] [])) t := by
  intro t kj
  refine via (S' := T0.setTop (mkF m 21 #[.val (.ref a0), .val (.int p1), .val (.int p2), .val (.int p3), .val (.int p4), .val (.int (1 : Int32)), .val (.int i)] [(.int p1)])) (fun kk => XS.iloadN X0.here hx rfl (hb hby d1_20) rfl kk) ?_
  refine via (S' := T0.setTop (mkF m 23 #[.val (.ref a0), .val (.int p1), .val (.int p2), .val (.int p3), .val (.int p4), .val (.int (1 : Int32)), .val (.int i)] [(.int i), (.int p1)])) (fun kk => XS.iload X0.here hx rfl (hb hby d1_21) rfl kk) ?_
  refine via (S' := T0.setTop (mkF m 24 #[.val (.ref a0), .val (.int p1), .val (.int p2), .val (.int p3), .val (.int p4), .val (.int (1 : Int32)), .val (.int i)] [(.int (p1 + i))])) (fun kk => XS.iadd X0.here hx rfl (hb hby d1_23) rfl kk) ?_
  refine via (S' := T0.setTop (mkF m 25 #[.val (.ref a0), .val (.int p1), .val (.int p2), .val (.int p3), .val (.int p4), .val (.int (1 : Int32)), .val (.int i)] [(.int p2), (.int (p1 + i))])) (fun kk => XS.iloadN X0.here hx rfl (hb hby d1_24) rfl kk) ?_
  refine via (S' := T0.setTop (mkF m 28 #[.val (.ref a0), .val (.int p1), .val (.int p2), .val (.int p3), .val (.int p4), .val (.int (1 : Int32)), .val (.int i)] [])) (fun kk => XS.icmpNo X0.here hx rfl (hb hby d1_25) rfl (tlt hq).2.1 kk) ?_
  refine via (S' := T0.setTop (mkF m 30 #[.val (.ref a0), .val (.int p1), .val (.int p2), .val (.int p3), .val (.int p4), .val (.int (1 : Int32)), .val (.int i)] [(.int (1 : Int32))])) (fun kk => XS.iload X0.here hx rfl (hb hby d1_28) rfl kk) ?_
  refine via (S' := T0.setTop (mkF m 33 #[.val (.ref a0), .val (.int p1), .val (.int p2), .val (.int p3), .val (.int p4), .val (.int (1 : Int32)), .val (.int i)] [])) (fun kk => XS.ifNo X0.here hx rfl (hb hby d1_30) rfl ((if0 _ _).trans (feq (by decide : ¬ ((1 : Int32) = (0 : Int32)))).1) kk) ?_
  refine via (S' := T0.setTop (mkF m 34 #[.val (.ref a0), .val (.int p1), .val (.int p2), .val (.int p3), .val (.int p4), .val (.int (1 : Int32)), .val (.int i)] [(.ref a0)])) (fun kk => XS.aloadN X0.here hx rfl (hb hby d1_33) rfl rfl kk) ?_
  refine via (S' := T0.setTop (mkF m 35 #[.val (.ref a0), .val (.int p1), .val (.int p2), .val (.int p3), .val (.int p4), .val (.int (1 : Int32)), .val (.int i)] [(.int p1), (.ref a0)])) (fun kk => XS.iloadN X0.here hx rfl (hb hby d1_34) rfl kk) ?_
  refine via (S' := T0.setTop (mkF m 37 #[.val (.ref a0), .val (.int p1), .val (.int p2), .val (.int p3), .val (.int p4), .val (.int (1 : Int32)), .val (.int i)] [(.int i), (.int p1), (.ref a0)])) (fun kk => XS.iload X0.here hx rfl (hb hby d1_35) rfl kk) ?_
  refine via (S' := T0.setTop (mkF m 38 #[.val (.ref a0), .val (.int p1), .val (.int p2), .val (.int p3), .val (.int p4), .val (.int (1 : Int32)), .val (.int i)] [(.int (p1 + i)), (.ref a0)])) (fun kk => XS.iadd X0.here hx rfl (hb hby d1_37) rfl kk) ?_
  obtain ⟨cl1, Ar1, q1, S1, Ng1, H1, G1⟩ := (id V_a)
  have hin1 : ¬ ((p1 + i) < 0 ∨ cl1.slots.size ≤ ((p1 + i)).toNatClampNeg) := inb_of S1 (hi1)
  have hat1 : cl1.slots[((p1 + i)).toNatClampNeg]? = some (.int (bt bs (p1 + i))) := own_at H1 hin1
  refine via (S' := T0.setTop (mkF m 39 #[.val (.ref a0), .val (.int p1), .val (.int p2), .val (.int p3), .val (.int p4), .val (.int (1 : Int32)), .val (.int i)] [(.int (bt bs (p1 + i)))])) (fun kk => X0.baloadBytes hx (j := (p1 + i)) (v := (.int (bt bs (p1 + i)))) (by rw [e0]; exact Ar1.1) (State.isArrayOf_alike hZ.alike Ar1.2.1) Ar1.2.2 hin1 hat1 (g := (mkF m 38 #[.val (.ref a0), .val (.int p1), .val (.int p2), .val (.int p3), .val (.int p4), .val (.int (1 : Int32)), .val (.int i)] [(.int (p1 + i)), (.ref a0)])) rfl rfl (hb hby d1_38) _ kk) ?_
  refine via (S' := T0.setTop (mkF m 40 #[.val (.ref a0), .val (.int p1), .val (.int p2), .val (.int p3), .val (.int p4), .val (.int (1 : Int32)), .val (.int i)] [(.ref a0), (.int (bt bs (p1 + i)))])) (fun kk => XS.aloadN X0.here hx rfl (hb hby d1_39) rfl rfl kk) ?_
  refine via (S' := T0.setTop (mkF m 41 #[.val (.ref a0), .val (.int p1), .val (.int p2), .val (.int p3), .val (.int p4), .val (.int (1 : Int32)), .val (.int i)] [(.int p3), (.ref a0), (.int (bt bs (p1 + i)))])) (fun kk => XS.iloadN X0.here hx rfl (hb hby d1_40) rfl kk) ?_
  refine via (S' := T0.setTop (mkF m 43 #[.val (.ref a0), .val (.int p1), .val (.int p2), .val (.int p3), .val (.int p4), .val (.int (1 : Int32)), .val (.int i)] [(.int i), (.int p3), (.ref a0), (.int (bt bs (p1 + i)))])) (fun kk => XS.iload X0.here hx rfl (hb hby d1_41) rfl kk) ?_
  refine via (S' := T0.setTop (mkF m 44 #[.val (.ref a0), .val (.int p1), .val (.int p2), .val (.int p3), .val (.int p4), .val (.int (1 : Int32)), .val (.int i)] [(.int (p3 + i)), (.ref a0), (.int (bt bs (p1 + i)))])) (fun kk => XS.iadd X0.here hx rfl (hb hby d1_43) rfl kk) ?_
  obtain ⟨cl2, Ar2, q2, S2, Ng2, H2, G2⟩ := (id V_a)
  have hin2 : ¬ ((p3 + i) < 0 ∨ cl2.slots.size ≤ ((p3 + i)).toNatClampNeg) := inb_of S2 (hi2)
  have hat2 : cl2.slots[((p3 + i)).toNatClampNeg]? = some (.int (bt bs (p3 + i))) := own_at H2 hin2
  refine via (S' := T0.setTop (mkF m 45 #[.val (.ref a0), .val (.int p1), .val (.int p2), .val (.int p3), .val (.int p4), .val (.int (1 : Int32)), .val (.int i)] [(.int (bt bs (p3 + i))), (.int (bt bs (p1 + i)))])) (fun kk => X0.baloadBytes hx (j := (p3 + i)) (v := (.int (bt bs (p3 + i)))) (by rw [e0]; exact Ar2.1) (State.isArrayOf_alike hZ.alike Ar2.2.1) Ar2.2.2 hin2 hat2 (g := (mkF m 44 #[.val (.ref a0), .val (.int p1), .val (.int p2), .val (.int p3), .val (.int p4), .val (.int (1 : Int32)), .val (.int i)] [(.int (p3 + i)), (.ref a0), (.int (bt bs (p1 + i)))])) rfl rfl (hb hby d1_44) _ kk) ?_
  refine via (S' := T0.setTop (mkF m 48 #[.val (.ref a0), .val (.int p1), .val (.int p2), .val (.int p3), .val (.int p4), .val (.int (1 : Int32)), .val (.int i)] [])) (fun kk => XS.icmpNo X0.here hx rfl (hb hby d1_45) rfl (teq he).2 kk) ?_
  refine via (S' := T0.setTop (mkF m 49 #[.val (.ref a0), .val (.int p1), .val (.int p2), .val (.int p3), .val (.int p4), .val (.int (1 : Int32)), .val (.int i)] [(.int (1 : Int32))])) (fun kk => XS.iconst X0.here hx rfl (hb hby d1_48) kk) ?_
  refine via (S' := T0.setTop (mkF m 53 #[.val (.ref a0), .val (.int p1), .val (.int p2), .val (.int p3), .val (.int p4), .val (.int (1 : Int32)), .val (.int i)] [(.int (1 : Int32))])) (fun kk => XS.goto X0.here hx rfl (pc0 := 49) (pc' := 53) rfl (hb hby d1_49) (by decide) (by decide) kk) ?_
  refine via (S' := T0.setTop (mkF m 55 #[.val (.ref a0), .val (.int p1), .val (.int p2), .val (.int p3), .val (.int p4), .val (.int (1 : Int32)), .val (.int i)] [])) (fun kk => XS.istore X0.here hx rfl (hb hby d1_53) rfl (l' := #[.val (.ref a0), .val (.int p1), .val (.int p2), .val (.int p3), .val (.int p4), .val (.int (1 : Int32)), .val (.int i)]) rfl kk) ?_
  refine via (S' := T0.setTop (mkF m 58 #[.val (.ref a0), .val (.int p1), .val (.int p2), .val (.int p3), .val (.int p4), .val (.int (1 : Int32)), .val (.int (i + (1 : Int32)))] [])) (fun kk => XS.iinc X0.here hx rfl (hb hby d1_55) rfl (l' := #[.val (.ref a0), .val (.int p1), .val (.int p2), .val (.int p3), .val (.int p4), .val (.int (1 : Int32)), .val (.int (i + (1 : Int32)))]) rfl kk) ?_
  refine via (S' := T0.setTop (mkF m 20 #[.val (.ref a0), .val (.int p1), .val (.int p2), .val (.int p3), .val (.int p4), .val (.int (1 : Int32)), .val (.int (i + (1 : Int32)))] [])) (fun kk => XS.goto X0.here hx rfl (pc0 := 58) (pc' := 20) rfl (hb hby d1_58) (by decide) (by decide) kk) ?_
  exact kj
set_option maxRecDepth 65536 in
set_option maxHeartbeats 4000000 in
theorem pB_ne {p : Program} {l : Launch} {e : Env} {R : Room} {s : State} {m : MethodId} {args : Array Value} {below : List Frame} {meth : Method} {c : Code} {T0 : State} {locs : List Loc} {cells slots : Nat} {Z : State} {h0 : Heap} (a0 : Addr) (p1 p2 p3 p4 i : Int32) (kk : ClassId) (bs : List Int32) (X0 : Stand p l e R s m args below meth c T0 locs cells slots) (hx : p.tables.exec = Jvm.exec) (hZ : Z.Warmed39 s.vm) (hby : c.code = prog_22_method_22_code) (e0 : T0.heap = h0) (V_a : Arv Z h0 a0 kk .byte (6 : Int32) (bs.map .int) (.int 0)) (hq : (p1 + i) < p2) (hi1 : ¬ (p1 + i) < (0 : Int32) ∧ (p1 + i) < (6 : Int32)) (hi2 : ¬ (p3 + i) < (0 : Int32) ∧ (p3 + i) < (6 : Int32)) (he : ¬ (bt bs (p1 + i)) = (bt bs (p3 + i))) :
    ∀ t, Steps p.tables e below (T0.setTop (mkF m 20 #[.val (.ref a0), .val (.int p1), .val (.int p2), .val (.int p3), .val (.int p4), .val (.int (0 : Int32)), .val (.int (i + (1 : Int32)))] [])) t → Steps p.tables e below (T0.setTop (mkF m 20 #[.val (.ref a0), .val (.int p1), .val (.int p2), .val (.int p3), .val (.int p4), .val (.int (1 : Int32)), .val (.int i)] [])) t := by
  intro t kj
  refine via (S' := T0.setTop (mkF m 21 #[.val (.ref a0), .val (.int p1), .val (.int p2), .val (.int p3), .val (.int p4), .val (.int (1 : Int32)), .val (.int i)] [(.int p1)])) (fun kk => XS.iloadN X0.here hx rfl (hb hby d1_20) rfl kk) ?_
  refine via (S' := T0.setTop (mkF m 23 #[.val (.ref a0), .val (.int p1), .val (.int p2), .val (.int p3), .val (.int p4), .val (.int (1 : Int32)), .val (.int i)] [(.int i), (.int p1)])) (fun kk => XS.iload X0.here hx rfl (hb hby d1_21) rfl kk) ?_
  refine via (S' := T0.setTop (mkF m 24 #[.val (.ref a0), .val (.int p1), .val (.int p2), .val (.int p3), .val (.int p4), .val (.int (1 : Int32)), .val (.int i)] [(.int (p1 + i))])) (fun kk => XS.iadd X0.here hx rfl (hb hby d1_23) rfl kk) ?_
  refine via (S' := T0.setTop (mkF m 25 #[.val (.ref a0), .val (.int p1), .val (.int p2), .val (.int p3), .val (.int p4), .val (.int (1 : Int32)), .val (.int i)] [(.int p2), (.int (p1 + i))])) (fun kk => XS.iloadN X0.here hx rfl (hb hby d1_24) rfl kk) ?_
  refine via (S' := T0.setTop (mkF m 28 #[.val (.ref a0), .val (.int p1), .val (.int p2), .val (.int p3), .val (.int p4), .val (.int (1 : Int32)), .val (.int i)] [])) (fun kk => XS.icmpNo X0.here hx rfl (hb hby d1_25) rfl (tlt hq).2.1 kk) ?_
  refine via (S' := T0.setTop (mkF m 30 #[.val (.ref a0), .val (.int p1), .val (.int p2), .val (.int p3), .val (.int p4), .val (.int (1 : Int32)), .val (.int i)] [(.int (1 : Int32))])) (fun kk => XS.iload X0.here hx rfl (hb hby d1_28) rfl kk) ?_
  refine via (S' := T0.setTop (mkF m 33 #[.val (.ref a0), .val (.int p1), .val (.int p2), .val (.int p3), .val (.int p4), .val (.int (1 : Int32)), .val (.int i)] [])) (fun kk => XS.ifNo X0.here hx rfl (hb hby d1_30) rfl ((if0 _ _).trans (feq (by decide : ¬ ((1 : Int32) = (0 : Int32)))).1) kk) ?_
  refine via (S' := T0.setTop (mkF m 34 #[.val (.ref a0), .val (.int p1), .val (.int p2), .val (.int p3), .val (.int p4), .val (.int (1 : Int32)), .val (.int i)] [(.ref a0)])) (fun kk => XS.aloadN X0.here hx rfl (hb hby d1_33) rfl rfl kk) ?_
  refine via (S' := T0.setTop (mkF m 35 #[.val (.ref a0), .val (.int p1), .val (.int p2), .val (.int p3), .val (.int p4), .val (.int (1 : Int32)), .val (.int i)] [(.int p1), (.ref a0)])) (fun kk => XS.iloadN X0.here hx rfl (hb hby d1_34) rfl kk) ?_
  refine via (S' := T0.setTop (mkF m 37 #[.val (.ref a0), .val (.int p1), .val (.int p2), .val (.int p3), .val (.int p4), .val (.int (1 : Int32)), .val (.int i)] [(.int i), (.int p1), (.ref a0)])) (fun kk => XS.iload X0.here hx rfl (hb hby d1_35) rfl kk) ?_
  refine via (S' := T0.setTop (mkF m 38 #[.val (.ref a0), .val (.int p1), .val (.int p2), .val (.int p3), .val (.int p4), .val (.int (1 : Int32)), .val (.int i)] [(.int (p1 + i)), (.ref a0)])) (fun kk => XS.iadd X0.here hx rfl (hb hby d1_37) rfl kk) ?_
  obtain ⟨cl1, Ar1, q1, S1, Ng1, H1, G1⟩ := (id V_a)
  have hin1 : ¬ ((p1 + i) < 0 ∨ cl1.slots.size ≤ ((p1 + i)).toNatClampNeg) := inb_of S1 (hi1)
  have hat1 : cl1.slots[((p1 + i)).toNatClampNeg]? = some (.int (bt bs (p1 + i))) := own_at H1 hin1
  refine via (S' := T0.setTop (mkF m 39 #[.val (.ref a0), .val (.int p1), .val (.int p2), .val (.int p3), .val (.int p4), .val (.int (1 : Int32)), .val (.int i)] [(.int (bt bs (p1 + i)))])) (fun kk => X0.baloadBytes hx (j := (p1 + i)) (v := (.int (bt bs (p1 + i)))) (by rw [e0]; exact Ar1.1) (State.isArrayOf_alike hZ.alike Ar1.2.1) Ar1.2.2 hin1 hat1 (g := (mkF m 38 #[.val (.ref a0), .val (.int p1), .val (.int p2), .val (.int p3), .val (.int p4), .val (.int (1 : Int32)), .val (.int i)] [(.int (p1 + i)), (.ref a0)])) rfl rfl (hb hby d1_38) _ kk) ?_
  refine via (S' := T0.setTop (mkF m 40 #[.val (.ref a0), .val (.int p1), .val (.int p2), .val (.int p3), .val (.int p4), .val (.int (1 : Int32)), .val (.int i)] [(.ref a0), (.int (bt bs (p1 + i)))])) (fun kk => XS.aloadN X0.here hx rfl (hb hby d1_39) rfl rfl kk) ?_
  refine via (S' := T0.setTop (mkF m 41 #[.val (.ref a0), .val (.int p1), .val (.int p2), .val (.int p3), .val (.int p4), .val (.int (1 : Int32)), .val (.int i)] [(.int p3), (.ref a0), (.int (bt bs (p1 + i)))])) (fun kk => XS.iloadN X0.here hx rfl (hb hby d1_40) rfl kk) ?_
  refine via (S' := T0.setTop (mkF m 43 #[.val (.ref a0), .val (.int p1), .val (.int p2), .val (.int p3), .val (.int p4), .val (.int (1 : Int32)), .val (.int i)] [(.int i), (.int p3), (.ref a0), (.int (bt bs (p1 + i)))])) (fun kk => XS.iload X0.here hx rfl (hb hby d1_41) rfl kk) ?_
  refine via (S' := T0.setTop (mkF m 44 #[.val (.ref a0), .val (.int p1), .val (.int p2), .val (.int p3), .val (.int p4), .val (.int (1 : Int32)), .val (.int i)] [(.int (p3 + i)), (.ref a0), (.int (bt bs (p1 + i)))])) (fun kk => XS.iadd X0.here hx rfl (hb hby d1_43) rfl kk) ?_
  obtain ⟨cl2, Ar2, q2, S2, Ng2, H2, G2⟩ := (id V_a)
  have hin2 : ¬ ((p3 + i) < 0 ∨ cl2.slots.size ≤ ((p3 + i)).toNatClampNeg) := inb_of S2 (hi2)
  have hat2 : cl2.slots[((p3 + i)).toNatClampNeg]? = some (.int (bt bs (p3 + i))) := own_at H2 hin2
  refine via (S' := T0.setTop (mkF m 45 #[.val (.ref a0), .val (.int p1), .val (.int p2), .val (.int p3), .val (.int p4), .val (.int (1 : Int32)), .val (.int i)] [(.int (bt bs (p3 + i))), (.int (bt bs (p1 + i)))])) (fun kk => X0.baloadBytes hx (j := (p3 + i)) (v := (.int (bt bs (p3 + i)))) (by rw [e0]; exact Ar2.1) (State.isArrayOf_alike hZ.alike Ar2.2.1) Ar2.2.2 hin2 hat2 (g := (mkF m 44 #[.val (.ref a0), .val (.int p1), .val (.int p2), .val (.int p3), .val (.int p4), .val (.int (1 : Int32)), .val (.int i)] [(.int (p3 + i)), (.ref a0), (.int (bt bs (p1 + i)))])) rfl rfl (hb hby d1_44) _ kk) ?_
  refine via (S' := T0.setTop (mkF m 52 #[.val (.ref a0), .val (.int p1), .val (.int p2), .val (.int p3), .val (.int p4), .val (.int (1 : Int32)), .val (.int i)] [])) (fun kk => XS.icmpYes X0.here hx rfl (pc0 := 45) (pc' := 52) rfl (hb hby d1_45) rfl (feq he).2 (by decide) (by decide) kk) ?_
  refine via (S' := T0.setTop (mkF m 53 #[.val (.ref a0), .val (.int p1), .val (.int p2), .val (.int p3), .val (.int p4), .val (.int (1 : Int32)), .val (.int i)] [(.int (0 : Int32))])) (fun kk => XS.iconst X0.here hx rfl (hb hby d1_52) kk) ?_
  refine via (S' := T0.setTop (mkF m 55 #[.val (.ref a0), .val (.int p1), .val (.int p2), .val (.int p3), .val (.int p4), .val (.int (0 : Int32)), .val (.int i)] [])) (fun kk => XS.istore X0.here hx rfl (hb hby d1_53) rfl (l' := #[.val (.ref a0), .val (.int p1), .val (.int p2), .val (.int p3), .val (.int p4), .val (.int (0 : Int32)), .val (.int i)]) rfl kk) ?_
  refine via (S' := T0.setTop (mkF m 58 #[.val (.ref a0), .val (.int p1), .val (.int p2), .val (.int p3), .val (.int p4), .val (.int (0 : Int32)), .val (.int (i + (1 : Int32)))] [])) (fun kk => XS.iinc X0.here hx rfl (hb hby d1_55) rfl (l' := #[.val (.ref a0), .val (.int p1), .val (.int p2), .val (.int p3), .val (.int p4), .val (.int (0 : Int32)), .val (.int (i + (1 : Int32)))]) rfl kk) ?_
  refine via (S' := T0.setTop (mkF m 20 #[.val (.ref a0), .val (.int p1), .val (.int p2), .val (.int p3), .val (.int p4), .val (.int (0 : Int32)), .val (.int (i + (1 : Int32)))] [])) (fun kk => XS.goto X0.here hx rfl (pc0 := 58) (pc' := 20) rfl (hb hby d1_58) (by decide) (by decide) kk) ?_
  exact kj
theorem own_go {x : Int32} (h0 : 0 ≤ x.toInt) (h1 : x.toInt < 6) : (x + (1 : Int32)).toInt = x.toInt + 1 := XT.add32 ⟨by simp only [Int32.reduceToInt]; omega, by simp only [Int32.reduceToInt]; omega⟩
theorem loopB {p : Program} {l : Launch} {e : Env} {R : Room} {s : State} {m : MethodId} {args : Array Value} {below : List Frame} {meth : Method} {c : Code} {T0 : State} {locs : List Loc} {cells slots : Nat} {Z : State} {h0 : Heap} (a0 : Addr) (p1 p2 p3 p4 : Int32) (kk : ClassId) (bs : List Int32) (X0 : Stand p l e R s m args below meth c T0 locs cells slots) (hx : p.tables.exec = Jvm.exec) (hZ : Z.Warmed39 s.vm) (hby : c.code = prog_22_method_22_code) (e0 : T0.heap = h0) (V_a : Arv Z h0 a0 kk .byte (6 : Int32) (bs.map .int) (.int 0))
    (b1 : 0 ≤ p1.toInt) (b2 : p1.toInt ≤ p2.toInt) (b3 : p2.toInt ≤ 6) (b4 : 0 ≤ p3.toInt) (b5 : p3.toInt + (p2.toInt - p1.toInt) ≤ 6) :
    ∀ (k : Nat) (i : Int32), 0 ≤ i.toInt → i.toInt + k = p2.toInt - p1.toInt → ∃ r i' : Int32, (r = 0 ∨ r = 1) ∧ (r = 1 ↔ ∀ d : Nat, d < k → bs.getD (p1.toInt.toNat + (i.toInt.toNat + d)) 0 = bs.getD (p3.toInt.toNat + (i.toInt.toNat + d)) 0) ∧
      ∀ t, Steps p.tables e below (T0.setTop (mkF m 61 #[.val (.ref a0), .val (.int p1), .val (.int p2), .val (.int p3), .val (.int p4), .val (.int r), .val (.int i')] [])) t → Steps p.tables e below (T0.setTop (mkF m 20 #[.val (.ref a0), .val (.int p1), .val (.int p2), .val (.int p3), .val (.int p4), .val (.int (1 : Int32)), .val (.int i)] [])) t := by
  intro k
  induction k with
  | zero =>
    intro i h1 h2
    have hq : ¬ (p1 + i) < p2 := by rw [Int32.lt_iff_toInt_lt, own_sum b1 (by omega) h1 (by omega)]; omega
    exact ⟨1, i, Or.inr rfl, ⟨fun _ d hd => absurd hd (Nat.not_lt_zero d), fun _ => rfl⟩, pB_out a0 p1 p2 p3 p4 1 i X0 hx hZ hby e0 hq⟩
  | succ k ih =>
    intro i h1 h2
    have hq : (p1 + i) < p2 := by rw [Int32.lt_iff_toInt_lt, own_sum b1 (by omega) h1 (by omega)]; omega
    have s1 := own_sum b1 (by omega : p1.toInt ≤ 6) h1 (by omega : i.toInt ≤ 6)
    have s3 := own_sum b4 (by omega : p3.toInt ≤ 6) h1 (by omega : i.toInt ≤ 6)
    have hi1 := own_rng (x := p1 + i) (by omega) (by omega)
    have hi2 := own_rng (x := p3 + i) (by omega) (by omega)
    have t1 := own_bt (bs := bs) b1 (by omega : p1.toInt ≤ 6) h1 (by omega : i.toInt ≤ 6)
    have t3 := own_bt (bs := bs) b4 (by omega : p3.toInt ≤ 6) h1 (by omega : i.toInt ≤ 6)
    have g1 := own_go h1 (by omega : i.toInt < 6)
    by_cases he : (bt bs (p1 + i)) = (bt bs (p3 + i))
    · obtain ⟨r, i', r1, r2, st⟩ := ih (i + 1) (by omega) (by omega)
      refine ⟨r, i', r1, r2.trans ⟨fun h d hd => ?_, fun h d hd => ?_⟩, fun t kt => pB_eq a0 p1 p2 p3 p4 i kk bs X0 hx hZ hby e0 V_a hq hi1 hi2 he t (st t kt)⟩
      · cases d with
        | zero => rw [t1, t3] at he; exact he
        | succ d =>
          have q := h d (by omega)
          rw [show (i + 1).toInt.toNat + d = i.toInt.toNat + (d + 1) from by rw [g1]; omega] at q
          exact q
      · have q := h (d + 1) (by omega)
        rw [show (i + 1).toInt.toNat + d = i.toInt.toNat + (d + 1) from by rw [g1]; omega]
        exact q
    · have key : ∀ t, Steps p.tables e below (T0.setTop (mkF m 61 #[.val (.ref a0), .val (.int p1), .val (.int p2), .val (.int p3), .val (.int p4), .val (.int (0 : Int32)), .val (.int (i + (1 : Int32)))] [])) t → Steps p.tables e below (T0.setTop (mkF m 20 #[.val (.ref a0), .val (.int p1), .val (.int p2), .val (.int p3), .val (.int p4), .val (.int (0 : Int32)), .val (.int (i + (1 : Int32)))] [])) t := by
        by_cases hq' : (p1 + (i + (1 : Int32))) < p2
        · exact pB_no a0 p1 p2 p3 p4 (i + 1) X0 hx hZ hby e0 hq'
        · exact pB_out a0 p1 p2 p3 p4 0 (i + 1) X0 hx hZ hby e0 hq'
      refine ⟨0, i + 1, Or.inl rfl, ⟨fun h => absurd h (by decide), fun h => absurd (h 0 (by omega)) (fun q => he (by rw [t1, t3]; exact q))⟩, fun t kt => pB_ne a0 p1 p2 p3 p4 i kk bs X0 hx hZ hby e0 V_a hq hi1 hi2 he t (key t kt)⟩
def Q_rmB (bs : List Int32) (p1 p2 p3 p4 : Int32) (h0 : Heap) (n0 : Nat) (v : Option Value) (h : Heap) (L : List Loc) : Prop := ∃ r : Int32, v = some (.int r) ∧ Fr n0 L ∧ h = h0 ∧ (r = 0 ∨ r = 1) ∧ (r = 1 ↔ (p2.toInt - p1.toInt = p4.toInt - p3.toInt ∧ own_all bs p1 p3 (p2.toInt - p1.toInt)))
theorem own_nar {r : Int32} (h : r = 0 ∨ r = 1) : nar .boolean r = r := by rcases h with rfl | rfl <;> rfl
theorem pn_1 : plainName "com/example/grantbook/grantbook/licence/PlainXml" = true := by first | (simp [plainName, overriddenIn]; done) | decide +kernel
theorem ef_1 (m : MethodId) (a0 : Addr) (p1 : Int32) (p2 : Int32) (p3 : Int32) (p4 : Int32) : entryFrame m #[(.ref a0), (.int p1), (.int p2), (.int p3), (.int p4)] 7 = mkF m 0 #[.val (.ref a0), .val (.int p1), .val (.int p2), .val (.int p3), .val (.int p4), .unset, .unset] [] := by first | (simp [entryFrame, mkF, argsToLocals, Value.category]; done) | rfl
set_option maxRecDepth 65536 in
set_option maxHeartbeats 40000000 in
theorem rmB (l : Launch) (Z : State) (az : Array Value) (hw : ∀ d ∈ tables_1, d.before az Z = true) (ws : List Jvm.Cond) (a0 : Addr) (p1 : Int32) (p2 : Int32) (p3 : Int32) (p4 : Int32) (kk : ClassId) (bs : List Int32) (h0 : Heap) (n0 : Nat) (Z0 : n0 ≤ h0.size) (V_a : Arv Z h0 a0 kk .byte (6 : Int32) (bs.map .int) (.int 0)) (b1 : 0 ≤ p1.toInt) (b2 : p1.toInt ≤ p2.toInt) (b3 : p2.toInt ≤ 6) (b4 : 0 ≤ p3.toInt) (b5 : p3.toInt ≤ p4.toInt) (b6 : p4.toInt ≤ 6) :
    MetFree l (⟨"com/example/grantbook/grantbook/licence/PlainXml", "sameBytes", "([BIIII)Z"⟩ : MethodName) (head1 (Jvm.Cond.code (⟨"com/example/grantbook/grantbook/licence/PlainXml", "sameBytes", "([BIIII)Z"⟩ : MethodName) prog_22_method_22_code 7 (some .boolean) :: ws) ({ frames := 0, cells := 0, slots := 0, locals := 0 } : Room)) (fun a U => a = #[(.ref a0), (.int p1), (.int p2), (.int p3), (.int p4)] ∧ Z.Warmed39 U.vm ∧ U.heap = h0) (fun _ _ _ _ _ => True) (fun _ U o U' => ∃ v L, o = .returned v ∧ (Q_rmB bs p1 p2 p3 p4 h0 n0) v U'.heap L ∧ FrameEnd U o U' L ({ frames := 0, cells := 0, slots := 0, locals := 0 } : Room).cells ({ frames := 0, cells := 0, slots := 0, locals := 0 } : Room).slots) := by
  refine MetFree.of_bodySF (plainFor_of_name pn_1) hisR ?_
  intro p e s m args below meth c s₁ Bd hml0 hP hK
  obtain ⟨rfl, hZ, hh⟩ := hP
  have hx := Bd.exec
  have hby := Bd.bytes
  have hlk : meth.locks = false := Bd.notSynchronized
  have hml : c.maxLocals = 7 := hml0
  have hown : s.vm.findClass "com/example/grantbook/grantbook/licence/PlainXml" = some m.cls := findClass_of_methodNamed Bd.named
  have hnm := (name_of_methodNamed Bd.named Bd.method).1
  have X0 : Stand p l e ({ frames := 0, cells := 0, slots := 0, locals := 0 } : Room) s m #[(.ref a0), (.int p1), (.int p2), (.int p3), (.int p4)] below meth c s₁ [] 0 0 := Stand.of_body Bd
  have e0 : s₁.heap = h0 := by rw [← hh, Bd.state]; rfl
  have N0 := Fr.nil n0
  show Go p e below s ((Q_rmB bs p1 p2 p3 p4 h0 n0)) ({ frames := 0, cells := 0, slots := 0, locals := 0 } : Room).cells ({ frames := 0, cells := 0, slots := 0, locals := 0 } : Room).slots (s₁.setTop (entryFrame m #[(.ref a0), (.int p1), (.int p2), (.int p3), (.int p4)] 7))
  rw [ef_1 m a0 p1 p2 p3 p4]
  have d1 := own_dif (x := p2) (y := p1) (by omega) (by omega) (by omega) (by omega)
  have d2 := own_dif (x := p4) (y := p3) (by omega) (by omega) (by omega) (by omega)
  refine Go.st (S' := s₁.setTop (mkF m 1 #[.val (.ref a0), .val (.int p1), .val (.int p2), .val (.int p3), .val (.int p4), .unset, .unset] [(.int p2)])) (fun _ kk => XS.iloadN X0.here hx rfl (hb hby d1_0) rfl kk) ?_
  refine Go.st (S' := s₁.setTop (mkF m 2 #[.val (.ref a0), .val (.int p1), .val (.int p2), .val (.int p3), .val (.int p4), .unset, .unset] [(.int p1), (.int p2)])) (fun _ kk => XS.iloadN X0.here hx rfl (hb hby d1_1) rfl kk) ?_
  refine Go.st (S' := s₁.setTop (mkF m 3 #[.val (.ref a0), .val (.int p1), .val (.int p2), .val (.int p3), .val (.int p4), .unset, .unset] [(.int (p2 - p1))])) (fun _ kk => XS.isub X0.here hx rfl (hb hby d1_2) rfl kk) ?_
  refine Go.st (S' := s₁.setTop (mkF m 5 #[.val (.ref a0), .val (.int p1), .val (.int p2), .val (.int p3), .val (.int p4), .unset, .unset] [(.int p4), (.int (p2 - p1))])) (fun _ kk => XS.iload X0.here hx rfl (hb hby d1_3) rfl kk) ?_
  refine Go.st (S' := s₁.setTop (mkF m 6 #[.val (.ref a0), .val (.int p1), .val (.int p2), .val (.int p3), .val (.int p4), .unset, .unset] [(.int p3), (.int p4), (.int (p2 - p1))])) (fun _ kk => XS.iloadN X0.here hx rfl (hb hby d1_5) rfl kk) ?_
  refine Go.st (S' := s₁.setTop (mkF m 7 #[.val (.ref a0), .val (.int p1), .val (.int p2), .val (.int p3), .val (.int p4), .unset, .unset] [(.int (p4 - p3)), (.int (p2 - p1))])) (fun _ kk => XS.isub X0.here hx rfl (hb hby d1_6) rfl kk) ?_
  by_cases hc1 : (p2 - p1) = (p4 - p3)
  · refine Go.st (S' := s₁.setTop (mkF m 10 #[.val (.ref a0), .val (.int p1), .val (.int p2), .val (.int p3), .val (.int p4), .unset, .unset] [])) (fun _ kk => XS.icmpNo X0.here hx rfl (hb hby d1_7) rfl (teq hc1).2 kk) ?_
    refine Go.st (S' := s₁.setTop (mkF m 11 #[.val (.ref a0), .val (.int p1), .val (.int p2), .val (.int p3), .val (.int p4), .unset, .unset] [(.int (1 : Int32))])) (fun _ kk => XS.iconst X0.here hx rfl (hb hby d1_10) kk) ?_
    refine Go.st (S' := s₁.setTop (mkF m 15 #[.val (.ref a0), .val (.int p1), .val (.int p2), .val (.int p3), .val (.int p4), .unset, .unset] [(.int (1 : Int32))])) (fun _ kk => XS.goto X0.here hx rfl (pc0 := 11) (pc' := 15) rfl (hb hby d1_11) (by decide) (by decide) kk) ?_
    refine Go.st (S' := s₁.setTop (mkF m 17 #[.val (.ref a0), .val (.int p1), .val (.int p2), .val (.int p3), .val (.int p4), .val (.int (1 : Int32)), .unset] [])) (fun _ kk => XS.istore X0.here hx rfl (hb hby d1_15) rfl (l' := #[.val (.ref a0), .val (.int p1), .val (.int p2), .val (.int p3), .val (.int p4), .val (.int (1 : Int32)), .unset]) rfl kk) ?_
    refine Go.st (S' := s₁.setTop (mkF m 18 #[.val (.ref a0), .val (.int p1), .val (.int p2), .val (.int p3), .val (.int p4), .val (.int (1 : Int32)), .unset] [(.int (0 : Int32))])) (fun _ kk => XS.iconst X0.here hx rfl (hb hby d1_17) kk) ?_
    refine Go.st (S' := s₁.setTop (mkF m 20 #[.val (.ref a0), .val (.int p1), .val (.int p2), .val (.int p3), .val (.int p4), .val (.int (1 : Int32)), .val (.int (0 : Int32))] [])) (fun _ kk => XS.istore X0.here hx rfl (hb hby d1_18) rfl (l' := #[.val (.ref a0), .val (.int p1), .val (.int p2), .val (.int p3), .val (.int p4), .val (.int (1 : Int32)), .val (.int (0 : Int32))]) rfl kk) ?_
    have heq : p2.toInt - p1.toInt = p4.toInt - p3.toInt := by rw [← d1, ← d2, hc1]
    obtain ⟨r, i', r1, r2, stl⟩ := loopB a0 p1 p2 p3 p4 kk bs X0 hx hZ hby e0 V_a b1 b2 b3 b4 (by omega) (p2.toInt - p1.toInt).toNat (0 : Int32) (by decide) (by have : (0 : Int32).toInt = 0 := rfl; omega)
    have r3 : r = 1 ↔ (p2.toInt - p1.toInt = p4.toInt - p3.toInt ∧ own_all bs p1 p3 (p2.toInt - p1.toInt)) := by
      refine r2.trans ⟨fun q => ⟨heq, fun d hd => ?_⟩, fun q d hd => ?_⟩
      · have := q d (by omega)
        rw [show (0 : Int32).toInt.toNat + d = d from by rw [show (0 : Int32).toInt.toNat = 0 from rfl]; omega] at this; exact this
      · rw [show (0 : Int32).toInt.toNat + d = d from by rw [show (0 : Int32).toInt.toNat = 0 from rfl]; omega]; exact q.2 d (by omega)
    refine Go.st (S' := s₁.setTop (mkF m 61 #[.val (.ref a0), .val (.int p1), .val (.int p2), .val (.int p3), .val (.int p4), .val (.int r), .val (.int i')] [])) stl ?_
    refine Go.st (S' := s₁.setTop (mkF m 63 #[.val (.ref a0), .val (.int p1), .val (.int p2), .val (.int p3), .val (.int p4), .val (.int r), .val (.int i')] [(.int r)])) (fun _ kk => XS.iload X0.here hx rfl (hb hby d1_61) rfl kk) ?_
    exact Go.retN X0 hx hlk (t := .boolean) Bd.returns (by simp) (hb hby d1_63) (⟨r, by rw [own_nar r1], N0, e0, r1, r3⟩) (by decide) (by decide)
  · refine Go.st (S' := s₁.setTop (mkF m 14 #[.val (.ref a0), .val (.int p1), .val (.int p2), .val (.int p3), .val (.int p4), .unset, .unset] [])) (fun _ kk => XS.icmpYes X0.here hx rfl (pc0 := 7) (pc' := 14) rfl (hb hby d1_7) rfl (feq hc1).2 (by decide) (by decide) kk) ?_
    refine Go.st (S' := s₁.setTop (mkF m 15 #[.val (.ref a0), .val (.int p1), .val (.int p2), .val (.int p3), .val (.int p4), .unset, .unset] [(.int (0 : Int32))])) (fun _ kk => XS.iconst X0.here hx rfl (hb hby d1_14) kk) ?_
    refine Go.st (S' := s₁.setTop (mkF m 17 #[.val (.ref a0), .val (.int p1), .val (.int p2), .val (.int p3), .val (.int p4), .val (.int (0 : Int32)), .unset] [])) (fun _ kk => XS.istore X0.here hx rfl (hb hby d1_15) rfl (l' := #[.val (.ref a0), .val (.int p1), .val (.int p2), .val (.int p3), .val (.int p4), .val (.int (0 : Int32)), .unset]) rfl kk) ?_
    refine Go.st (S' := s₁.setTop (mkF m 18 #[.val (.ref a0), .val (.int p1), .val (.int p2), .val (.int p3), .val (.int p4), .val (.int (0 : Int32)), .unset] [(.int (0 : Int32))])) (fun _ kk => XS.iconst X0.here hx rfl (hb hby d1_17) kk) ?_
    refine Go.st (S' := s₁.setTop (mkF m 20 #[.val (.ref a0), .val (.int p1), .val (.int p2), .val (.int p3), .val (.int p4), .val (.int (0 : Int32)), .val (.int (0 : Int32))] [])) (fun _ kk => XS.istore X0.here hx rfl (hb hby d1_18) rfl (l' := #[.val (.ref a0), .val (.int p1), .val (.int p2), .val (.int p3), .val (.int p4), .val (.int (0 : Int32)), .val (.int (0 : Int32))]) rfl kk) ?_
    have hne : ¬ (p2.toInt - p1.toInt = p4.toInt - p3.toInt) := fun q => hc1 (Int32.toInt_inj.mp (by rw [d1, d2, q]))
    refine Go.st (S' := s₁.setTop (mkF m 21 #[.val (.ref a0), .val (.int p1), .val (.int p2), .val (.int p3), .val (.int p4), .val (.int (0 : Int32)), .val (.int (0 : Int32))] [(.int p1)])) (fun _ kk => XS.iloadN X0.here hx rfl (hb hby d1_20) rfl kk) ?_
    refine Go.st (S' := s₁.setTop (mkF m 23 #[.val (.ref a0), .val (.int p1), .val (.int p2), .val (.int p3), .val (.int p4), .val (.int (0 : Int32)), .val (.int (0 : Int32))] [(.int (0 : Int32)), (.int p1)])) (fun _ kk => XS.iload X0.here hx rfl (hb hby d1_21) rfl kk) ?_
    refine Go.st (S' := s₁.setTop (mkF m 24 #[.val (.ref a0), .val (.int p1), .val (.int p2), .val (.int p3), .val (.int p4), .val (.int (0 : Int32)), .val (.int (0 : Int32))] [(.int (p1 + (0 : Int32)))])) (fun _ kk => XS.iadd X0.here hx rfl (hb hby d1_23) rfl kk) ?_
    refine Go.st (S' := s₁.setTop (mkF m 25 #[.val (.ref a0), .val (.int p1), .val (.int p2), .val (.int p3), .val (.int p4), .val (.int (0 : Int32)), .val (.int (0 : Int32))] [(.int p2), (.int (p1 + (0 : Int32)))])) (fun _ kk => XS.iloadN X0.here hx rfl (hb hby d1_24) rfl kk) ?_
    by_cases hc2 : (p1 + (0 : Int32)) < p2
    · refine Go.st (S' := s₁.setTop (mkF m 28 #[.val (.ref a0), .val (.int p1), .val (.int p2), .val (.int p3), .val (.int p4), .val (.int (0 : Int32)), .val (.int (0 : Int32))] [])) (fun _ kk => XS.icmpNo X0.here hx rfl (hb hby d1_25) rfl (tlt hc2).2.1 kk) ?_
      refine Go.st (S' := s₁.setTop (mkF m 30 #[.val (.ref a0), .val (.int p1), .val (.int p2), .val (.int p3), .val (.int p4), .val (.int (0 : Int32)), .val (.int (0 : Int32))] [(.int (0 : Int32))])) (fun _ kk => XS.iload X0.here hx rfl (hb hby d1_28) rfl kk) ?_
      refine Go.st (S' := s₁.setTop (mkF m 61 #[.val (.ref a0), .val (.int p1), .val (.int p2), .val (.int p3), .val (.int p4), .val (.int (0 : Int32)), .val (.int (0 : Int32))] [])) (fun _ kk => XS.ifYes X0.here hx rfl (pc0 := 30) (pc' := 61) rfl (hb hby d1_30) rfl ((if0 _ _).trans (teq (by decide : (0 : Int32) = (0 : Int32))).1) (by decide) (by decide) kk) ?_
      refine Go.st (S' := s₁.setTop (mkF m 63 #[.val (.ref a0), .val (.int p1), .val (.int p2), .val (.int p3), .val (.int p4), .val (.int (0 : Int32)), .val (.int (0 : Int32))] [(.int (0 : Int32))])) (fun _ kk => XS.iload X0.here hx rfl (hb hby d1_61) rfl kk) ?_
      exact Go.retN X0 hx hlk (t := .boolean) Bd.returns (by simp) (hb hby d1_63) (⟨0, rfl, N0, e0, Or.inl rfl, ⟨fun q => absurd q (by decide), fun q => absurd q.1 hne⟩⟩) (by decide) (by decide)
    · refine Go.st (S' := s₁.setTop (mkF m 61 #[.val (.ref a0), .val (.int p1), .val (.int p2), .val (.int p3), .val (.int p4), .val (.int (0 : Int32)), .val (.int (0 : Int32))] [])) (fun _ kk => XS.icmpYes X0.here hx rfl (pc0 := 25) (pc' := 61) rfl (hb hby d1_25) rfl (flt hc2).2.1 (by decide) (by decide) kk) ?_
      refine Go.st (S' := s₁.setTop (mkF m 63 #[.val (.ref a0), .val (.int p1), .val (.int p2), .val (.int p3), .val (.int p4), .val (.int (0 : Int32)), .val (.int (0 : Int32))] [(.int (0 : Int32))])) (fun _ kk => XS.iload X0.here hx rfl (hb hby d1_61) rfl kk) ?_
      exact Go.retN X0 hx hlk (t := .boolean) Bd.returns (by simp) (hb hby d1_63) (⟨0, rfl, N0, e0, Or.inl rfl, ⟨fun q => absurd q (by decide), fun q => absurd q.1 hne⟩⟩) (by decide) (by decide)
theorem own_rem7 (x : Int32) : 0 ≤ ((x &&& (2147483647 : Int32)) % (7 : Int32)).toInt ∧ ((x &&& (2147483647 : Int32)) % (7 : Int32)).toInt < 7 := by
  have h := (c_and x 2147483647 (by decide)).1
  have q := (c_irem (x &&& 2147483647) 7 7 (by decide)).1 h
  omega
theorem own_nz {st : Int32} (h : 0 ≤ st.toInt ∧ st.toInt < 7) : ((7 : Int32) - st) ≠ 0 := fun q => by
  have d := own_dif (x := 7) (y := st) (by decide) (by decide) (by omega) (by omega)
  rw [q] at d
  have h7 : (7 : Int32).toInt = 7 := rfl
  have h0 : (0 : Int32).toInt = 0 := rfl
  omega
theorem own_remV (x : Int32) {st : Int32} (h : 0 ≤ st.toInt ∧ st.toInt < 7) : 0 ≤ ((x &&& (2147483647 : Int32)) % ((7 : Int32) - st)).toInt ∧ ((x &&& (2147483647 : Int32)) % ((7 : Int32) - st)).toInt < 7 - st.toInt := by
  have d := own_dif (x := 7) (y := st) (by decide) (by decide) (by omega) (by omega)
  have h7 : (7 : Int32).toInt = 7 := rfl
  have h1 := (c_and x 2147483647 (by decide)).1
  have q := (c_iremV (x &&& 2147483647) (7 - st)).1 h1 (by omega)
  omega
theorem own_hr {st ln ot ol k : Int32} (hst : 0 ≤ st.toInt ∧ st.toInt < 7) (hln : 0 ≤ ln.toInt ∧ ln.toInt < 7 - st.toInt) (hot : 0 ≤ ot.toInt ∧ ot.toInt < 7) (hol : 0 ≤ ol.toInt ∧ ol.toInt < 7 - ot.toInt) (hll : ln = ol) (hk : 0 ≤ k.toInt ∧ k.toInt ≤ 5) : k < ln → (¬ (st + k) < (0 : Int32) ∧ (st + k) < (6 : Int32)) ∧ (¬ (ot + k) < (0 : Int32) ∧ (ot + k) < (6 : Int32)) := fun h => by
  subst hll
  rw [Int32.lt_iff_toInt_lt] at h
  have s1 := own_sum (x := st) (y := k) (by omega) (by omega) (by omega) (by omega)
  have s2 := own_sum (x := ot) (y := k) (by omega) (by omega) (by omega) (by omega)
  exact ⟨own_rng (by omega) (by omega), own_rng (by omega) (by omega)⟩
theorem own_f01 (bs : List Int32) (s o k n : Int32) : fE bs s o k n = 0 ∨ fE bs s o k n = 1 := by
  unfold fE; repeat' split
  all_goals first | exact Or.inl rfl | exact Or.inr rfl
theorem own_f1 {bs : List Int32} {s o k n : Int32} (hs : 0 ≤ s.toInt ∧ s.toInt ≤ 6) (ho : 0 ≤ o.toInt ∧ o.toInt ≤ 6) (hk : 0 ≤ k.toInt ∧ k.toInt ≤ 6) (h : ¬ fE bs s o k n = 0) : (k.toInt.toNat : Int) < n.toInt → bs.getD (s.toInt.toNat + k.toInt.toNat) 0 = bs.getD (o.toInt.toNat + k.toInt.toNat) 0 := fun q => by
  rw [← own_bt hs.1 hs.2 hk.1 hk.2, ← own_bt ho.1 ho.2 hk.1 hk.2]
  have hq : k < n := by rw [Int32.lt_iff_toInt_lt]; omega
  unfold fE at h
  rw [if_pos hq] at h
  by_cases e : bt bs (s + k) = bt bs (o + k)
  · exact e
  · rw [if_neg e] at h; exact absurd rfl h
theorem own_f0 {bs : List Int32} {s o k n : Int32} (hs : 0 ≤ s.toInt ∧ s.toInt ≤ 6) (ho : 0 ≤ o.toInt ∧ o.toInt ≤ 6) (hk : 0 ≤ k.toInt ∧ k.toInt ≤ 6) (h : fE bs s o k n = 0) : ¬ own_all bs s o n.toInt := fun q => by
  unfold fE at h
  by_cases hq : k < n
  · rw [if_pos hq] at h
    have z := q k.toInt.toNat (by rw [Int32.lt_iff_toInt_lt] at hq; omega)
    rw [← own_bt hs.1 hs.2 hk.1 hk.2, ← own_bt ho.1 ho.2 hk.1 hk.2] at z
    rw [if_pos z] at h; exact absurd h (by decide)
  · rw [if_neg hq] at h; exact absurd h (by decide)
theorem ef_0 (m : MethodId) (pa : Int32) (pc : Int32) (ps : Int32) (pl : Int32) (po : Int32) (pm : Int32) : entryFrame m #[(.int pa), (.int pc), (.int ps), (.int pl), (.int po), (.int pm)] maxLocals = mkF m 0 #[.val (.int pa), .val (.int pc), .val (.int ps), .val (.int pl), .val (.int po), .val (.int pm), .unset, .unset, .unset, .unset, .unset, .unset, .unset] [] := by first | (simp [entryFrame, mkF, argsToLocals, Value.category, maxLocals]; done) | rfl
set_option maxRecDepth 65536 in
set_option maxHeartbeats 40000000 in
theorem rm0 (l : Launch) (Z : State) (az : Array Value) (hw : ∀ d ∈ tables_1, d.before az Z = true) (ws : List Jvm.Cond) (pa : Int32) (pc : Int32) (ps : Int32) (pl : Int32) (po : Int32) (pm : Int32)  (h0 : Heap) (n0 : Nat) (Z0 : n0 ≤ h0.size)  :
    MetFree l x (head1 (Jvm.Cond.code x code maxLocals ret :: ws) room_1) (fun a U => a = #[(.int pa), (.int pc), (.int ps), (.int pl), (.int po), (.int pm)] ∧ Z.Warmed39 U.vm ∧ U.heap = h0) (fun _ _ _ _ _ => True) (fun _ U o U' => ∃ v L, o = .returned v ∧ (LQ n0) v U'.heap L ∧ FrameEnd U o U' L room_1.cells room_1.slots) := by
  refine MetFree.of_bodySF (plainFor_of_name pn_0) hisR ?_
  intro p e s m args below meth c s₁ Bd hml0 hP hK
  obtain ⟨rfl, hZ, hh⟩ := hP
  have hx := Bd.exec
  have hby := Bd.bytes
  have hlk : meth.locks = false := Bd.notSynchronized
  have hml : c.maxLocals = 13 := hml0
  have hown : s.vm.findClass "com/example/grantbook/grantbook/licence/PlainXmlSameBytesPinLaw" = some m.cls := findClass_of_methodNamed Bd.named
  have hnm := (name_of_methodNamed Bd.named Bd.method).1
  have X0 : Stand p l e room_1 s m #[(.int pa), (.int pc), (.int ps), (.int pl), (.int po), (.int pm)] below meth c s₁ [] 0 0 := Stand.of_body Bd
  have e0 : s₁.heap = h0 := by rw [← hh, Bd.state]; rfl
  have N0 := Fr.nil n0
  show Go p e below s ((LQ n0)) room_1.cells room_1.slots (s₁.setTop (entryFrame m #[(.int pa), (.int pc), (.int ps), (.int pl), (.int po), (.int pm)] maxLocals))
  rw [ef_0 m pa pc ps pl po pm]
  refine Go.st (S' := s₁.setTop (mkF m 2 #[.val (.int pa), .val (.int pc), .val (.int ps), .val (.int pl), .val (.int po), .val (.int pm), .unset, .unset, .unset, .unset, .unset, .unset, .unset] [(.int (6 : Int32))])) (fun _ kk => XS.bipush X0.here hx rfl (hb hby at_0) kk) ?_
  obtain ⟨T1, h1, k1, X1, e1, E1, A1, E_b1, st1⟩ := newPE X0 hx hZ (hw _ (List.mem_of_getElem? (i := 0) rfl)) e0 (g := (mkF m 2 #[.val (.int pa), .val (.int pc), .val (.int ps), .val (.int pl), .val (.int po), .val (.int pm), .unset, .unset, .unset, .unset, .unset, .unset, .unset] [(.int (6 : Int32))])) rfl (hb hby at_2) rfl (by decide) (cap := 6) (by decide) (by decide) (by decide : 0 + 1 ≤ _) (by decide : 0 + 6 ≤ _) (ad := "[B") rfl
  obtain ⟨b1, g1⟩ : ∃ z, z = h0.size := ⟨_, rfl⟩
  rw [← g1] at A1 E_b1 st1
  have g_b1 : n0 ≤ b1 := Nat.le_trans Z0 (Nat.le_of_eq g1.symm)
  have Zs2 := Nat.le_trans Z0 E1.1
  have V_b1 : Arv Z h1 b1 k1 .byte (6 : Int32) [(.int (0 : Int32)), (.int (0 : Int32)), (.int (0 : Int32)), (.int (0 : Int32)), (.int (0 : Int32)), (.int (0 : Int32))] (.int (0 : Int32)) := (Arv.new A1 (by decide)).pad (pad_rep [] (.int (0 : Int32)) 6)
  refine Go.st (S' := T1.setTop (mkF m 4 #[.val (.int pa), .val (.int pc), .val (.int ps), .val (.int pl), .val (.int po), .val (.int pm), .unset, .unset, .unset, .unset, .unset, .unset, .unset] [(.ref b1)])) st1 ?_
  refine Go.st (S' := T1.setTop (mkF m 6 #[.val (.int pa), .val (.int pc), .val (.int ps), .val (.int pl), .val (.int po), .val (.int pm), .val (.ref b1), .unset, .unset, .unset, .unset, .unset, .unset] [])) (fun _ kk => XS.astore X1.here hx rfl (hb hby at_4) rfl rfl (l' := #[.val (.int pa), .val (.int pc), .val (.int ps), .val (.int pl), .val (.int po), .val (.int pm), .val (.ref b1), .unset, .unset, .unset, .unset, .unset, .unset]) rfl kk) ?_
  refine Go.st (S' := T1.setTop (mkF m 8 #[.val (.int pa), .val (.int pc), .val (.int ps), .val (.int pl), .val (.int po), .val (.int pm), .val (.ref b1), .unset, .unset, .unset, .unset, .unset, .unset] [(.ref b1)])) (fun _ kk => XS.aload X1.here hx rfl (hb hby at_6) rfl rfl kk) ?_
  refine Go.st (S' := T1.setTop (mkF m 9 #[.val (.int pa), .val (.int pc), .val (.int ps), .val (.int pl), .val (.int po), .val (.int pm), .val (.ref b1), .unset, .unset, .unset, .unset, .unset, .unset] [(.int (0 : Int32)), (.ref b1)])) (fun _ kk => XS.iconst X1.here hx rfl (hb hby at_8) kk) ?_
  refine Go.st (S' := T1.setTop (mkF m 10 #[.val (.int pa), .val (.int pc), .val (.int ps), .val (.int pl), .val (.int po), .val (.int pm), .val (.ref b1), .unset, .unset, .unset, .unset, .unset, .unset] [(.int pa), (.int (0 : Int32)), (.ref b1)])) (fun _ kk => XS.iloadN X1.here hx rfl (hb hby at_9) rfl kk) ?_
  refine Go.st (S' := T1.setTop (mkF m 11 #[.val (.int pa), .val (.int pc), .val (.int ps), .val (.int pl), .val (.int po), .val (.int pm), .val (.ref b1), .unset, .unset, .unset, .unset, .unset, .unset] [(.int (pa.toInt8.toInt32)), (.int (0 : Int32)), (.ref b1)])) (fun _ kk => XS.i2b X1.here hx rfl (hb hby at_10) rfl kk) ?_
  obtain ⟨y0, h_y0⟩ : ∃ z : Int32, z = (pa.toInt8.toInt32) := ⟨_, rfl⟩
  rw [← h_y0]
  obtain ⟨cl3, Ar3, q3, S3, Ng3, H3, G3⟩ := (id V_b1)
  have hin3 : ¬ ((0 : Int32) < 0 ∨ cl3.slots.size ≤ ((0 : Int32)).toNatClampNeg) := inb_of S3 ⟨by decide, by decide⟩
  obtain ⟨T3, h3, X3, e3, W3, st3⟩ := stB X1 hx hZ e1 Ar3 (j := (0 : Int32)) hin3 (g := (mkF m 11 #[.val (.int pa), .val (.int pc), .val (.int ps), .val (.int pl), .val (.int po), .val (.int pm), .val (.ref b1), .unset, .unset, .unset, .unset, .unset, .unset] [(.int y0), (.int (0 : Int32)), (.ref b1)])) rfl rfl (hb hby at_11)
  have V_b1 : Arv Z h3 b1 k1 .byte (6 : Int32) [(.int (y0.toInt8.toInt32)), (.int (0 : Int32)), (.int (0 : Int32)), (.int (0 : Int32)), (.int (0 : Int32)), (.int (0 : Int32))] (.int (0 : Int32)) := Arv.set Ar3 q3 S3 Ng3 H3 G3 (fits_nar_byte _) W3 0 rfl (Nat.le_of_ble_eq_true rfl)
  have N3 := Fr.snoc X3 N0 g_b1
  have E_b1 := E_b1.wr W3
  have Zs4 := Nat.le_trans Zs2 (Keep.of_wr W3).1
  refine Go.st (S' := T3.setTop (mkF m 12 #[.val (.int pa), .val (.int pc), .val (.int ps), .val (.int pl), .val (.int po), .val (.int pm), .val (.ref b1), .unset, .unset, .unset, .unset, .unset, .unset] [])) st3 ?_
  refine Go.st (S' := T3.setTop (mkF m 14 #[.val (.int pa), .val (.int pc), .val (.int ps), .val (.int pl), .val (.int po), .val (.int pm), .val (.ref b1), .unset, .unset, .unset, .unset, .unset, .unset] [(.ref b1)])) (fun _ kk => XS.aload X3.here hx rfl (hb hby at_12) rfl rfl kk) ?_
  refine Go.st (S' := T3.setTop (mkF m 15 #[.val (.int pa), .val (.int pc), .val (.int ps), .val (.int pl), .val (.int po), .val (.int pm), .val (.ref b1), .unset, .unset, .unset, .unset, .unset, .unset] [(.int (1 : Int32)), (.ref b1)])) (fun _ kk => XS.iconst X3.here hx rfl (hb hby at_14) kk) ?_
  refine Go.st (S' := T3.setTop (mkF m 16 #[.val (.int pa), .val (.int pc), .val (.int ps), .val (.int pl), .val (.int po), .val (.int pm), .val (.ref b1), .unset, .unset, .unset, .unset, .unset, .unset] [(.int pa), (.int (1 : Int32)), (.ref b1)])) (fun _ kk => XS.iloadN X3.here hx rfl (hb hby at_15) rfl kk) ?_
  refine Go.st (S' := T3.setTop (mkF m 18 #[.val (.int pa), .val (.int pc), .val (.int ps), .val (.int pl), .val (.int po), .val (.int pm), .val (.ref b1), .unset, .unset, .unset, .unset, .unset, .unset] [(.int (8 : Int32)), (.int pa), (.int (1 : Int32)), (.ref b1)])) (fun _ kk => XS.bipush X3.here hx rfl (hb hby at_16) kk) ?_
  refine Go.st (S' := T3.setTop (mkF m 19 #[.val (.int pa), .val (.int pc), .val (.int ps), .val (.int pl), .val (.int po), .val (.int pm), .val (.ref b1), .unset, .unset, .unset, .unset, .unset, .unset] [(.int ((pa.toUInt32 >>> ((8 : Int32) &&& 31).toUInt32).toInt32)), (.int (1 : Int32)), (.ref b1)])) (fun _ kk => XS.iushr X3.here hx rfl (hb hby at_18) rfl kk) ?_
  refine Go.st (S' := T3.setTop (mkF m 20 #[.val (.int pa), .val (.int pc), .val (.int ps), .val (.int pl), .val (.int po), .val (.int pm), .val (.ref b1), .unset, .unset, .unset, .unset, .unset, .unset] [(.int (((pa.toUInt32 >>> ((8 : Int32) &&& 31).toUInt32).toInt32).toInt8.toInt32)), (.int (1 : Int32)), (.ref b1)])) (fun _ kk => XS.i2b X3.here hx rfl (hb hby at_19) rfl kk) ?_
  obtain ⟨y1, h_y1⟩ : ∃ z : Int32, z = (((pa.toUInt32 >>> ((8 : Int32) &&& 31).toUInt32).toInt32).toInt8.toInt32) := ⟨_, rfl⟩
  rw [← h_y1]
  obtain ⟨cl5, Ar5, q5, S5, Ng5, H5, G5⟩ := (id V_b1)
  have hin5 : ¬ ((1 : Int32) < 0 ∨ cl5.slots.size ≤ ((1 : Int32)).toNatClampNeg) := inb_of S5 ⟨by decide, by decide⟩
  obtain ⟨T5, h5, X5, e5, W5, st5⟩ := stB X3 hx hZ e3 Ar5 (j := (1 : Int32)) hin5 (g := (mkF m 20 #[.val (.int pa), .val (.int pc), .val (.int ps), .val (.int pl), .val (.int po), .val (.int pm), .val (.ref b1), .unset, .unset, .unset, .unset, .unset, .unset] [(.int y1), (.int (1 : Int32)), (.ref b1)])) rfl rfl (hb hby at_20)
  have V_b1 : Arv Z h5 b1 k1 .byte (6 : Int32) [(.int (y0.toInt8.toInt32)), (.int (y1.toInt8.toInt32)), (.int (0 : Int32)), (.int (0 : Int32)), (.int (0 : Int32)), (.int (0 : Int32))] (.int (0 : Int32)) := Arv.set Ar5 q5 S5 Ng5 H5 G5 (fits_nar_byte _) W5 1 rfl (Nat.le_of_ble_eq_true rfl)
  have N5 := Fr.snoc X5 N3 g_b1
  have E_b1 := E_b1.wr W5
  have Zs6 := Nat.le_trans Zs4 (Keep.of_wr W5).1
  refine Go.st (S' := T5.setTop (mkF m 21 #[.val (.int pa), .val (.int pc), .val (.int ps), .val (.int pl), .val (.int po), .val (.int pm), .val (.ref b1), .unset, .unset, .unset, .unset, .unset, .unset] [])) st5 ?_
  refine Go.st (S' := T5.setTop (mkF m 23 #[.val (.int pa), .val (.int pc), .val (.int ps), .val (.int pl), .val (.int po), .val (.int pm), .val (.ref b1), .unset, .unset, .unset, .unset, .unset, .unset] [(.ref b1)])) (fun _ kk => XS.aload X5.here hx rfl (hb hby at_21) rfl rfl kk) ?_
  refine Go.st (S' := T5.setTop (mkF m 24 #[.val (.int pa), .val (.int pc), .val (.int ps), .val (.int pl), .val (.int po), .val (.int pm), .val (.ref b1), .unset, .unset, .unset, .unset, .unset, .unset] [(.int (2 : Int32)), (.ref b1)])) (fun _ kk => XS.iconst X5.here hx rfl (hb hby at_23) kk) ?_
  refine Go.st (S' := T5.setTop (mkF m 25 #[.val (.int pa), .val (.int pc), .val (.int ps), .val (.int pl), .val (.int po), .val (.int pm), .val (.ref b1), .unset, .unset, .unset, .unset, .unset, .unset] [(.int pa), (.int (2 : Int32)), (.ref b1)])) (fun _ kk => XS.iloadN X5.here hx rfl (hb hby at_24) rfl kk) ?_
  refine Go.st (S' := T5.setTop (mkF m 27 #[.val (.int pa), .val (.int pc), .val (.int ps), .val (.int pl), .val (.int po), .val (.int pm), .val (.ref b1), .unset, .unset, .unset, .unset, .unset, .unset] [(.int (16 : Int32)), (.int pa), (.int (2 : Int32)), (.ref b1)])) (fun _ kk => XS.bipush X5.here hx rfl (hb hby at_25) kk) ?_
  refine Go.st (S' := T5.setTop (mkF m 28 #[.val (.int pa), .val (.int pc), .val (.int ps), .val (.int pl), .val (.int po), .val (.int pm), .val (.ref b1), .unset, .unset, .unset, .unset, .unset, .unset] [(.int ((pa.toUInt32 >>> ((16 : Int32) &&& 31).toUInt32).toInt32)), (.int (2 : Int32)), (.ref b1)])) (fun _ kk => XS.iushr X5.here hx rfl (hb hby at_27) rfl kk) ?_
  refine Go.st (S' := T5.setTop (mkF m 29 #[.val (.int pa), .val (.int pc), .val (.int ps), .val (.int pl), .val (.int po), .val (.int pm), .val (.ref b1), .unset, .unset, .unset, .unset, .unset, .unset] [(.int (((pa.toUInt32 >>> ((16 : Int32) &&& 31).toUInt32).toInt32).toInt8.toInt32)), (.int (2 : Int32)), (.ref b1)])) (fun _ kk => XS.i2b X5.here hx rfl (hb hby at_28) rfl kk) ?_
  obtain ⟨y2, h_y2⟩ : ∃ z : Int32, z = (((pa.toUInt32 >>> ((16 : Int32) &&& 31).toUInt32).toInt32).toInt8.toInt32) := ⟨_, rfl⟩
  rw [← h_y2]
  obtain ⟨cl7, Ar7, q7, S7, Ng7, H7, G7⟩ := (id V_b1)
  have hin7 : ¬ ((2 : Int32) < 0 ∨ cl7.slots.size ≤ ((2 : Int32)).toNatClampNeg) := inb_of S7 ⟨by decide, by decide⟩
  obtain ⟨T7, h7, X7, e7, W7, st7⟩ := stB X5 hx hZ e5 Ar7 (j := (2 : Int32)) hin7 (g := (mkF m 29 #[.val (.int pa), .val (.int pc), .val (.int ps), .val (.int pl), .val (.int po), .val (.int pm), .val (.ref b1), .unset, .unset, .unset, .unset, .unset, .unset] [(.int y2), (.int (2 : Int32)), (.ref b1)])) rfl rfl (hb hby at_29)
  have V_b1 : Arv Z h7 b1 k1 .byte (6 : Int32) [(.int (y0.toInt8.toInt32)), (.int (y1.toInt8.toInt32)), (.int (y2.toInt8.toInt32)), (.int (0 : Int32)), (.int (0 : Int32)), (.int (0 : Int32))] (.int (0 : Int32)) := Arv.set Ar7 q7 S7 Ng7 H7 G7 (fits_nar_byte _) W7 2 rfl (Nat.le_of_ble_eq_true rfl)
  have N7 := Fr.snoc X7 N5 g_b1
  have E_b1 := E_b1.wr W7
  have Zs8 := Nat.le_trans Zs6 (Keep.of_wr W7).1
  refine Go.st (S' := T7.setTop (mkF m 30 #[.val (.int pa), .val (.int pc), .val (.int ps), .val (.int pl), .val (.int po), .val (.int pm), .val (.ref b1), .unset, .unset, .unset, .unset, .unset, .unset] [])) st7 ?_
  refine Go.st (S' := T7.setTop (mkF m 32 #[.val (.int pa), .val (.int pc), .val (.int ps), .val (.int pl), .val (.int po), .val (.int pm), .val (.ref b1), .unset, .unset, .unset, .unset, .unset, .unset] [(.ref b1)])) (fun _ kk => XS.aload X7.here hx rfl (hb hby at_30) rfl rfl kk) ?_
  refine Go.st (S' := T7.setTop (mkF m 33 #[.val (.int pa), .val (.int pc), .val (.int ps), .val (.int pl), .val (.int po), .val (.int pm), .val (.ref b1), .unset, .unset, .unset, .unset, .unset, .unset] [(.int (3 : Int32)), (.ref b1)])) (fun _ kk => XS.iconst X7.here hx rfl (hb hby at_32) kk) ?_
  refine Go.st (S' := T7.setTop (mkF m 34 #[.val (.int pa), .val (.int pc), .val (.int ps), .val (.int pl), .val (.int po), .val (.int pm), .val (.ref b1), .unset, .unset, .unset, .unset, .unset, .unset] [(.int pa), (.int (3 : Int32)), (.ref b1)])) (fun _ kk => XS.iloadN X7.here hx rfl (hb hby at_33) rfl kk) ?_
  refine Go.st (S' := T7.setTop (mkF m 36 #[.val (.int pa), .val (.int pc), .val (.int ps), .val (.int pl), .val (.int po), .val (.int pm), .val (.ref b1), .unset, .unset, .unset, .unset, .unset, .unset] [(.int (24 : Int32)), (.int pa), (.int (3 : Int32)), (.ref b1)])) (fun _ kk => XS.bipush X7.here hx rfl (hb hby at_34) kk) ?_
  refine Go.st (S' := T7.setTop (mkF m 37 #[.val (.int pa), .val (.int pc), .val (.int ps), .val (.int pl), .val (.int po), .val (.int pm), .val (.ref b1), .unset, .unset, .unset, .unset, .unset, .unset] [(.int ((pa.toUInt32 >>> ((24 : Int32) &&& 31).toUInt32).toInt32)), (.int (3 : Int32)), (.ref b1)])) (fun _ kk => XS.iushr X7.here hx rfl (hb hby at_36) rfl kk) ?_
  refine Go.st (S' := T7.setTop (mkF m 38 #[.val (.int pa), .val (.int pc), .val (.int ps), .val (.int pl), .val (.int po), .val (.int pm), .val (.ref b1), .unset, .unset, .unset, .unset, .unset, .unset] [(.int (((pa.toUInt32 >>> ((24 : Int32) &&& 31).toUInt32).toInt32).toInt8.toInt32)), (.int (3 : Int32)), (.ref b1)])) (fun _ kk => XS.i2b X7.here hx rfl (hb hby at_37) rfl kk) ?_
  obtain ⟨y3, h_y3⟩ : ∃ z : Int32, z = (((pa.toUInt32 >>> ((24 : Int32) &&& 31).toUInt32).toInt32).toInt8.toInt32) := ⟨_, rfl⟩
  rw [← h_y3]
  obtain ⟨cl9, Ar9, q9, S9, Ng9, H9, G9⟩ := (id V_b1)
  have hin9 : ¬ ((3 : Int32) < 0 ∨ cl9.slots.size ≤ ((3 : Int32)).toNatClampNeg) := inb_of S9 ⟨by decide, by decide⟩
  obtain ⟨T9, h9, X9, e9, W9, st9⟩ := stB X7 hx hZ e7 Ar9 (j := (3 : Int32)) hin9 (g := (mkF m 38 #[.val (.int pa), .val (.int pc), .val (.int ps), .val (.int pl), .val (.int po), .val (.int pm), .val (.ref b1), .unset, .unset, .unset, .unset, .unset, .unset] [(.int y3), (.int (3 : Int32)), (.ref b1)])) rfl rfl (hb hby at_38)
  have V_b1 : Arv Z h9 b1 k1 .byte (6 : Int32) [(.int (y0.toInt8.toInt32)), (.int (y1.toInt8.toInt32)), (.int (y2.toInt8.toInt32)), (.int (y3.toInt8.toInt32)), (.int (0 : Int32)), (.int (0 : Int32))] (.int (0 : Int32)) := Arv.set Ar9 q9 S9 Ng9 H9 G9 (fits_nar_byte _) W9 3 rfl (Nat.le_of_ble_eq_true rfl)
  have N9 := Fr.snoc X9 N7 g_b1
  have E_b1 := E_b1.wr W9
  have Zs10 := Nat.le_trans Zs8 (Keep.of_wr W9).1
  refine Go.st (S' := T9.setTop (mkF m 39 #[.val (.int pa), .val (.int pc), .val (.int ps), .val (.int pl), .val (.int po), .val (.int pm), .val (.ref b1), .unset, .unset, .unset, .unset, .unset, .unset] [])) st9 ?_
  refine Go.st (S' := T9.setTop (mkF m 41 #[.val (.int pa), .val (.int pc), .val (.int ps), .val (.int pl), .val (.int po), .val (.int pm), .val (.ref b1), .unset, .unset, .unset, .unset, .unset, .unset] [(.ref b1)])) (fun _ kk => XS.aload X9.here hx rfl (hb hby at_39) rfl rfl kk) ?_
  refine Go.st (S' := T9.setTop (mkF m 42 #[.val (.int pa), .val (.int pc), .val (.int ps), .val (.int pl), .val (.int po), .val (.int pm), .val (.ref b1), .unset, .unset, .unset, .unset, .unset, .unset] [(.int (4 : Int32)), (.ref b1)])) (fun _ kk => XS.iconst X9.here hx rfl (hb hby at_41) kk) ?_
  refine Go.st (S' := T9.setTop (mkF m 43 #[.val (.int pa), .val (.int pc), .val (.int ps), .val (.int pl), .val (.int po), .val (.int pm), .val (.ref b1), .unset, .unset, .unset, .unset, .unset, .unset] [(.int pc), (.int (4 : Int32)), (.ref b1)])) (fun _ kk => XS.iloadN X9.here hx rfl (hb hby at_42) rfl kk) ?_
  refine Go.st (S' := T9.setTop (mkF m 44 #[.val (.int pa), .val (.int pc), .val (.int ps), .val (.int pl), .val (.int po), .val (.int pm), .val (.ref b1), .unset, .unset, .unset, .unset, .unset, .unset] [(.int (pc.toInt8.toInt32)), (.int (4 : Int32)), (.ref b1)])) (fun _ kk => XS.i2b X9.here hx rfl (hb hby at_43) rfl kk) ?_
  obtain ⟨y4, h_y4⟩ : ∃ z : Int32, z = (pc.toInt8.toInt32) := ⟨_, rfl⟩
  rw [← h_y4]
  obtain ⟨cl11, Ar11, q11, S11, Ng11, H11, G11⟩ := (id V_b1)
  have hin11 : ¬ ((4 : Int32) < 0 ∨ cl11.slots.size ≤ ((4 : Int32)).toNatClampNeg) := inb_of S11 ⟨by decide, by decide⟩
  obtain ⟨T11, h11, X11, e11, W11, st11⟩ := stB X9 hx hZ e9 Ar11 (j := (4 : Int32)) hin11 (g := (mkF m 44 #[.val (.int pa), .val (.int pc), .val (.int ps), .val (.int pl), .val (.int po), .val (.int pm), .val (.ref b1), .unset, .unset, .unset, .unset, .unset, .unset] [(.int y4), (.int (4 : Int32)), (.ref b1)])) rfl rfl (hb hby at_44)
  have V_b1 : Arv Z h11 b1 k1 .byte (6 : Int32) [(.int (y0.toInt8.toInt32)), (.int (y1.toInt8.toInt32)), (.int (y2.toInt8.toInt32)), (.int (y3.toInt8.toInt32)), (.int (y4.toInt8.toInt32)), (.int (0 : Int32))] (.int (0 : Int32)) := Arv.set Ar11 q11 S11 Ng11 H11 G11 (fits_nar_byte _) W11 4 rfl (Nat.le_of_ble_eq_true rfl)
  have N11 := Fr.snoc X11 N9 g_b1
  have E_b1 := E_b1.wr W11
  have Zs12 := Nat.le_trans Zs10 (Keep.of_wr W11).1
  refine Go.st (S' := T11.setTop (mkF m 45 #[.val (.int pa), .val (.int pc), .val (.int ps), .val (.int pl), .val (.int po), .val (.int pm), .val (.ref b1), .unset, .unset, .unset, .unset, .unset, .unset] [])) st11 ?_
  refine Go.st (S' := T11.setTop (mkF m 47 #[.val (.int pa), .val (.int pc), .val (.int ps), .val (.int pl), .val (.int po), .val (.int pm), .val (.ref b1), .unset, .unset, .unset, .unset, .unset, .unset] [(.ref b1)])) (fun _ kk => XS.aload X11.here hx rfl (hb hby at_45) rfl rfl kk) ?_
  refine Go.st (S' := T11.setTop (mkF m 48 #[.val (.int pa), .val (.int pc), .val (.int ps), .val (.int pl), .val (.int po), .val (.int pm), .val (.ref b1), .unset, .unset, .unset, .unset, .unset, .unset] [(.int (5 : Int32)), (.ref b1)])) (fun _ kk => XS.iconst X11.here hx rfl (hb hby at_47) kk) ?_
  refine Go.st (S' := T11.setTop (mkF m 49 #[.val (.int pa), .val (.int pc), .val (.int ps), .val (.int pl), .val (.int po), .val (.int pm), .val (.ref b1), .unset, .unset, .unset, .unset, .unset, .unset] [(.int pc), (.int (5 : Int32)), (.ref b1)])) (fun _ kk => XS.iloadN X11.here hx rfl (hb hby at_48) rfl kk) ?_
  refine Go.st (S' := T11.setTop (mkF m 51 #[.val (.int pa), .val (.int pc), .val (.int ps), .val (.int pl), .val (.int po), .val (.int pm), .val (.ref b1), .unset, .unset, .unset, .unset, .unset, .unset] [(.int (8 : Int32)), (.int pc), (.int (5 : Int32)), (.ref b1)])) (fun _ kk => XS.bipush X11.here hx rfl (hb hby at_49) kk) ?_
  refine Go.st (S' := T11.setTop (mkF m 52 #[.val (.int pa), .val (.int pc), .val (.int ps), .val (.int pl), .val (.int po), .val (.int pm), .val (.ref b1), .unset, .unset, .unset, .unset, .unset, .unset] [(.int ((pc.toUInt32 >>> ((8 : Int32) &&& 31).toUInt32).toInt32)), (.int (5 : Int32)), (.ref b1)])) (fun _ kk => XS.iushr X11.here hx rfl (hb hby at_51) rfl kk) ?_
  refine Go.st (S' := T11.setTop (mkF m 53 #[.val (.int pa), .val (.int pc), .val (.int ps), .val (.int pl), .val (.int po), .val (.int pm), .val (.ref b1), .unset, .unset, .unset, .unset, .unset, .unset] [(.int (((pc.toUInt32 >>> ((8 : Int32) &&& 31).toUInt32).toInt32).toInt8.toInt32)), (.int (5 : Int32)), (.ref b1)])) (fun _ kk => XS.i2b X11.here hx rfl (hb hby at_52) rfl kk) ?_
  obtain ⟨y5, h_y5⟩ : ∃ z : Int32, z = (((pc.toUInt32 >>> ((8 : Int32) &&& 31).toUInt32).toInt32).toInt8.toInt32) := ⟨_, rfl⟩
  rw [← h_y5]
  obtain ⟨cl13, Ar13, q13, S13, Ng13, H13, G13⟩ := (id V_b1)
  have hin13 : ¬ ((5 : Int32) < 0 ∨ cl13.slots.size ≤ ((5 : Int32)).toNatClampNeg) := inb_of S13 ⟨by decide, by decide⟩
  obtain ⟨T13, h13, X13, e13, W13, st13⟩ := stB X11 hx hZ e11 Ar13 (j := (5 : Int32)) hin13 (g := (mkF m 53 #[.val (.int pa), .val (.int pc), .val (.int ps), .val (.int pl), .val (.int po), .val (.int pm), .val (.ref b1), .unset, .unset, .unset, .unset, .unset, .unset] [(.int y5), (.int (5 : Int32)), (.ref b1)])) rfl rfl (hb hby at_53)
  have V_b1 : Arv Z h13 b1 k1 .byte (6 : Int32) [(.int (y0.toInt8.toInt32)), (.int (y1.toInt8.toInt32)), (.int (y2.toInt8.toInt32)), (.int (y3.toInt8.toInt32)), (.int (y4.toInt8.toInt32)), (.int (y5.toInt8.toInt32))] (.int (0 : Int32)) := Arv.set Ar13 q13 S13 Ng13 H13 G13 (fits_nar_byte _) W13 5 rfl (Nat.le_of_ble_eq_true rfl)
  have N13 := Fr.snoc X13 N11 g_b1
  have E_b1 := E_b1.wr W13
  have Zs14 := Nat.le_trans Zs12 (Keep.of_wr W13).1
  refine Go.st (S' := T13.setTop (mkF m 54 #[.val (.int pa), .val (.int pc), .val (.int ps), .val (.int pl), .val (.int po), .val (.int pm), .val (.ref b1), .unset, .unset, .unset, .unset, .unset, .unset] [])) st13 ?_
  refine Go.st (S' := T13.setTop (mkF m 55 #[.val (.int pa), .val (.int pc), .val (.int ps), .val (.int pl), .val (.int po), .val (.int pm), .val (.ref b1), .unset, .unset, .unset, .unset, .unset, .unset] [(.int ps)])) (fun _ kk => XS.iloadN X13.here hx rfl (hb hby at_54) rfl kk) ?_
  refine Go.st (S' := T13.setTop (mkF m 57 #[.val (.int pa), .val (.int pc), .val (.int ps), .val (.int pl), .val (.int po), .val (.int pm), .val (.ref b1), .unset, .unset, .unset, .unset, .unset, .unset] [(.int (2147483647 : Int32)), (.int ps)])) (fun _ kk => X13.ldcInt hx hown (mvT hZ (hw _ (List.mem_of_getElem? (i := 1) rfl))) (g := (mkF m 55 #[.val (.int pa), .val (.int pc), .val (.int ps), .val (.int pl), .val (.int po), .val (.int pm), .val (.ref b1), .unset, .unset, .unset, .unset, .unset, .unset] [(.int ps)])) rfl (hb hby at_55) _ kk) ?_
  refine Go.st (S' := T13.setTop (mkF m 58 #[.val (.int pa), .val (.int pc), .val (.int ps), .val (.int pl), .val (.int po), .val (.int pm), .val (.ref b1), .unset, .unset, .unset, .unset, .unset, .unset] [(.int (ps &&& (2147483647 : Int32)))])) (fun _ kk => XS.iand X13.here hx rfl (hb hby at_57) rfl kk) ?_
  refine Go.st (S' := T13.setTop (mkF m 60 #[.val (.int pa), .val (.int pc), .val (.int ps), .val (.int pl), .val (.int po), .val (.int pm), .val (.ref b1), .unset, .unset, .unset, .unset, .unset, .unset] [(.int (7 : Int32)), (.int (ps &&& (2147483647 : Int32)))])) (fun _ kk => XS.bipush X13.here hx rfl (hb hby at_58) kk) ?_
  refine Go.st (S' := T13.setTop (mkF m 61 #[.val (.int pa), .val (.int pc), .val (.int ps), .val (.int pl), .val (.int po), .val (.int pm), .val (.ref b1), .unset, .unset, .unset, .unset, .unset, .unset] [(.int ((ps &&& (2147483647 : Int32)) % (7 : Int32)))])) (fun _ kk => iremM (g := (mkF m 60 #[.val (.int pa), .val (.int pc), .val (.int ps), .val (.int pl), .val (.int po), .val (.int pm), .val (.ref b1), .unset, .unset, .unset, .unset, .unset, .unset] [(.int (7 : Int32)), (.int (ps &&& (2147483647 : Int32)))])) X13 hx rfl (hb hby at_60) rfl (by decide) kk) ?_
  obtain ⟨st, h_st⟩ : ∃ z : Int32, z = ((ps &&& (2147483647 : Int32)) % (7 : Int32)) := ⟨_, rfl⟩
  rw [← h_st]
  have hst : 0 ≤ st.toInt ∧ st.toInt < 7 := by rw [h_st]; exact own_rem7 _
  refine Go.st (S' := T13.setTop (mkF m 63 #[.val (.int pa), .val (.int pc), .val (.int ps), .val (.int pl), .val (.int po), .val (.int pm), .val (.ref b1), .val (.int st), .unset, .unset, .unset, .unset, .unset] [])) (fun _ kk => XS.istore X13.here hx rfl (hb hby at_61) rfl (l' := #[.val (.int pa), .val (.int pc), .val (.int ps), .val (.int pl), .val (.int po), .val (.int pm), .val (.ref b1), .val (.int st), .unset, .unset, .unset, .unset, .unset]) rfl kk) ?_
  refine Go.st (S' := T13.setTop (mkF m 64 #[.val (.int pa), .val (.int pc), .val (.int ps), .val (.int pl), .val (.int po), .val (.int pm), .val (.ref b1), .val (.int st), .unset, .unset, .unset, .unset, .unset] [(.int pl)])) (fun _ kk => XS.iloadN X13.here hx rfl (hb hby at_63) rfl kk) ?_
  refine Go.st (S' := T13.setTop (mkF m 66 #[.val (.int pa), .val (.int pc), .val (.int ps), .val (.int pl), .val (.int po), .val (.int pm), .val (.ref b1), .val (.int st), .unset, .unset, .unset, .unset, .unset] [(.int (2147483647 : Int32)), (.int pl)])) (fun _ kk => X13.ldcInt hx hown (mvT hZ (hw _ (List.mem_of_getElem? (i := 1) rfl))) (g := (mkF m 64 #[.val (.int pa), .val (.int pc), .val (.int ps), .val (.int pl), .val (.int po), .val (.int pm), .val (.ref b1), .val (.int st), .unset, .unset, .unset, .unset, .unset] [(.int pl)])) rfl (hb hby at_64) _ kk) ?_
  refine Go.st (S' := T13.setTop (mkF m 67 #[.val (.int pa), .val (.int pc), .val (.int ps), .val (.int pl), .val (.int po), .val (.int pm), .val (.ref b1), .val (.int st), .unset, .unset, .unset, .unset, .unset] [(.int (pl &&& (2147483647 : Int32)))])) (fun _ kk => XS.iand X13.here hx rfl (hb hby at_66) rfl kk) ?_
  refine Go.st (S' := T13.setTop (mkF m 69 #[.val (.int pa), .val (.int pc), .val (.int ps), .val (.int pl), .val (.int po), .val (.int pm), .val (.ref b1), .val (.int st), .unset, .unset, .unset, .unset, .unset] [(.int (7 : Int32)), (.int (pl &&& (2147483647 : Int32)))])) (fun _ kk => XS.bipush X13.here hx rfl (hb hby at_67) kk) ?_
  refine Go.st (S' := T13.setTop (mkF m 71 #[.val (.int pa), .val (.int pc), .val (.int ps), .val (.int pl), .val (.int po), .val (.int pm), .val (.ref b1), .val (.int st), .unset, .unset, .unset, .unset, .unset] [(.int st), (.int (7 : Int32)), (.int (pl &&& (2147483647 : Int32)))])) (fun _ kk => XS.iload X13.here hx rfl (hb hby at_69) rfl kk) ?_
  refine Go.st (S' := T13.setTop (mkF m 72 #[.val (.int pa), .val (.int pc), .val (.int ps), .val (.int pl), .val (.int po), .val (.int pm), .val (.ref b1), .val (.int st), .unset, .unset, .unset, .unset, .unset] [(.int ((7 : Int32) - st)), (.int (pl &&& (2147483647 : Int32)))])) (fun _ kk => XS.isub X13.here hx rfl (hb hby at_71) rfl kk) ?_
  refine Go.st (S' := T13.setTop (mkF m 73 #[.val (.int pa), .val (.int pc), .val (.int ps), .val (.int pl), .val (.int po), .val (.int pm), .val (.ref b1), .val (.int st), .unset, .unset, .unset, .unset, .unset] [(.int ((pl &&& (2147483647 : Int32)) % ((7 : Int32) - st)))])) (fun _ kk => iremM (g := (mkF m 72 #[.val (.int pa), .val (.int pc), .val (.int ps), .val (.int pl), .val (.int po), .val (.int pm), .val (.ref b1), .val (.int st), .unset, .unset, .unset, .unset, .unset] [(.int ((7 : Int32) - st)), (.int (pl &&& (2147483647 : Int32)))])) X13 hx rfl (hb hby at_72) rfl (own_nz hst) kk) ?_
  obtain ⟨ln, h_ln⟩ : ∃ z : Int32, z = ((pl &&& (2147483647 : Int32)) % ((7 : Int32) - st)) := ⟨_, rfl⟩
  rw [← h_ln]
  have hln : 0 ≤ ln.toInt ∧ ln.toInt < 7 - st.toInt := by rw [h_ln]; exact own_remV _ hst
  refine Go.st (S' := T13.setTop (mkF m 75 #[.val (.int pa), .val (.int pc), .val (.int ps), .val (.int pl), .val (.int po), .val (.int pm), .val (.ref b1), .val (.int st), .val (.int ln), .unset, .unset, .unset, .unset] [])) (fun _ kk => XS.istore X13.here hx rfl (hb hby at_73) rfl (l' := #[.val (.int pa), .val (.int pc), .val (.int ps), .val (.int pl), .val (.int po), .val (.int pm), .val (.ref b1), .val (.int st), .val (.int ln), .unset, .unset, .unset, .unset]) rfl kk) ?_
  refine Go.st (S' := T13.setTop (mkF m 77 #[.val (.int pa), .val (.int pc), .val (.int ps), .val (.int pl), .val (.int po), .val (.int pm), .val (.ref b1), .val (.int st), .val (.int ln), .unset, .unset, .unset, .unset] [(.int po)])) (fun _ kk => XS.iload X13.here hx rfl (hb hby at_75) rfl kk) ?_
  refine Go.st (S' := T13.setTop (mkF m 79 #[.val (.int pa), .val (.int pc), .val (.int ps), .val (.int pl), .val (.int po), .val (.int pm), .val (.ref b1), .val (.int st), .val (.int ln), .unset, .unset, .unset, .unset] [(.int (2147483647 : Int32)), (.int po)])) (fun _ kk => X13.ldcInt hx hown (mvT hZ (hw _ (List.mem_of_getElem? (i := 1) rfl))) (g := (mkF m 77 #[.val (.int pa), .val (.int pc), .val (.int ps), .val (.int pl), .val (.int po), .val (.int pm), .val (.ref b1), .val (.int st), .val (.int ln), .unset, .unset, .unset, .unset] [(.int po)])) rfl (hb hby at_77) _ kk) ?_
  refine Go.st (S' := T13.setTop (mkF m 80 #[.val (.int pa), .val (.int pc), .val (.int ps), .val (.int pl), .val (.int po), .val (.int pm), .val (.ref b1), .val (.int st), .val (.int ln), .unset, .unset, .unset, .unset] [(.int (po &&& (2147483647 : Int32)))])) (fun _ kk => XS.iand X13.here hx rfl (hb hby at_79) rfl kk) ?_
  refine Go.st (S' := T13.setTop (mkF m 82 #[.val (.int pa), .val (.int pc), .val (.int ps), .val (.int pl), .val (.int po), .val (.int pm), .val (.ref b1), .val (.int st), .val (.int ln), .unset, .unset, .unset, .unset] [(.int (7 : Int32)), (.int (po &&& (2147483647 : Int32)))])) (fun _ kk => XS.bipush X13.here hx rfl (hb hby at_80) kk) ?_
  refine Go.st (S' := T13.setTop (mkF m 83 #[.val (.int pa), .val (.int pc), .val (.int ps), .val (.int pl), .val (.int po), .val (.int pm), .val (.ref b1), .val (.int st), .val (.int ln), .unset, .unset, .unset, .unset] [(.int ((po &&& (2147483647 : Int32)) % (7 : Int32)))])) (fun _ kk => iremM (g := (mkF m 82 #[.val (.int pa), .val (.int pc), .val (.int ps), .val (.int pl), .val (.int po), .val (.int pm), .val (.ref b1), .val (.int st), .val (.int ln), .unset, .unset, .unset, .unset] [(.int (7 : Int32)), (.int (po &&& (2147483647 : Int32)))])) X13 hx rfl (hb hby at_82) rfl (by decide) kk) ?_
  obtain ⟨ot, h_ot⟩ : ∃ z : Int32, z = ((po &&& (2147483647 : Int32)) % (7 : Int32)) := ⟨_, rfl⟩
  rw [← h_ot]
  have hot : 0 ≤ ot.toInt ∧ ot.toInt < 7 := by rw [h_ot]; exact own_rem7 _
  refine Go.st (S' := T13.setTop (mkF m 85 #[.val (.int pa), .val (.int pc), .val (.int ps), .val (.int pl), .val (.int po), .val (.int pm), .val (.ref b1), .val (.int st), .val (.int ln), .val (.int ot), .unset, .unset, .unset] [])) (fun _ kk => XS.istore X13.here hx rfl (hb hby at_83) rfl (l' := #[.val (.int pa), .val (.int pc), .val (.int ps), .val (.int pl), .val (.int po), .val (.int pm), .val (.ref b1), .val (.int st), .val (.int ln), .val (.int ot), .unset, .unset, .unset]) rfl kk) ?_
  refine Go.st (S' := T13.setTop (mkF m 87 #[.val (.int pa), .val (.int pc), .val (.int ps), .val (.int pl), .val (.int po), .val (.int pm), .val (.ref b1), .val (.int st), .val (.int ln), .val (.int ot), .unset, .unset, .unset] [(.int pm)])) (fun _ kk => XS.iload X13.here hx rfl (hb hby at_85) rfl kk) ?_
  refine Go.st (S' := T13.setTop (mkF m 89 #[.val (.int pa), .val (.int pc), .val (.int ps), .val (.int pl), .val (.int po), .val (.int pm), .val (.ref b1), .val (.int st), .val (.int ln), .val (.int ot), .unset, .unset, .unset] [(.int (2147483647 : Int32)), (.int pm)])) (fun _ kk => X13.ldcInt hx hown (mvT hZ (hw _ (List.mem_of_getElem? (i := 1) rfl))) (g := (mkF m 87 #[.val (.int pa), .val (.int pc), .val (.int ps), .val (.int pl), .val (.int po), .val (.int pm), .val (.ref b1), .val (.int st), .val (.int ln), .val (.int ot), .unset, .unset, .unset] [(.int pm)])) rfl (hb hby at_87) _ kk) ?_
  refine Go.st (S' := T13.setTop (mkF m 90 #[.val (.int pa), .val (.int pc), .val (.int ps), .val (.int pl), .val (.int po), .val (.int pm), .val (.ref b1), .val (.int st), .val (.int ln), .val (.int ot), .unset, .unset, .unset] [(.int (pm &&& (2147483647 : Int32)))])) (fun _ kk => XS.iand X13.here hx rfl (hb hby at_89) rfl kk) ?_
  refine Go.st (S' := T13.setTop (mkF m 92 #[.val (.int pa), .val (.int pc), .val (.int ps), .val (.int pl), .val (.int po), .val (.int pm), .val (.ref b1), .val (.int st), .val (.int ln), .val (.int ot), .unset, .unset, .unset] [(.int (7 : Int32)), (.int (pm &&& (2147483647 : Int32)))])) (fun _ kk => XS.bipush X13.here hx rfl (hb hby at_90) kk) ?_
  refine Go.st (S' := T13.setTop (mkF m 94 #[.val (.int pa), .val (.int pc), .val (.int ps), .val (.int pl), .val (.int po), .val (.int pm), .val (.ref b1), .val (.int st), .val (.int ln), .val (.int ot), .unset, .unset, .unset] [(.int ot), (.int (7 : Int32)), (.int (pm &&& (2147483647 : Int32)))])) (fun _ kk => XS.iload X13.here hx rfl (hb hby at_92) rfl kk) ?_
  refine Go.st (S' := T13.setTop (mkF m 95 #[.val (.int pa), .val (.int pc), .val (.int ps), .val (.int pl), .val (.int po), .val (.int pm), .val (.ref b1), .val (.int st), .val (.int ln), .val (.int ot), .unset, .unset, .unset] [(.int ((7 : Int32) - ot)), (.int (pm &&& (2147483647 : Int32)))])) (fun _ kk => XS.isub X13.here hx rfl (hb hby at_94) rfl kk) ?_
  refine Go.st (S' := T13.setTop (mkF m 96 #[.val (.int pa), .val (.int pc), .val (.int ps), .val (.int pl), .val (.int po), .val (.int pm), .val (.ref b1), .val (.int st), .val (.int ln), .val (.int ot), .unset, .unset, .unset] [(.int ((pm &&& (2147483647 : Int32)) % ((7 : Int32) - ot)))])) (fun _ kk => iremM (g := (mkF m 95 #[.val (.int pa), .val (.int pc), .val (.int ps), .val (.int pl), .val (.int po), .val (.int pm), .val (.ref b1), .val (.int st), .val (.int ln), .val (.int ot), .unset, .unset, .unset] [(.int ((7 : Int32) - ot)), (.int (pm &&& (2147483647 : Int32)))])) X13 hx rfl (hb hby at_95) rfl (own_nz hot) kk) ?_
  obtain ⟨ol, h_ol⟩ : ∃ z : Int32, z = ((pm &&& (2147483647 : Int32)) % ((7 : Int32) - ot)) := ⟨_, rfl⟩
  rw [← h_ol]
  have hol : 0 ≤ ol.toInt ∧ ol.toInt < 7 - ot.toInt := by rw [h_ol]; exact own_remV _ hot
  obtain ⟨bs, hbs⟩ : ∃ z : List Int32, z = [(y0.toInt8.toInt32), (y1.toInt8.toInt32), (y2.toInt8.toInt32), (y3.toInt8.toInt32), (y4.toInt8.toInt32), (y5.toInt8.toInt32)] := ⟨_, rfl⟩
  have V_bs : Arv Z h13 b1 k1 .byte (6 : Int32) (bs.map .int) (.int 0) := by rw [hbs]; exact V_b1
  have S1 := own_sum (x := st) (y := ln) (by omega) (by omega) (by omega) (by omega)
  have S2 := own_sum (x := ot) (y := ol) (by omega) (by omega) (by omega) (by omega)
  refine Go.st (S' := T13.setTop (mkF m 98 #[.val (.int pa), .val (.int pc), .val (.int ps), .val (.int pl), .val (.int po), .val (.int pm), .val (.ref b1), .val (.int st), .val (.int ln), .val (.int ot), .val (.int ol), .unset, .unset] [])) (fun _ kk => XS.istore X13.here hx rfl (hb hby at_96) rfl (l' := #[.val (.int pa), .val (.int pc), .val (.int ps), .val (.int pl), .val (.int po), .val (.int pm), .val (.ref b1), .val (.int st), .val (.int ln), .val (.int ot), .val (.int ol), .unset, .unset]) rfl kk) ?_
  refine Go.st (S' := T13.setTop (mkF m 100 #[.val (.int pa), .val (.int pc), .val (.int ps), .val (.int pl), .val (.int po), .val (.int pm), .val (.ref b1), .val (.int st), .val (.int ln), .val (.int ot), .val (.int ol), .unset, .unset] [(.int ln)])) (fun _ kk => XS.iload X13.here hx rfl (hb hby at_98) rfl kk) ?_
  refine Go.st (S' := T13.setTop (mkF m 102 #[.val (.int pa), .val (.int pc), .val (.int ps), .val (.int pl), .val (.int po), .val (.int pm), .val (.ref b1), .val (.int st), .val (.int ln), .val (.int ot), .val (.int ol), .unset, .unset] [(.int ol), (.int ln)])) (fun _ kk => XS.iload X13.here hx rfl (hb hby at_100) rfl kk) ?_
  by_cases hc15 : ln = ol
  · have hll := hc15
    refine Go.st (S' := T13.setTop (mkF m 105 #[.val (.int pa), .val (.int pc), .val (.int ps), .val (.int pl), .val (.int po), .val (.int pm), .val (.ref b1), .val (.int st), .val (.int ln), .val (.int ot), .val (.int ol), .unset, .unset] [])) (fun _ kk => XS.icmpNo X13.here hx rfl (hb hby at_102) rfl (teq hc15).2 kk) ?_
    refine Go.st (S' := T13.setTop (mkF m 107 #[.val (.int pa), .val (.int pc), .val (.int ps), .val (.int pl), .val (.int po), .val (.int pm), .val (.ref b1), .val (.int st), .val (.int ln), .val (.int ot), .val (.int ol), .unset, .unset] [(.ref b1)])) (fun _ kk => XS.aload X13.here hx rfl (hb hby at_105) rfl rfl kk) ?_
    refine Go.st (S' := T13.setTop (mkF m 109 #[.val (.int pa), .val (.int pc), .val (.int ps), .val (.int pl), .val (.int po), .val (.int pm), .val (.ref b1), .val (.int st), .val (.int ln), .val (.int ot), .val (.int ol), .unset, .unset] [(.int st), (.ref b1)])) (fun _ kk => XS.iload X13.here hx rfl (hb hby at_107) rfl kk) ?_
    refine Go.st (S' := T13.setTop (mkF m 111 #[.val (.int pa), .val (.int pc), .val (.int ps), .val (.int pl), .val (.int po), .val (.int pm), .val (.ref b1), .val (.int st), .val (.int ln), .val (.int ot), .val (.int ol), .unset, .unset] [(.int ot), (.int st), (.ref b1)])) (fun _ kk => XS.iload X13.here hx rfl (hb hby at_109) rfl kk) ?_
    refine Go.st (S' := T13.setTop (mkF m 112 #[.val (.int pa), .val (.int pc), .val (.int ps), .val (.int pl), .val (.int po), .val (.int pm), .val (.ref b1), .val (.int st), .val (.int ln), .val (.int ot), .val (.int ol), .unset, .unset] [(.int (0 : Int32)), (.int ot), (.int st), (.ref b1)])) (fun _ kk => XS.iconst X13.here hx rfl (hb hby at_111) kk) ?_
    refine Go.st (S' := T13.setTop (mkF m 114 #[.val (.int pa), .val (.int pc), .val (.int ps), .val (.int pl), .val (.int po), .val (.int pm), .val (.ref b1), .val (.int st), .val (.int ln), .val (.int ot), .val (.int ol), .unset, .unset] [(.int ln), (.int (0 : Int32)), (.int ot), (.int st), (.ref b1)])) (fun _ kk => XS.iload X13.here hx rfl (hb hby at_112) rfl kk) ?_
    obtain ⟨_, _, ⟨T16, L16, k16, n16⟩, -, X16, ⟨Lc16, hQ16, l16, y16, z16⟩, st16⟩ := Jvm.LawKit.callS X13 hx (y := (⟨"com/example/grantbook/grantbook/licence/PlainXmlSameBytesPinLaw", "eqAt", "([BIIII)Z"⟩ : MethodName)) hown (mvT hZ (hw _ (List.mem_of_getElem? (i := 6) rfl))) (mvT hZ (hw _ (List.mem_of_getElem? (i := 7) rfl))) (mvT hZ (hw _ (List.mem_of_getElem? (i := 8) rfl))) (mvT hZ (hw _ (List.mem_of_getElem? (i := 9) rfl))) (by decide) (backOf (W := 0) (rmE l Z az hw [] b1 st ot (0 : Int32) ln k1 bs h13 n0 Zs14 V_bs (own_hr hst hln hot hol hll (by decide))) hZ (hw _ (List.mem_of_getElem? (i := 9) rfl)) (hw _ (List.mem_of_getElem? (i := 8) rfl)) (by decide) (by decide)) (g := (mkF m 114 #[.val (.int pa), .val (.int pc), .val (.int ps), .val (.int pl), .val (.int po), .val (.int pm), .val (.ref b1), .val (.int st), .val (.int ln), .val (.int ot), .val (.int ol), .unset, .unset] [(.int ln), (.int (0 : Int32)), (.int ot), (.int st), (.ref b1)])) rfl (by rw [hml]; rfl) (argsL := [(.ref b1), (.int st), (.int ot), (.int (0 : Int32)), (.int ln)]) (rest := []) (lenOf pd_0 rfl) rfl (by show 2 * 0 + _ ≤ _; exact Nat.le_of_eq rfl) (hb hby at_114) (fun _ _ => ⟨rfl, e13, (by decide : 1 + 0 ≤ _), (by decide : 6 + 0 ≤ _)⟩)
    dsimp only [Pt.U, Pt.locs, Pt.cells, Pt.slots] at X16 l16 y16 z16 st16 hQ16
    subst l16 y16 z16
    obtain ⟨hv16, N16q, e16⟩ := hQ16
    subst hv16
    have N16 := Fr.app N13 N16q
    refine Go.st (S' := T16.setTop (mkF m 117 #[.val (.int pa), .val (.int pc), .val (.int ps), .val (.int pl), .val (.int po), .val (.int pm), .val (.ref b1), .val (.int st), .val (.int ln), .val (.int ot), .val (.int ol), .unset, .unset] [(.int (fE bs st ot (0 : Int32) ln))])) st16 ?_
    by_cases hc17 : (fE bs st ot (0 : Int32) ln) = (0 : Int32)
    · refine Go.st (S' := T16.setTop (mkF m 199 #[.val (.int pa), .val (.int pc), .val (.int ps), .val (.int pl), .val (.int po), .val (.int pm), .val (.ref b1), .val (.int st), .val (.int ln), .val (.int ot), .val (.int ol), .unset, .unset] [])) (fun _ kk => XS.ifYes X16.here hx rfl (pc0 := 117) (pc' := 199) rfl (hb hby at_117) rfl ((if0 _ _).trans (teq hc17).1) (by decide) (by decide) kk) ?_
      refine Go.st (S' := T16.setTop (mkF m 200 #[.val (.int pa), .val (.int pc), .val (.int ps), .val (.int pl), .val (.int po), .val (.int pm), .val (.ref b1), .val (.int st), .val (.int ln), .val (.int ot), .val (.int ol), .unset, .unset] [(.int (0 : Int32))])) (fun _ kk => XS.iconst X16.here hx rfl (hb hby at_199) kk) ?_
      refine Go.st (S' := T16.setTop (mkF m 202 #[.val (.int pa), .val (.int pc), .val (.int ps), .val (.int pl), .val (.int po), .val (.int pm), .val (.ref b1), .val (.int st), .val (.int ln), .val (.int ot), .val (.int ol), .val (.int (0 : Int32)), .unset] [])) (fun _ kk => XS.istore X16.here hx rfl (hb hby at_200) rfl (l' := #[.val (.int pa), .val (.int pc), .val (.int ps), .val (.int pl), .val (.int po), .val (.int pm), .val (.ref b1), .val (.int st), .val (.int ln), .val (.int ot), .val (.int ol), .val (.int (0 : Int32)), .unset]) rfl kk) ?_
      refine Go.st (S' := T16.setTop (mkF m 204 #[.val (.int pa), .val (.int pc), .val (.int ps), .val (.int pl), .val (.int po), .val (.int pm), .val (.ref b1), .val (.int st), .val (.int ln), .val (.int ot), .val (.int ol), .val (.int (0 : Int32)), .unset] [(.ref b1)])) (fun _ kk => XS.aload X16.here hx rfl (hb hby at_202) rfl rfl kk) ?_
      refine Go.st (S' := T16.setTop (mkF m 206 #[.val (.int pa), .val (.int pc), .val (.int ps), .val (.int pl), .val (.int po), .val (.int pm), .val (.ref b1), .val (.int st), .val (.int ln), .val (.int ot), .val (.int ol), .val (.int (0 : Int32)), .unset] [(.int st), (.ref b1)])) (fun _ kk => XS.iload X16.here hx rfl (hb hby at_204) rfl kk) ?_
      refine Go.st (S' := T16.setTop (mkF m 208 #[.val (.int pa), .val (.int pc), .val (.int ps), .val (.int pl), .val (.int po), .val (.int pm), .val (.ref b1), .val (.int st), .val (.int ln), .val (.int ot), .val (.int ol), .val (.int (0 : Int32)), .unset] [(.int st), (.int st), (.ref b1)])) (fun _ kk => XS.iload X16.here hx rfl (hb hby at_206) rfl kk) ?_
      refine Go.st (S' := T16.setTop (mkF m 210 #[.val (.int pa), .val (.int pc), .val (.int ps), .val (.int pl), .val (.int po), .val (.int pm), .val (.ref b1), .val (.int st), .val (.int ln), .val (.int ot), .val (.int ol), .val (.int (0 : Int32)), .unset] [(.int ln), (.int st), (.int st), (.ref b1)])) (fun _ kk => XS.iload X16.here hx rfl (hb hby at_208) rfl kk) ?_
      refine Go.st (S' := T16.setTop (mkF m 211 #[.val (.int pa), .val (.int pc), .val (.int ps), .val (.int pl), .val (.int po), .val (.int pm), .val (.ref b1), .val (.int st), .val (.int ln), .val (.int ot), .val (.int ol), .val (.int (0 : Int32)), .unset] [(.int (st + ln)), (.int st), (.ref b1)])) (fun _ kk => XS.iadd X16.here hx rfl (hb hby at_210) rfl kk) ?_
      refine Go.st (S' := T16.setTop (mkF m 213 #[.val (.int pa), .val (.int pc), .val (.int ps), .val (.int pl), .val (.int po), .val (.int pm), .val (.ref b1), .val (.int st), .val (.int ln), .val (.int ot), .val (.int ol), .val (.int (0 : Int32)), .unset] [(.int ot), (.int (st + ln)), (.int st), (.ref b1)])) (fun _ kk => XS.iload X16.here hx rfl (hb hby at_211) rfl kk) ?_
      refine Go.st (S' := T16.setTop (mkF m 215 #[.val (.int pa), .val (.int pc), .val (.int ps), .val (.int pl), .val (.int po), .val (.int pm), .val (.ref b1), .val (.int st), .val (.int ln), .val (.int ot), .val (.int ol), .val (.int (0 : Int32)), .unset] [(.int ot), (.int ot), (.int (st + ln)), (.int st), (.ref b1)])) (fun _ kk => XS.iload X16.here hx rfl (hb hby at_213) rfl kk) ?_
      refine Go.st (S' := T16.setTop (mkF m 217 #[.val (.int pa), .val (.int pc), .val (.int ps), .val (.int pl), .val (.int po), .val (.int pm), .val (.ref b1), .val (.int st), .val (.int ln), .val (.int ot), .val (.int ol), .val (.int (0 : Int32)), .unset] [(.int ol), (.int ot), (.int ot), (.int (st + ln)), (.int st), (.ref b1)])) (fun _ kk => XS.iload X16.here hx rfl (hb hby at_215) rfl kk) ?_
      refine Go.st (S' := T16.setTop (mkF m 218 #[.val (.int pa), .val (.int pc), .val (.int ps), .val (.int pl), .val (.int po), .val (.int pm), .val (.ref b1), .val (.int st), .val (.int ln), .val (.int ot), .val (.int ol), .val (.int (0 : Int32)), .unset] [(.int (ot + ol)), (.int ot), (.int (st + ln)), (.int st), (.ref b1)])) (fun _ kk => XS.iadd X16.here hx rfl (hb hby at_217) rfl kk) ?_
      obtain ⟨_, _, ⟨T18, L18, k18, n18⟩, -, X18, ⟨Lc18, hQ18, l18, y18, z18⟩, st18⟩ := Jvm.LawKit.callS X16 hx (y := (⟨"com/example/grantbook/grantbook/licence/PlainXml", "sameBytes", "([BIIII)Z"⟩ : MethodName)) hown (mvT hZ (hw _ (List.mem_of_getElem? (i := 2) rfl))) (mvT hZ (hw _ (List.mem_of_getElem? (i := 3) rfl))) (mvT hZ (hw _ (List.mem_of_getElem? (i := 4) rfl))) (mvT hZ (hw _ (List.mem_of_getElem? (i := 5) rfl))) (by decide) (backOf (W := 0) (rmB l Z az hw [] b1 st (st + ln) ot (ot + ol) k1 bs h13 n0 Zs14 V_bs (by omega) (by omega) (by omega) (by omega) (by omega) (by omega)) hZ (hw _ (List.mem_of_getElem? (i := 5) rfl)) (hw _ (List.mem_of_getElem? (i := 4) rfl)) (by decide) (by decide)) (g := (mkF m 218 #[.val (.int pa), .val (.int pc), .val (.int ps), .val (.int pl), .val (.int po), .val (.int pm), .val (.ref b1), .val (.int st), .val (.int ln), .val (.int ot), .val (.int ol), .val (.int (0 : Int32)), .unset] [(.int (ot + ol)), (.int ot), (.int (st + ln)), (.int st), (.ref b1)])) rfl (by rw [hml]; rfl) (argsL := [(.ref b1), (.int st), (.int (st + ln)), (.int ot), (.int (ot + ol))]) (rest := []) (lenOf pd_0 rfl) rfl (by show 2 * 0 + _ ≤ _; exact Nat.le_of_eq rfl) (hb hby at_218) (fun _ _ => ⟨rfl, e16, (by decide : 1 + 0 ≤ _), (by decide : 6 + 0 ≤ _)⟩)
      dsimp only [Pt.U, Pt.locs, Pt.cells, Pt.slots] at X18 l18 y18 z18 st18 hQ18
      subst l18 y18 z18
      obtain ⟨r, rfl, N18q, e18, r1, r2⟩ := hQ18
      have N18 := Fr.app N16 N18q
      rw [show (st + ln).toInt - st.toInt = ln.toInt from by omega, show (ot + ol).toInt - ot.toInt = ol.toInt from by omega] at r2
      have hr0 : r = (0 : Int32) := r1.resolve_right (fun q => by
        exact own_f0 (k := (0 : Int32)) ⟨hst.1, by omega⟩ ⟨hot.1, by omega⟩ (by decide) hc17 (r2.mp q).2)
      subst hr0
      refine Go.st (S' := T18.setTop (mkF m 221 #[.val (.int pa), .val (.int pc), .val (.int ps), .val (.int pl), .val (.int po), .val (.int pm), .val (.ref b1), .val (.int st), .val (.int ln), .val (.int ot), .val (.int ol), .val (.int (0 : Int32)), .unset] [(.int (0 : Int32))])) st18 ?_
      refine Go.st (S' := T18.setTop (mkF m 223 #[.val (.int pa), .val (.int pc), .val (.int ps), .val (.int pl), .val (.int po), .val (.int pm), .val (.ref b1), .val (.int st), .val (.int ln), .val (.int ot), .val (.int ol), .val (.int (0 : Int32)), .val (.int (0 : Int32))] [])) (fun _ kk => XS.istore X18.here hx rfl (hb hby at_221) rfl (l' := #[.val (.int pa), .val (.int pc), .val (.int ps), .val (.int pl), .val (.int po), .val (.int pm), .val (.ref b1), .val (.int st), .val (.int ln), .val (.int ot), .val (.int ol), .val (.int (0 : Int32)), .val (.int (0 : Int32))]) rfl kk) ?_
      refine Go.st (S' := T18.setTop (mkF m 225 #[.val (.int pa), .val (.int pc), .val (.int ps), .val (.int pl), .val (.int po), .val (.int pm), .val (.ref b1), .val (.int st), .val (.int ln), .val (.int ot), .val (.int ol), .val (.int (0 : Int32)), .val (.int (0 : Int32))] [(.int (0 : Int32))])) (fun _ kk => XS.iload X18.here hx rfl (hb hby at_223) rfl kk) ?_
      refine Go.st (S' := T18.setTop (mkF m 227 #[.val (.int pa), .val (.int pc), .val (.int ps), .val (.int pl), .val (.int po), .val (.int pm), .val (.ref b1), .val (.int st), .val (.int ln), .val (.int ot), .val (.int ol), .val (.int (0 : Int32)), .val (.int (0 : Int32))] [(.int (0 : Int32)), (.int (0 : Int32))])) (fun _ kk => XS.iload X18.here hx rfl (hb hby at_225) rfl kk) ?_
      refine Go.st (S' := T18.setTop (mkF m 230 #[.val (.int pa), .val (.int pc), .val (.int ps), .val (.int pl), .val (.int po), .val (.int pm), .val (.ref b1), .val (.int st), .val (.int ln), .val (.int ot), .val (.int ol), .val (.int (0 : Int32)), .val (.int (0 : Int32))] [])) (fun _ kk => XS.icmpNo X18.here hx rfl (hb hby at_227) rfl (teq (by decide : (0 : Int32) = (0 : Int32))).2 kk) ?_
      refine Go.st (S' := T18.setTop (mkF m 231 #[.val (.int pa), .val (.int pc), .val (.int ps), .val (.int pl), .val (.int po), .val (.int pm), .val (.ref b1), .val (.int st), .val (.int ln), .val (.int ot), .val (.int ol), .val (.int (0 : Int32)), .val (.int (0 : Int32))] [(.int (1 : Int32))])) (fun _ kk => XS.iconst X18.here hx rfl (hb hby at_230) kk) ?_
      refine Go.st (S' := T18.setTop (mkF m 235 #[.val (.int pa), .val (.int pc), .val (.int ps), .val (.int pl), .val (.int po), .val (.int pm), .val (.ref b1), .val (.int st), .val (.int ln), .val (.int ot), .val (.int ol), .val (.int (0 : Int32)), .val (.int (0 : Int32))] [(.int (1 : Int32))])) (fun _ kk => XS.goto X18.here hx rfl (pc0 := 231) (pc' := 235) rfl (hb hby at_231) (by decide) (by decide) kk) ?_
      exact Go.retN X18 hx hlk (t := .boolean) Bd.returns (by simp) (hb hby at_235) (⟨rfl, N18⟩) (by decide) (by decide)
    · refine Go.st (S' := T16.setTop (mkF m 120 #[.val (.int pa), .val (.int pc), .val (.int ps), .val (.int pl), .val (.int po), .val (.int pm), .val (.ref b1), .val (.int st), .val (.int ln), .val (.int ot), .val (.int ol), .unset, .unset] [])) (fun _ kk => XS.ifNo X16.here hx rfl (hb hby at_117) rfl ((if0 _ _).trans (feq hc17).1) kk) ?_
      refine Go.st (S' := T16.setTop (mkF m 122 #[.val (.int pa), .val (.int pc), .val (.int ps), .val (.int pl), .val (.int po), .val (.int pm), .val (.ref b1), .val (.int st), .val (.int ln), .val (.int ot), .val (.int ol), .unset, .unset] [(.ref b1)])) (fun _ kk => XS.aload X16.here hx rfl (hb hby at_120) rfl rfl kk) ?_
      refine Go.st (S' := T16.setTop (mkF m 124 #[.val (.int pa), .val (.int pc), .val (.int ps), .val (.int pl), .val (.int po), .val (.int pm), .val (.ref b1), .val (.int st), .val (.int ln), .val (.int ot), .val (.int ol), .unset, .unset] [(.int st), (.ref b1)])) (fun _ kk => XS.iload X16.here hx rfl (hb hby at_122) rfl kk) ?_
      refine Go.st (S' := T16.setTop (mkF m 126 #[.val (.int pa), .val (.int pc), .val (.int ps), .val (.int pl), .val (.int po), .val (.int pm), .val (.ref b1), .val (.int st), .val (.int ln), .val (.int ot), .val (.int ol), .unset, .unset] [(.int ot), (.int st), (.ref b1)])) (fun _ kk => XS.iload X16.here hx rfl (hb hby at_124) rfl kk) ?_
      refine Go.st (S' := T16.setTop (mkF m 127 #[.val (.int pa), .val (.int pc), .val (.int ps), .val (.int pl), .val (.int po), .val (.int pm), .val (.ref b1), .val (.int st), .val (.int ln), .val (.int ot), .val (.int ol), .unset, .unset] [(.int (1 : Int32)), (.int ot), (.int st), (.ref b1)])) (fun _ kk => XS.iconst X16.here hx rfl (hb hby at_126) kk) ?_
      refine Go.st (S' := T16.setTop (mkF m 129 #[.val (.int pa), .val (.int pc), .val (.int ps), .val (.int pl), .val (.int po), .val (.int pm), .val (.ref b1), .val (.int st), .val (.int ln), .val (.int ot), .val (.int ol), .unset, .unset] [(.int ln), (.int (1 : Int32)), (.int ot), (.int st), (.ref b1)])) (fun _ kk => XS.iload X16.here hx rfl (hb hby at_127) rfl kk) ?_
      obtain ⟨_, _, ⟨T19, L19, k19, n19⟩, -, X19, ⟨Lc19, hQ19, l19, y19, z19⟩, st19⟩ := Jvm.LawKit.callS X16 hx (y := (⟨"com/example/grantbook/grantbook/licence/PlainXmlSameBytesPinLaw", "eqAt", "([BIIII)Z"⟩ : MethodName)) hown (mvT hZ (hw _ (List.mem_of_getElem? (i := 6) rfl))) (mvT hZ (hw _ (List.mem_of_getElem? (i := 7) rfl))) (mvT hZ (hw _ (List.mem_of_getElem? (i := 8) rfl))) (mvT hZ (hw _ (List.mem_of_getElem? (i := 9) rfl))) (by decide) (backOf (W := 0) (rmE l Z az hw [] b1 st ot (1 : Int32) ln k1 bs h13 n0 Zs14 V_bs (own_hr hst hln hot hol hll (by decide))) hZ (hw _ (List.mem_of_getElem? (i := 9) rfl)) (hw _ (List.mem_of_getElem? (i := 8) rfl)) (by decide) (by decide)) (g := (mkF m 129 #[.val (.int pa), .val (.int pc), .val (.int ps), .val (.int pl), .val (.int po), .val (.int pm), .val (.ref b1), .val (.int st), .val (.int ln), .val (.int ot), .val (.int ol), .unset, .unset] [(.int ln), (.int (1 : Int32)), (.int ot), (.int st), (.ref b1)])) rfl (by rw [hml]; rfl) (argsL := [(.ref b1), (.int st), (.int ot), (.int (1 : Int32)), (.int ln)]) (rest := []) (lenOf pd_0 rfl) rfl (by show 2 * 0 + _ ≤ _; exact Nat.le_of_eq rfl) (hb hby at_129) (fun _ _ => ⟨rfl, e16, (by decide : 1 + 0 ≤ _), (by decide : 6 + 0 ≤ _)⟩)
      dsimp only [Pt.U, Pt.locs, Pt.cells, Pt.slots] at X19 l19 y19 z19 st19 hQ19
      subst l19 y19 z19
      obtain ⟨hv19, N19q, e19⟩ := hQ19
      subst hv19
      have N19 := Fr.app N16 N19q
      refine Go.st (S' := T19.setTop (mkF m 132 #[.val (.int pa), .val (.int pc), .val (.int ps), .val (.int pl), .val (.int po), .val (.int pm), .val (.ref b1), .val (.int st), .val (.int ln), .val (.int ot), .val (.int ol), .unset, .unset] [(.int (fE bs st ot (1 : Int32) ln))])) st19 ?_
      by_cases hc20 : (fE bs st ot (1 : Int32) ln) = (0 : Int32)
      · refine Go.st (S' := T19.setTop (mkF m 199 #[.val (.int pa), .val (.int pc), .val (.int ps), .val (.int pl), .val (.int po), .val (.int pm), .val (.ref b1), .val (.int st), .val (.int ln), .val (.int ot), .val (.int ol), .unset, .unset] [])) (fun _ kk => XS.ifYes X19.here hx rfl (pc0 := 132) (pc' := 199) rfl (hb hby at_132) rfl ((if0 _ _).trans (teq hc20).1) (by decide) (by decide) kk) ?_
        refine Go.st (S' := T19.setTop (mkF m 200 #[.val (.int pa), .val (.int pc), .val (.int ps), .val (.int pl), .val (.int po), .val (.int pm), .val (.ref b1), .val (.int st), .val (.int ln), .val (.int ot), .val (.int ol), .unset, .unset] [(.int (0 : Int32))])) (fun _ kk => XS.iconst X19.here hx rfl (hb hby at_199) kk) ?_
        refine Go.st (S' := T19.setTop (mkF m 202 #[.val (.int pa), .val (.int pc), .val (.int ps), .val (.int pl), .val (.int po), .val (.int pm), .val (.ref b1), .val (.int st), .val (.int ln), .val (.int ot), .val (.int ol), .val (.int (0 : Int32)), .unset] [])) (fun _ kk => XS.istore X19.here hx rfl (hb hby at_200) rfl (l' := #[.val (.int pa), .val (.int pc), .val (.int ps), .val (.int pl), .val (.int po), .val (.int pm), .val (.ref b1), .val (.int st), .val (.int ln), .val (.int ot), .val (.int ol), .val (.int (0 : Int32)), .unset]) rfl kk) ?_
        refine Go.st (S' := T19.setTop (mkF m 204 #[.val (.int pa), .val (.int pc), .val (.int ps), .val (.int pl), .val (.int po), .val (.int pm), .val (.ref b1), .val (.int st), .val (.int ln), .val (.int ot), .val (.int ol), .val (.int (0 : Int32)), .unset] [(.ref b1)])) (fun _ kk => XS.aload X19.here hx rfl (hb hby at_202) rfl rfl kk) ?_
        refine Go.st (S' := T19.setTop (mkF m 206 #[.val (.int pa), .val (.int pc), .val (.int ps), .val (.int pl), .val (.int po), .val (.int pm), .val (.ref b1), .val (.int st), .val (.int ln), .val (.int ot), .val (.int ol), .val (.int (0 : Int32)), .unset] [(.int st), (.ref b1)])) (fun _ kk => XS.iload X19.here hx rfl (hb hby at_204) rfl kk) ?_
        refine Go.st (S' := T19.setTop (mkF m 208 #[.val (.int pa), .val (.int pc), .val (.int ps), .val (.int pl), .val (.int po), .val (.int pm), .val (.ref b1), .val (.int st), .val (.int ln), .val (.int ot), .val (.int ol), .val (.int (0 : Int32)), .unset] [(.int st), (.int st), (.ref b1)])) (fun _ kk => XS.iload X19.here hx rfl (hb hby at_206) rfl kk) ?_
        refine Go.st (S' := T19.setTop (mkF m 210 #[.val (.int pa), .val (.int pc), .val (.int ps), .val (.int pl), .val (.int po), .val (.int pm), .val (.ref b1), .val (.int st), .val (.int ln), .val (.int ot), .val (.int ol), .val (.int (0 : Int32)), .unset] [(.int ln), (.int st), (.int st), (.ref b1)])) (fun _ kk => XS.iload X19.here hx rfl (hb hby at_208) rfl kk) ?_
        refine Go.st (S' := T19.setTop (mkF m 211 #[.val (.int pa), .val (.int pc), .val (.int ps), .val (.int pl), .val (.int po), .val (.int pm), .val (.ref b1), .val (.int st), .val (.int ln), .val (.int ot), .val (.int ol), .val (.int (0 : Int32)), .unset] [(.int (st + ln)), (.int st), (.ref b1)])) (fun _ kk => XS.iadd X19.here hx rfl (hb hby at_210) rfl kk) ?_
        refine Go.st (S' := T19.setTop (mkF m 213 #[.val (.int pa), .val (.int pc), .val (.int ps), .val (.int pl), .val (.int po), .val (.int pm), .val (.ref b1), .val (.int st), .val (.int ln), .val (.int ot), .val (.int ol), .val (.int (0 : Int32)), .unset] [(.int ot), (.int (st + ln)), (.int st), (.ref b1)])) (fun _ kk => XS.iload X19.here hx rfl (hb hby at_211) rfl kk) ?_
        refine Go.st (S' := T19.setTop (mkF m 215 #[.val (.int pa), .val (.int pc), .val (.int ps), .val (.int pl), .val (.int po), .val (.int pm), .val (.ref b1), .val (.int st), .val (.int ln), .val (.int ot), .val (.int ol), .val (.int (0 : Int32)), .unset] [(.int ot), (.int ot), (.int (st + ln)), (.int st), (.ref b1)])) (fun _ kk => XS.iload X19.here hx rfl (hb hby at_213) rfl kk) ?_
        refine Go.st (S' := T19.setTop (mkF m 217 #[.val (.int pa), .val (.int pc), .val (.int ps), .val (.int pl), .val (.int po), .val (.int pm), .val (.ref b1), .val (.int st), .val (.int ln), .val (.int ot), .val (.int ol), .val (.int (0 : Int32)), .unset] [(.int ol), (.int ot), (.int ot), (.int (st + ln)), (.int st), (.ref b1)])) (fun _ kk => XS.iload X19.here hx rfl (hb hby at_215) rfl kk) ?_
        refine Go.st (S' := T19.setTop (mkF m 218 #[.val (.int pa), .val (.int pc), .val (.int ps), .val (.int pl), .val (.int po), .val (.int pm), .val (.ref b1), .val (.int st), .val (.int ln), .val (.int ot), .val (.int ol), .val (.int (0 : Int32)), .unset] [(.int (ot + ol)), (.int ot), (.int (st + ln)), (.int st), (.ref b1)])) (fun _ kk => XS.iadd X19.here hx rfl (hb hby at_217) rfl kk) ?_
        obtain ⟨_, _, ⟨T21, L21, k21, n21⟩, -, X21, ⟨Lc21, hQ21, l21, y21, z21⟩, st21⟩ := Jvm.LawKit.callS X19 hx (y := (⟨"com/example/grantbook/grantbook/licence/PlainXml", "sameBytes", "([BIIII)Z"⟩ : MethodName)) hown (mvT hZ (hw _ (List.mem_of_getElem? (i := 2) rfl))) (mvT hZ (hw _ (List.mem_of_getElem? (i := 3) rfl))) (mvT hZ (hw _ (List.mem_of_getElem? (i := 4) rfl))) (mvT hZ (hw _ (List.mem_of_getElem? (i := 5) rfl))) (by decide) (backOf (W := 0) (rmB l Z az hw [] b1 st (st + ln) ot (ot + ol) k1 bs h13 n0 Zs14 V_bs (by omega) (by omega) (by omega) (by omega) (by omega) (by omega)) hZ (hw _ (List.mem_of_getElem? (i := 5) rfl)) (hw _ (List.mem_of_getElem? (i := 4) rfl)) (by decide) (by decide)) (g := (mkF m 218 #[.val (.int pa), .val (.int pc), .val (.int ps), .val (.int pl), .val (.int po), .val (.int pm), .val (.ref b1), .val (.int st), .val (.int ln), .val (.int ot), .val (.int ol), .val (.int (0 : Int32)), .unset] [(.int (ot + ol)), (.int ot), (.int (st + ln)), (.int st), (.ref b1)])) rfl (by rw [hml]; rfl) (argsL := [(.ref b1), (.int st), (.int (st + ln)), (.int ot), (.int (ot + ol))]) (rest := []) (lenOf pd_0 rfl) rfl (by show 2 * 0 + _ ≤ _; exact Nat.le_of_eq rfl) (hb hby at_218) (fun _ _ => ⟨rfl, e19, (by decide : 1 + 0 ≤ _), (by decide : 6 + 0 ≤ _)⟩)
        dsimp only [Pt.U, Pt.locs, Pt.cells, Pt.slots] at X21 l21 y21 z21 st21 hQ21
        subst l21 y21 z21
        obtain ⟨r, rfl, N21q, e21, r1, r2⟩ := hQ21
        have N21 := Fr.app N19 N21q
        rw [show (st + ln).toInt - st.toInt = ln.toInt from by omega, show (ot + ol).toInt - ot.toInt = ol.toInt from by omega] at r2
        have hr0 : r = (0 : Int32) := r1.resolve_right (fun q => by
          exact own_f0 (k := (1 : Int32)) ⟨hst.1, by omega⟩ ⟨hot.1, by omega⟩ (by decide) hc20 (r2.mp q).2)
        subst hr0
        refine Go.st (S' := T21.setTop (mkF m 221 #[.val (.int pa), .val (.int pc), .val (.int ps), .val (.int pl), .val (.int po), .val (.int pm), .val (.ref b1), .val (.int st), .val (.int ln), .val (.int ot), .val (.int ol), .val (.int (0 : Int32)), .unset] [(.int (0 : Int32))])) st21 ?_
        refine Go.st (S' := T21.setTop (mkF m 223 #[.val (.int pa), .val (.int pc), .val (.int ps), .val (.int pl), .val (.int po), .val (.int pm), .val (.ref b1), .val (.int st), .val (.int ln), .val (.int ot), .val (.int ol), .val (.int (0 : Int32)), .val (.int (0 : Int32))] [])) (fun _ kk => XS.istore X21.here hx rfl (hb hby at_221) rfl (l' := #[.val (.int pa), .val (.int pc), .val (.int ps), .val (.int pl), .val (.int po), .val (.int pm), .val (.ref b1), .val (.int st), .val (.int ln), .val (.int ot), .val (.int ol), .val (.int (0 : Int32)), .val (.int (0 : Int32))]) rfl kk) ?_
        refine Go.st (S' := T21.setTop (mkF m 225 #[.val (.int pa), .val (.int pc), .val (.int ps), .val (.int pl), .val (.int po), .val (.int pm), .val (.ref b1), .val (.int st), .val (.int ln), .val (.int ot), .val (.int ol), .val (.int (0 : Int32)), .val (.int (0 : Int32))] [(.int (0 : Int32))])) (fun _ kk => XS.iload X21.here hx rfl (hb hby at_223) rfl kk) ?_
        refine Go.st (S' := T21.setTop (mkF m 227 #[.val (.int pa), .val (.int pc), .val (.int ps), .val (.int pl), .val (.int po), .val (.int pm), .val (.ref b1), .val (.int st), .val (.int ln), .val (.int ot), .val (.int ol), .val (.int (0 : Int32)), .val (.int (0 : Int32))] [(.int (0 : Int32)), (.int (0 : Int32))])) (fun _ kk => XS.iload X21.here hx rfl (hb hby at_225) rfl kk) ?_
        refine Go.st (S' := T21.setTop (mkF m 230 #[.val (.int pa), .val (.int pc), .val (.int ps), .val (.int pl), .val (.int po), .val (.int pm), .val (.ref b1), .val (.int st), .val (.int ln), .val (.int ot), .val (.int ol), .val (.int (0 : Int32)), .val (.int (0 : Int32))] [])) (fun _ kk => XS.icmpNo X21.here hx rfl (hb hby at_227) rfl (teq (by decide : (0 : Int32) = (0 : Int32))).2 kk) ?_
        refine Go.st (S' := T21.setTop (mkF m 231 #[.val (.int pa), .val (.int pc), .val (.int ps), .val (.int pl), .val (.int po), .val (.int pm), .val (.ref b1), .val (.int st), .val (.int ln), .val (.int ot), .val (.int ol), .val (.int (0 : Int32)), .val (.int (0 : Int32))] [(.int (1 : Int32))])) (fun _ kk => XS.iconst X21.here hx rfl (hb hby at_230) kk) ?_
        refine Go.st (S' := T21.setTop (mkF m 235 #[.val (.int pa), .val (.int pc), .val (.int ps), .val (.int pl), .val (.int po), .val (.int pm), .val (.ref b1), .val (.int st), .val (.int ln), .val (.int ot), .val (.int ol), .val (.int (0 : Int32)), .val (.int (0 : Int32))] [(.int (1 : Int32))])) (fun _ kk => XS.goto X21.here hx rfl (pc0 := 231) (pc' := 235) rfl (hb hby at_231) (by decide) (by decide) kk) ?_
        exact Go.retN X21 hx hlk (t := .boolean) Bd.returns (by simp) (hb hby at_235) (⟨rfl, N21⟩) (by decide) (by decide)
      · refine Go.st (S' := T19.setTop (mkF m 135 #[.val (.int pa), .val (.int pc), .val (.int ps), .val (.int pl), .val (.int po), .val (.int pm), .val (.ref b1), .val (.int st), .val (.int ln), .val (.int ot), .val (.int ol), .unset, .unset] [])) (fun _ kk => XS.ifNo X19.here hx rfl (hb hby at_132) rfl ((if0 _ _).trans (feq hc20).1) kk) ?_
        refine Go.st (S' := T19.setTop (mkF m 137 #[.val (.int pa), .val (.int pc), .val (.int ps), .val (.int pl), .val (.int po), .val (.int pm), .val (.ref b1), .val (.int st), .val (.int ln), .val (.int ot), .val (.int ol), .unset, .unset] [(.ref b1)])) (fun _ kk => XS.aload X19.here hx rfl (hb hby at_135) rfl rfl kk) ?_
        refine Go.st (S' := T19.setTop (mkF m 139 #[.val (.int pa), .val (.int pc), .val (.int ps), .val (.int pl), .val (.int po), .val (.int pm), .val (.ref b1), .val (.int st), .val (.int ln), .val (.int ot), .val (.int ol), .unset, .unset] [(.int st), (.ref b1)])) (fun _ kk => XS.iload X19.here hx rfl (hb hby at_137) rfl kk) ?_
        refine Go.st (S' := T19.setTop (mkF m 141 #[.val (.int pa), .val (.int pc), .val (.int ps), .val (.int pl), .val (.int po), .val (.int pm), .val (.ref b1), .val (.int st), .val (.int ln), .val (.int ot), .val (.int ol), .unset, .unset] [(.int ot), (.int st), (.ref b1)])) (fun _ kk => XS.iload X19.here hx rfl (hb hby at_139) rfl kk) ?_
        refine Go.st (S' := T19.setTop (mkF m 142 #[.val (.int pa), .val (.int pc), .val (.int ps), .val (.int pl), .val (.int po), .val (.int pm), .val (.ref b1), .val (.int st), .val (.int ln), .val (.int ot), .val (.int ol), .unset, .unset] [(.int (2 : Int32)), (.int ot), (.int st), (.ref b1)])) (fun _ kk => XS.iconst X19.here hx rfl (hb hby at_141) kk) ?_
        refine Go.st (S' := T19.setTop (mkF m 144 #[.val (.int pa), .val (.int pc), .val (.int ps), .val (.int pl), .val (.int po), .val (.int pm), .val (.ref b1), .val (.int st), .val (.int ln), .val (.int ot), .val (.int ol), .unset, .unset] [(.int ln), (.int (2 : Int32)), (.int ot), (.int st), (.ref b1)])) (fun _ kk => XS.iload X19.here hx rfl (hb hby at_142) rfl kk) ?_
        obtain ⟨_, _, ⟨T22, L22, k22, n22⟩, -, X22, ⟨Lc22, hQ22, l22, y22, z22⟩, st22⟩ := Jvm.LawKit.callS X19 hx (y := (⟨"com/example/grantbook/grantbook/licence/PlainXmlSameBytesPinLaw", "eqAt", "([BIIII)Z"⟩ : MethodName)) hown (mvT hZ (hw _ (List.mem_of_getElem? (i := 6) rfl))) (mvT hZ (hw _ (List.mem_of_getElem? (i := 7) rfl))) (mvT hZ (hw _ (List.mem_of_getElem? (i := 8) rfl))) (mvT hZ (hw _ (List.mem_of_getElem? (i := 9) rfl))) (by decide) (backOf (W := 0) (rmE l Z az hw [] b1 st ot (2 : Int32) ln k1 bs h13 n0 Zs14 V_bs (own_hr hst hln hot hol hll (by decide))) hZ (hw _ (List.mem_of_getElem? (i := 9) rfl)) (hw _ (List.mem_of_getElem? (i := 8) rfl)) (by decide) (by decide)) (g := (mkF m 144 #[.val (.int pa), .val (.int pc), .val (.int ps), .val (.int pl), .val (.int po), .val (.int pm), .val (.ref b1), .val (.int st), .val (.int ln), .val (.int ot), .val (.int ol), .unset, .unset] [(.int ln), (.int (2 : Int32)), (.int ot), (.int st), (.ref b1)])) rfl (by rw [hml]; rfl) (argsL := [(.ref b1), (.int st), (.int ot), (.int (2 : Int32)), (.int ln)]) (rest := []) (lenOf pd_0 rfl) rfl (by show 2 * 0 + _ ≤ _; exact Nat.le_of_eq rfl) (hb hby at_144) (fun _ _ => ⟨rfl, e19, (by decide : 1 + 0 ≤ _), (by decide : 6 + 0 ≤ _)⟩)
        dsimp only [Pt.U, Pt.locs, Pt.cells, Pt.slots] at X22 l22 y22 z22 st22 hQ22
        subst l22 y22 z22
        obtain ⟨hv22, N22q, e22⟩ := hQ22
        subst hv22
        have N22 := Fr.app N19 N22q
        refine Go.st (S' := T22.setTop (mkF m 147 #[.val (.int pa), .val (.int pc), .val (.int ps), .val (.int pl), .val (.int po), .val (.int pm), .val (.ref b1), .val (.int st), .val (.int ln), .val (.int ot), .val (.int ol), .unset, .unset] [(.int (fE bs st ot (2 : Int32) ln))])) st22 ?_
        by_cases hc23 : (fE bs st ot (2 : Int32) ln) = (0 : Int32)
        · refine Go.st (S' := T22.setTop (mkF m 199 #[.val (.int pa), .val (.int pc), .val (.int ps), .val (.int pl), .val (.int po), .val (.int pm), .val (.ref b1), .val (.int st), .val (.int ln), .val (.int ot), .val (.int ol), .unset, .unset] [])) (fun _ kk => XS.ifYes X22.here hx rfl (pc0 := 147) (pc' := 199) rfl (hb hby at_147) rfl ((if0 _ _).trans (teq hc23).1) (by decide) (by decide) kk) ?_
          refine Go.st (S' := T22.setTop (mkF m 200 #[.val (.int pa), .val (.int pc), .val (.int ps), .val (.int pl), .val (.int po), .val (.int pm), .val (.ref b1), .val (.int st), .val (.int ln), .val (.int ot), .val (.int ol), .unset, .unset] [(.int (0 : Int32))])) (fun _ kk => XS.iconst X22.here hx rfl (hb hby at_199) kk) ?_
          refine Go.st (S' := T22.setTop (mkF m 202 #[.val (.int pa), .val (.int pc), .val (.int ps), .val (.int pl), .val (.int po), .val (.int pm), .val (.ref b1), .val (.int st), .val (.int ln), .val (.int ot), .val (.int ol), .val (.int (0 : Int32)), .unset] [])) (fun _ kk => XS.istore X22.here hx rfl (hb hby at_200) rfl (l' := #[.val (.int pa), .val (.int pc), .val (.int ps), .val (.int pl), .val (.int po), .val (.int pm), .val (.ref b1), .val (.int st), .val (.int ln), .val (.int ot), .val (.int ol), .val (.int (0 : Int32)), .unset]) rfl kk) ?_
          refine Go.st (S' := T22.setTop (mkF m 204 #[.val (.int pa), .val (.int pc), .val (.int ps), .val (.int pl), .val (.int po), .val (.int pm), .val (.ref b1), .val (.int st), .val (.int ln), .val (.int ot), .val (.int ol), .val (.int (0 : Int32)), .unset] [(.ref b1)])) (fun _ kk => XS.aload X22.here hx rfl (hb hby at_202) rfl rfl kk) ?_
          refine Go.st (S' := T22.setTop (mkF m 206 #[.val (.int pa), .val (.int pc), .val (.int ps), .val (.int pl), .val (.int po), .val (.int pm), .val (.ref b1), .val (.int st), .val (.int ln), .val (.int ot), .val (.int ol), .val (.int (0 : Int32)), .unset] [(.int st), (.ref b1)])) (fun _ kk => XS.iload X22.here hx rfl (hb hby at_204) rfl kk) ?_
          refine Go.st (S' := T22.setTop (mkF m 208 #[.val (.int pa), .val (.int pc), .val (.int ps), .val (.int pl), .val (.int po), .val (.int pm), .val (.ref b1), .val (.int st), .val (.int ln), .val (.int ot), .val (.int ol), .val (.int (0 : Int32)), .unset] [(.int st), (.int st), (.ref b1)])) (fun _ kk => XS.iload X22.here hx rfl (hb hby at_206) rfl kk) ?_
          refine Go.st (S' := T22.setTop (mkF m 210 #[.val (.int pa), .val (.int pc), .val (.int ps), .val (.int pl), .val (.int po), .val (.int pm), .val (.ref b1), .val (.int st), .val (.int ln), .val (.int ot), .val (.int ol), .val (.int (0 : Int32)), .unset] [(.int ln), (.int st), (.int st), (.ref b1)])) (fun _ kk => XS.iload X22.here hx rfl (hb hby at_208) rfl kk) ?_
          refine Go.st (S' := T22.setTop (mkF m 211 #[.val (.int pa), .val (.int pc), .val (.int ps), .val (.int pl), .val (.int po), .val (.int pm), .val (.ref b1), .val (.int st), .val (.int ln), .val (.int ot), .val (.int ol), .val (.int (0 : Int32)), .unset] [(.int (st + ln)), (.int st), (.ref b1)])) (fun _ kk => XS.iadd X22.here hx rfl (hb hby at_210) rfl kk) ?_
          refine Go.st (S' := T22.setTop (mkF m 213 #[.val (.int pa), .val (.int pc), .val (.int ps), .val (.int pl), .val (.int po), .val (.int pm), .val (.ref b1), .val (.int st), .val (.int ln), .val (.int ot), .val (.int ol), .val (.int (0 : Int32)), .unset] [(.int ot), (.int (st + ln)), (.int st), (.ref b1)])) (fun _ kk => XS.iload X22.here hx rfl (hb hby at_211) rfl kk) ?_
          refine Go.st (S' := T22.setTop (mkF m 215 #[.val (.int pa), .val (.int pc), .val (.int ps), .val (.int pl), .val (.int po), .val (.int pm), .val (.ref b1), .val (.int st), .val (.int ln), .val (.int ot), .val (.int ol), .val (.int (0 : Int32)), .unset] [(.int ot), (.int ot), (.int (st + ln)), (.int st), (.ref b1)])) (fun _ kk => XS.iload X22.here hx rfl (hb hby at_213) rfl kk) ?_
          refine Go.st (S' := T22.setTop (mkF m 217 #[.val (.int pa), .val (.int pc), .val (.int ps), .val (.int pl), .val (.int po), .val (.int pm), .val (.ref b1), .val (.int st), .val (.int ln), .val (.int ot), .val (.int ol), .val (.int (0 : Int32)), .unset] [(.int ol), (.int ot), (.int ot), (.int (st + ln)), (.int st), (.ref b1)])) (fun _ kk => XS.iload X22.here hx rfl (hb hby at_215) rfl kk) ?_
          refine Go.st (S' := T22.setTop (mkF m 218 #[.val (.int pa), .val (.int pc), .val (.int ps), .val (.int pl), .val (.int po), .val (.int pm), .val (.ref b1), .val (.int st), .val (.int ln), .val (.int ot), .val (.int ol), .val (.int (0 : Int32)), .unset] [(.int (ot + ol)), (.int ot), (.int (st + ln)), (.int st), (.ref b1)])) (fun _ kk => XS.iadd X22.here hx rfl (hb hby at_217) rfl kk) ?_
          obtain ⟨_, _, ⟨T24, L24, k24, n24⟩, -, X24, ⟨Lc24, hQ24, l24, y24, z24⟩, st24⟩ := Jvm.LawKit.callS X22 hx (y := (⟨"com/example/grantbook/grantbook/licence/PlainXml", "sameBytes", "([BIIII)Z"⟩ : MethodName)) hown (mvT hZ (hw _ (List.mem_of_getElem? (i := 2) rfl))) (mvT hZ (hw _ (List.mem_of_getElem? (i := 3) rfl))) (mvT hZ (hw _ (List.mem_of_getElem? (i := 4) rfl))) (mvT hZ (hw _ (List.mem_of_getElem? (i := 5) rfl))) (by decide) (backOf (W := 0) (rmB l Z az hw [] b1 st (st + ln) ot (ot + ol) k1 bs h13 n0 Zs14 V_bs (by omega) (by omega) (by omega) (by omega) (by omega) (by omega)) hZ (hw _ (List.mem_of_getElem? (i := 5) rfl)) (hw _ (List.mem_of_getElem? (i := 4) rfl)) (by decide) (by decide)) (g := (mkF m 218 #[.val (.int pa), .val (.int pc), .val (.int ps), .val (.int pl), .val (.int po), .val (.int pm), .val (.ref b1), .val (.int st), .val (.int ln), .val (.int ot), .val (.int ol), .val (.int (0 : Int32)), .unset] [(.int (ot + ol)), (.int ot), (.int (st + ln)), (.int st), (.ref b1)])) rfl (by rw [hml]; rfl) (argsL := [(.ref b1), (.int st), (.int (st + ln)), (.int ot), (.int (ot + ol))]) (rest := []) (lenOf pd_0 rfl) rfl (by show 2 * 0 + _ ≤ _; exact Nat.le_of_eq rfl) (hb hby at_218) (fun _ _ => ⟨rfl, e22, (by decide : 1 + 0 ≤ _), (by decide : 6 + 0 ≤ _)⟩)
          dsimp only [Pt.U, Pt.locs, Pt.cells, Pt.slots] at X24 l24 y24 z24 st24 hQ24
          subst l24 y24 z24
          obtain ⟨r, rfl, N24q, e24, r1, r2⟩ := hQ24
          have N24 := Fr.app N22 N24q
          rw [show (st + ln).toInt - st.toInt = ln.toInt from by omega, show (ot + ol).toInt - ot.toInt = ol.toInt from by omega] at r2
          have hr0 : r = (0 : Int32) := r1.resolve_right (fun q => by
            exact own_f0 (k := (2 : Int32)) ⟨hst.1, by omega⟩ ⟨hot.1, by omega⟩ (by decide) hc23 (r2.mp q).2)
          subst hr0
          refine Go.st (S' := T24.setTop (mkF m 221 #[.val (.int pa), .val (.int pc), .val (.int ps), .val (.int pl), .val (.int po), .val (.int pm), .val (.ref b1), .val (.int st), .val (.int ln), .val (.int ot), .val (.int ol), .val (.int (0 : Int32)), .unset] [(.int (0 : Int32))])) st24 ?_
          refine Go.st (S' := T24.setTop (mkF m 223 #[.val (.int pa), .val (.int pc), .val (.int ps), .val (.int pl), .val (.int po), .val (.int pm), .val (.ref b1), .val (.int st), .val (.int ln), .val (.int ot), .val (.int ol), .val (.int (0 : Int32)), .val (.int (0 : Int32))] [])) (fun _ kk => XS.istore X24.here hx rfl (hb hby at_221) rfl (l' := #[.val (.int pa), .val (.int pc), .val (.int ps), .val (.int pl), .val (.int po), .val (.int pm), .val (.ref b1), .val (.int st), .val (.int ln), .val (.int ot), .val (.int ol), .val (.int (0 : Int32)), .val (.int (0 : Int32))]) rfl kk) ?_
          refine Go.st (S' := T24.setTop (mkF m 225 #[.val (.int pa), .val (.int pc), .val (.int ps), .val (.int pl), .val (.int po), .val (.int pm), .val (.ref b1), .val (.int st), .val (.int ln), .val (.int ot), .val (.int ol), .val (.int (0 : Int32)), .val (.int (0 : Int32))] [(.int (0 : Int32))])) (fun _ kk => XS.iload X24.here hx rfl (hb hby at_223) rfl kk) ?_
          refine Go.st (S' := T24.setTop (mkF m 227 #[.val (.int pa), .val (.int pc), .val (.int ps), .val (.int pl), .val (.int po), .val (.int pm), .val (.ref b1), .val (.int st), .val (.int ln), .val (.int ot), .val (.int ol), .val (.int (0 : Int32)), .val (.int (0 : Int32))] [(.int (0 : Int32)), (.int (0 : Int32))])) (fun _ kk => XS.iload X24.here hx rfl (hb hby at_225) rfl kk) ?_
          refine Go.st (S' := T24.setTop (mkF m 230 #[.val (.int pa), .val (.int pc), .val (.int ps), .val (.int pl), .val (.int po), .val (.int pm), .val (.ref b1), .val (.int st), .val (.int ln), .val (.int ot), .val (.int ol), .val (.int (0 : Int32)), .val (.int (0 : Int32))] [])) (fun _ kk => XS.icmpNo X24.here hx rfl (hb hby at_227) rfl (teq (by decide : (0 : Int32) = (0 : Int32))).2 kk) ?_
          refine Go.st (S' := T24.setTop (mkF m 231 #[.val (.int pa), .val (.int pc), .val (.int ps), .val (.int pl), .val (.int po), .val (.int pm), .val (.ref b1), .val (.int st), .val (.int ln), .val (.int ot), .val (.int ol), .val (.int (0 : Int32)), .val (.int (0 : Int32))] [(.int (1 : Int32))])) (fun _ kk => XS.iconst X24.here hx rfl (hb hby at_230) kk) ?_
          refine Go.st (S' := T24.setTop (mkF m 235 #[.val (.int pa), .val (.int pc), .val (.int ps), .val (.int pl), .val (.int po), .val (.int pm), .val (.ref b1), .val (.int st), .val (.int ln), .val (.int ot), .val (.int ol), .val (.int (0 : Int32)), .val (.int (0 : Int32))] [(.int (1 : Int32))])) (fun _ kk => XS.goto X24.here hx rfl (pc0 := 231) (pc' := 235) rfl (hb hby at_231) (by decide) (by decide) kk) ?_
          exact Go.retN X24 hx hlk (t := .boolean) Bd.returns (by simp) (hb hby at_235) (⟨rfl, N24⟩) (by decide) (by decide)
        · refine Go.st (S' := T22.setTop (mkF m 150 #[.val (.int pa), .val (.int pc), .val (.int ps), .val (.int pl), .val (.int po), .val (.int pm), .val (.ref b1), .val (.int st), .val (.int ln), .val (.int ot), .val (.int ol), .unset, .unset] [])) (fun _ kk => XS.ifNo X22.here hx rfl (hb hby at_147) rfl ((if0 _ _).trans (feq hc23).1) kk) ?_
          refine Go.st (S' := T22.setTop (mkF m 152 #[.val (.int pa), .val (.int pc), .val (.int ps), .val (.int pl), .val (.int po), .val (.int pm), .val (.ref b1), .val (.int st), .val (.int ln), .val (.int ot), .val (.int ol), .unset, .unset] [(.ref b1)])) (fun _ kk => XS.aload X22.here hx rfl (hb hby at_150) rfl rfl kk) ?_
          refine Go.st (S' := T22.setTop (mkF m 154 #[.val (.int pa), .val (.int pc), .val (.int ps), .val (.int pl), .val (.int po), .val (.int pm), .val (.ref b1), .val (.int st), .val (.int ln), .val (.int ot), .val (.int ol), .unset, .unset] [(.int st), (.ref b1)])) (fun _ kk => XS.iload X22.here hx rfl (hb hby at_152) rfl kk) ?_
          refine Go.st (S' := T22.setTop (mkF m 156 #[.val (.int pa), .val (.int pc), .val (.int ps), .val (.int pl), .val (.int po), .val (.int pm), .val (.ref b1), .val (.int st), .val (.int ln), .val (.int ot), .val (.int ol), .unset, .unset] [(.int ot), (.int st), (.ref b1)])) (fun _ kk => XS.iload X22.here hx rfl (hb hby at_154) rfl kk) ?_
          refine Go.st (S' := T22.setTop (mkF m 157 #[.val (.int pa), .val (.int pc), .val (.int ps), .val (.int pl), .val (.int po), .val (.int pm), .val (.ref b1), .val (.int st), .val (.int ln), .val (.int ot), .val (.int ol), .unset, .unset] [(.int (3 : Int32)), (.int ot), (.int st), (.ref b1)])) (fun _ kk => XS.iconst X22.here hx rfl (hb hby at_156) kk) ?_
          refine Go.st (S' := T22.setTop (mkF m 159 #[.val (.int pa), .val (.int pc), .val (.int ps), .val (.int pl), .val (.int po), .val (.int pm), .val (.ref b1), .val (.int st), .val (.int ln), .val (.int ot), .val (.int ol), .unset, .unset] [(.int ln), (.int (3 : Int32)), (.int ot), (.int st), (.ref b1)])) (fun _ kk => XS.iload X22.here hx rfl (hb hby at_157) rfl kk) ?_
          obtain ⟨_, _, ⟨T25, L25, k25, n25⟩, -, X25, ⟨Lc25, hQ25, l25, y25, z25⟩, st25⟩ := Jvm.LawKit.callS X22 hx (y := (⟨"com/example/grantbook/grantbook/licence/PlainXmlSameBytesPinLaw", "eqAt", "([BIIII)Z"⟩ : MethodName)) hown (mvT hZ (hw _ (List.mem_of_getElem? (i := 6) rfl))) (mvT hZ (hw _ (List.mem_of_getElem? (i := 7) rfl))) (mvT hZ (hw _ (List.mem_of_getElem? (i := 8) rfl))) (mvT hZ (hw _ (List.mem_of_getElem? (i := 9) rfl))) (by decide) (backOf (W := 0) (rmE l Z az hw [] b1 st ot (3 : Int32) ln k1 bs h13 n0 Zs14 V_bs (own_hr hst hln hot hol hll (by decide))) hZ (hw _ (List.mem_of_getElem? (i := 9) rfl)) (hw _ (List.mem_of_getElem? (i := 8) rfl)) (by decide) (by decide)) (g := (mkF m 159 #[.val (.int pa), .val (.int pc), .val (.int ps), .val (.int pl), .val (.int po), .val (.int pm), .val (.ref b1), .val (.int st), .val (.int ln), .val (.int ot), .val (.int ol), .unset, .unset] [(.int ln), (.int (3 : Int32)), (.int ot), (.int st), (.ref b1)])) rfl (by rw [hml]; rfl) (argsL := [(.ref b1), (.int st), (.int ot), (.int (3 : Int32)), (.int ln)]) (rest := []) (lenOf pd_0 rfl) rfl (by show 2 * 0 + _ ≤ _; exact Nat.le_of_eq rfl) (hb hby at_159) (fun _ _ => ⟨rfl, e22, (by decide : 1 + 0 ≤ _), (by decide : 6 + 0 ≤ _)⟩)
          dsimp only [Pt.U, Pt.locs, Pt.cells, Pt.slots] at X25 l25 y25 z25 st25 hQ25
          subst l25 y25 z25
          obtain ⟨hv25, N25q, e25⟩ := hQ25
          subst hv25
          have N25 := Fr.app N22 N25q
          refine Go.st (S' := T25.setTop (mkF m 162 #[.val (.int pa), .val (.int pc), .val (.int ps), .val (.int pl), .val (.int po), .val (.int pm), .val (.ref b1), .val (.int st), .val (.int ln), .val (.int ot), .val (.int ol), .unset, .unset] [(.int (fE bs st ot (3 : Int32) ln))])) st25 ?_
          by_cases hc26 : (fE bs st ot (3 : Int32) ln) = (0 : Int32)
          · refine Go.st (S' := T25.setTop (mkF m 199 #[.val (.int pa), .val (.int pc), .val (.int ps), .val (.int pl), .val (.int po), .val (.int pm), .val (.ref b1), .val (.int st), .val (.int ln), .val (.int ot), .val (.int ol), .unset, .unset] [])) (fun _ kk => XS.ifYes X25.here hx rfl (pc0 := 162) (pc' := 199) rfl (hb hby at_162) rfl ((if0 _ _).trans (teq hc26).1) (by decide) (by decide) kk) ?_
            refine Go.st (S' := T25.setTop (mkF m 200 #[.val (.int pa), .val (.int pc), .val (.int ps), .val (.int pl), .val (.int po), .val (.int pm), .val (.ref b1), .val (.int st), .val (.int ln), .val (.int ot), .val (.int ol), .unset, .unset] [(.int (0 : Int32))])) (fun _ kk => XS.iconst X25.here hx rfl (hb hby at_199) kk) ?_
            refine Go.st (S' := T25.setTop (mkF m 202 #[.val (.int pa), .val (.int pc), .val (.int ps), .val (.int pl), .val (.int po), .val (.int pm), .val (.ref b1), .val (.int st), .val (.int ln), .val (.int ot), .val (.int ol), .val (.int (0 : Int32)), .unset] [])) (fun _ kk => XS.istore X25.here hx rfl (hb hby at_200) rfl (l' := #[.val (.int pa), .val (.int pc), .val (.int ps), .val (.int pl), .val (.int po), .val (.int pm), .val (.ref b1), .val (.int st), .val (.int ln), .val (.int ot), .val (.int ol), .val (.int (0 : Int32)), .unset]) rfl kk) ?_
            refine Go.st (S' := T25.setTop (mkF m 204 #[.val (.int pa), .val (.int pc), .val (.int ps), .val (.int pl), .val (.int po), .val (.int pm), .val (.ref b1), .val (.int st), .val (.int ln), .val (.int ot), .val (.int ol), .val (.int (0 : Int32)), .unset] [(.ref b1)])) (fun _ kk => XS.aload X25.here hx rfl (hb hby at_202) rfl rfl kk) ?_
            refine Go.st (S' := T25.setTop (mkF m 206 #[.val (.int pa), .val (.int pc), .val (.int ps), .val (.int pl), .val (.int po), .val (.int pm), .val (.ref b1), .val (.int st), .val (.int ln), .val (.int ot), .val (.int ol), .val (.int (0 : Int32)), .unset] [(.int st), (.ref b1)])) (fun _ kk => XS.iload X25.here hx rfl (hb hby at_204) rfl kk) ?_
            refine Go.st (S' := T25.setTop (mkF m 208 #[.val (.int pa), .val (.int pc), .val (.int ps), .val (.int pl), .val (.int po), .val (.int pm), .val (.ref b1), .val (.int st), .val (.int ln), .val (.int ot), .val (.int ol), .val (.int (0 : Int32)), .unset] [(.int st), (.int st), (.ref b1)])) (fun _ kk => XS.iload X25.here hx rfl (hb hby at_206) rfl kk) ?_
            refine Go.st (S' := T25.setTop (mkF m 210 #[.val (.int pa), .val (.int pc), .val (.int ps), .val (.int pl), .val (.int po), .val (.int pm), .val (.ref b1), .val (.int st), .val (.int ln), .val (.int ot), .val (.int ol), .val (.int (0 : Int32)), .unset] [(.int ln), (.int st), (.int st), (.ref b1)])) (fun _ kk => XS.iload X25.here hx rfl (hb hby at_208) rfl kk) ?_
            refine Go.st (S' := T25.setTop (mkF m 211 #[.val (.int pa), .val (.int pc), .val (.int ps), .val (.int pl), .val (.int po), .val (.int pm), .val (.ref b1), .val (.int st), .val (.int ln), .val (.int ot), .val (.int ol), .val (.int (0 : Int32)), .unset] [(.int (st + ln)), (.int st), (.ref b1)])) (fun _ kk => XS.iadd X25.here hx rfl (hb hby at_210) rfl kk) ?_
            refine Go.st (S' := T25.setTop (mkF m 213 #[.val (.int pa), .val (.int pc), .val (.int ps), .val (.int pl), .val (.int po), .val (.int pm), .val (.ref b1), .val (.int st), .val (.int ln), .val (.int ot), .val (.int ol), .val (.int (0 : Int32)), .unset] [(.int ot), (.int (st + ln)), (.int st), (.ref b1)])) (fun _ kk => XS.iload X25.here hx rfl (hb hby at_211) rfl kk) ?_
            refine Go.st (S' := T25.setTop (mkF m 215 #[.val (.int pa), .val (.int pc), .val (.int ps), .val (.int pl), .val (.int po), .val (.int pm), .val (.ref b1), .val (.int st), .val (.int ln), .val (.int ot), .val (.int ol), .val (.int (0 : Int32)), .unset] [(.int ot), (.int ot), (.int (st + ln)), (.int st), (.ref b1)])) (fun _ kk => XS.iload X25.here hx rfl (hb hby at_213) rfl kk) ?_
            refine Go.st (S' := T25.setTop (mkF m 217 #[.val (.int pa), .val (.int pc), .val (.int ps), .val (.int pl), .val (.int po), .val (.int pm), .val (.ref b1), .val (.int st), .val (.int ln), .val (.int ot), .val (.int ol), .val (.int (0 : Int32)), .unset] [(.int ol), (.int ot), (.int ot), (.int (st + ln)), (.int st), (.ref b1)])) (fun _ kk => XS.iload X25.here hx rfl (hb hby at_215) rfl kk) ?_
            refine Go.st (S' := T25.setTop (mkF m 218 #[.val (.int pa), .val (.int pc), .val (.int ps), .val (.int pl), .val (.int po), .val (.int pm), .val (.ref b1), .val (.int st), .val (.int ln), .val (.int ot), .val (.int ol), .val (.int (0 : Int32)), .unset] [(.int (ot + ol)), (.int ot), (.int (st + ln)), (.int st), (.ref b1)])) (fun _ kk => XS.iadd X25.here hx rfl (hb hby at_217) rfl kk) ?_
            obtain ⟨_, _, ⟨T27, L27, k27, n27⟩, -, X27, ⟨Lc27, hQ27, l27, y27, z27⟩, st27⟩ := Jvm.LawKit.callS X25 hx (y := (⟨"com/example/grantbook/grantbook/licence/PlainXml", "sameBytes", "([BIIII)Z"⟩ : MethodName)) hown (mvT hZ (hw _ (List.mem_of_getElem? (i := 2) rfl))) (mvT hZ (hw _ (List.mem_of_getElem? (i := 3) rfl))) (mvT hZ (hw _ (List.mem_of_getElem? (i := 4) rfl))) (mvT hZ (hw _ (List.mem_of_getElem? (i := 5) rfl))) (by decide) (backOf (W := 0) (rmB l Z az hw [] b1 st (st + ln) ot (ot + ol) k1 bs h13 n0 Zs14 V_bs (by omega) (by omega) (by omega) (by omega) (by omega) (by omega)) hZ (hw _ (List.mem_of_getElem? (i := 5) rfl)) (hw _ (List.mem_of_getElem? (i := 4) rfl)) (by decide) (by decide)) (g := (mkF m 218 #[.val (.int pa), .val (.int pc), .val (.int ps), .val (.int pl), .val (.int po), .val (.int pm), .val (.ref b1), .val (.int st), .val (.int ln), .val (.int ot), .val (.int ol), .val (.int (0 : Int32)), .unset] [(.int (ot + ol)), (.int ot), (.int (st + ln)), (.int st), (.ref b1)])) rfl (by rw [hml]; rfl) (argsL := [(.ref b1), (.int st), (.int (st + ln)), (.int ot), (.int (ot + ol))]) (rest := []) (lenOf pd_0 rfl) rfl (by show 2 * 0 + _ ≤ _; exact Nat.le_of_eq rfl) (hb hby at_218) (fun _ _ => ⟨rfl, e25, (by decide : 1 + 0 ≤ _), (by decide : 6 + 0 ≤ _)⟩)
            dsimp only [Pt.U, Pt.locs, Pt.cells, Pt.slots] at X27 l27 y27 z27 st27 hQ27
            subst l27 y27 z27
            obtain ⟨r, rfl, N27q, e27, r1, r2⟩ := hQ27
            have N27 := Fr.app N25 N27q
            rw [show (st + ln).toInt - st.toInt = ln.toInt from by omega, show (ot + ol).toInt - ot.toInt = ol.toInt from by omega] at r2
            have hr0 : r = (0 : Int32) := r1.resolve_right (fun q => by
              exact own_f0 (k := (3 : Int32)) ⟨hst.1, by omega⟩ ⟨hot.1, by omega⟩ (by decide) hc26 (r2.mp q).2)
            subst hr0
            refine Go.st (S' := T27.setTop (mkF m 221 #[.val (.int pa), .val (.int pc), .val (.int ps), .val (.int pl), .val (.int po), .val (.int pm), .val (.ref b1), .val (.int st), .val (.int ln), .val (.int ot), .val (.int ol), .val (.int (0 : Int32)), .unset] [(.int (0 : Int32))])) st27 ?_
            refine Go.st (S' := T27.setTop (mkF m 223 #[.val (.int pa), .val (.int pc), .val (.int ps), .val (.int pl), .val (.int po), .val (.int pm), .val (.ref b1), .val (.int st), .val (.int ln), .val (.int ot), .val (.int ol), .val (.int (0 : Int32)), .val (.int (0 : Int32))] [])) (fun _ kk => XS.istore X27.here hx rfl (hb hby at_221) rfl (l' := #[.val (.int pa), .val (.int pc), .val (.int ps), .val (.int pl), .val (.int po), .val (.int pm), .val (.ref b1), .val (.int st), .val (.int ln), .val (.int ot), .val (.int ol), .val (.int (0 : Int32)), .val (.int (0 : Int32))]) rfl kk) ?_
            refine Go.st (S' := T27.setTop (mkF m 225 #[.val (.int pa), .val (.int pc), .val (.int ps), .val (.int pl), .val (.int po), .val (.int pm), .val (.ref b1), .val (.int st), .val (.int ln), .val (.int ot), .val (.int ol), .val (.int (0 : Int32)), .val (.int (0 : Int32))] [(.int (0 : Int32))])) (fun _ kk => XS.iload X27.here hx rfl (hb hby at_223) rfl kk) ?_
            refine Go.st (S' := T27.setTop (mkF m 227 #[.val (.int pa), .val (.int pc), .val (.int ps), .val (.int pl), .val (.int po), .val (.int pm), .val (.ref b1), .val (.int st), .val (.int ln), .val (.int ot), .val (.int ol), .val (.int (0 : Int32)), .val (.int (0 : Int32))] [(.int (0 : Int32)), (.int (0 : Int32))])) (fun _ kk => XS.iload X27.here hx rfl (hb hby at_225) rfl kk) ?_
            refine Go.st (S' := T27.setTop (mkF m 230 #[.val (.int pa), .val (.int pc), .val (.int ps), .val (.int pl), .val (.int po), .val (.int pm), .val (.ref b1), .val (.int st), .val (.int ln), .val (.int ot), .val (.int ol), .val (.int (0 : Int32)), .val (.int (0 : Int32))] [])) (fun _ kk => XS.icmpNo X27.here hx rfl (hb hby at_227) rfl (teq (by decide : (0 : Int32) = (0 : Int32))).2 kk) ?_
            refine Go.st (S' := T27.setTop (mkF m 231 #[.val (.int pa), .val (.int pc), .val (.int ps), .val (.int pl), .val (.int po), .val (.int pm), .val (.ref b1), .val (.int st), .val (.int ln), .val (.int ot), .val (.int ol), .val (.int (0 : Int32)), .val (.int (0 : Int32))] [(.int (1 : Int32))])) (fun _ kk => XS.iconst X27.here hx rfl (hb hby at_230) kk) ?_
            refine Go.st (S' := T27.setTop (mkF m 235 #[.val (.int pa), .val (.int pc), .val (.int ps), .val (.int pl), .val (.int po), .val (.int pm), .val (.ref b1), .val (.int st), .val (.int ln), .val (.int ot), .val (.int ol), .val (.int (0 : Int32)), .val (.int (0 : Int32))] [(.int (1 : Int32))])) (fun _ kk => XS.goto X27.here hx rfl (pc0 := 231) (pc' := 235) rfl (hb hby at_231) (by decide) (by decide) kk) ?_
            exact Go.retN X27 hx hlk (t := .boolean) Bd.returns (by simp) (hb hby at_235) (⟨rfl, N27⟩) (by decide) (by decide)
          · refine Go.st (S' := T25.setTop (mkF m 165 #[.val (.int pa), .val (.int pc), .val (.int ps), .val (.int pl), .val (.int po), .val (.int pm), .val (.ref b1), .val (.int st), .val (.int ln), .val (.int ot), .val (.int ol), .unset, .unset] [])) (fun _ kk => XS.ifNo X25.here hx rfl (hb hby at_162) rfl ((if0 _ _).trans (feq hc26).1) kk) ?_
            refine Go.st (S' := T25.setTop (mkF m 167 #[.val (.int pa), .val (.int pc), .val (.int ps), .val (.int pl), .val (.int po), .val (.int pm), .val (.ref b1), .val (.int st), .val (.int ln), .val (.int ot), .val (.int ol), .unset, .unset] [(.ref b1)])) (fun _ kk => XS.aload X25.here hx rfl (hb hby at_165) rfl rfl kk) ?_
            refine Go.st (S' := T25.setTop (mkF m 169 #[.val (.int pa), .val (.int pc), .val (.int ps), .val (.int pl), .val (.int po), .val (.int pm), .val (.ref b1), .val (.int st), .val (.int ln), .val (.int ot), .val (.int ol), .unset, .unset] [(.int st), (.ref b1)])) (fun _ kk => XS.iload X25.here hx rfl (hb hby at_167) rfl kk) ?_
            refine Go.st (S' := T25.setTop (mkF m 171 #[.val (.int pa), .val (.int pc), .val (.int ps), .val (.int pl), .val (.int po), .val (.int pm), .val (.ref b1), .val (.int st), .val (.int ln), .val (.int ot), .val (.int ol), .unset, .unset] [(.int ot), (.int st), (.ref b1)])) (fun _ kk => XS.iload X25.here hx rfl (hb hby at_169) rfl kk) ?_
            refine Go.st (S' := T25.setTop (mkF m 172 #[.val (.int pa), .val (.int pc), .val (.int ps), .val (.int pl), .val (.int po), .val (.int pm), .val (.ref b1), .val (.int st), .val (.int ln), .val (.int ot), .val (.int ol), .unset, .unset] [(.int (4 : Int32)), (.int ot), (.int st), (.ref b1)])) (fun _ kk => XS.iconst X25.here hx rfl (hb hby at_171) kk) ?_
            refine Go.st (S' := T25.setTop (mkF m 174 #[.val (.int pa), .val (.int pc), .val (.int ps), .val (.int pl), .val (.int po), .val (.int pm), .val (.ref b1), .val (.int st), .val (.int ln), .val (.int ot), .val (.int ol), .unset, .unset] [(.int ln), (.int (4 : Int32)), (.int ot), (.int st), (.ref b1)])) (fun _ kk => XS.iload X25.here hx rfl (hb hby at_172) rfl kk) ?_
            obtain ⟨_, _, ⟨T28, L28, k28, n28⟩, -, X28, ⟨Lc28, hQ28, l28, y28, z28⟩, st28⟩ := Jvm.LawKit.callS X25 hx (y := (⟨"com/example/grantbook/grantbook/licence/PlainXmlSameBytesPinLaw", "eqAt", "([BIIII)Z"⟩ : MethodName)) hown (mvT hZ (hw _ (List.mem_of_getElem? (i := 6) rfl))) (mvT hZ (hw _ (List.mem_of_getElem? (i := 7) rfl))) (mvT hZ (hw _ (List.mem_of_getElem? (i := 8) rfl))) (mvT hZ (hw _ (List.mem_of_getElem? (i := 9) rfl))) (by decide) (backOf (W := 0) (rmE l Z az hw [] b1 st ot (4 : Int32) ln k1 bs h13 n0 Zs14 V_bs (own_hr hst hln hot hol hll (by decide))) hZ (hw _ (List.mem_of_getElem? (i := 9) rfl)) (hw _ (List.mem_of_getElem? (i := 8) rfl)) (by decide) (by decide)) (g := (mkF m 174 #[.val (.int pa), .val (.int pc), .val (.int ps), .val (.int pl), .val (.int po), .val (.int pm), .val (.ref b1), .val (.int st), .val (.int ln), .val (.int ot), .val (.int ol), .unset, .unset] [(.int ln), (.int (4 : Int32)), (.int ot), (.int st), (.ref b1)])) rfl (by rw [hml]; rfl) (argsL := [(.ref b1), (.int st), (.int ot), (.int (4 : Int32)), (.int ln)]) (rest := []) (lenOf pd_0 rfl) rfl (by show 2 * 0 + _ ≤ _; exact Nat.le_of_eq rfl) (hb hby at_174) (fun _ _ => ⟨rfl, e25, (by decide : 1 + 0 ≤ _), (by decide : 6 + 0 ≤ _)⟩)
            dsimp only [Pt.U, Pt.locs, Pt.cells, Pt.slots] at X28 l28 y28 z28 st28 hQ28
            subst l28 y28 z28
            obtain ⟨hv28, N28q, e28⟩ := hQ28
            subst hv28
            have N28 := Fr.app N25 N28q
            refine Go.st (S' := T28.setTop (mkF m 177 #[.val (.int pa), .val (.int pc), .val (.int ps), .val (.int pl), .val (.int po), .val (.int pm), .val (.ref b1), .val (.int st), .val (.int ln), .val (.int ot), .val (.int ol), .unset, .unset] [(.int (fE bs st ot (4 : Int32) ln))])) st28 ?_
            by_cases hc29 : (fE bs st ot (4 : Int32) ln) = (0 : Int32)
            · refine Go.st (S' := T28.setTop (mkF m 199 #[.val (.int pa), .val (.int pc), .val (.int ps), .val (.int pl), .val (.int po), .val (.int pm), .val (.ref b1), .val (.int st), .val (.int ln), .val (.int ot), .val (.int ol), .unset, .unset] [])) (fun _ kk => XS.ifYes X28.here hx rfl (pc0 := 177) (pc' := 199) rfl (hb hby at_177) rfl ((if0 _ _).trans (teq hc29).1) (by decide) (by decide) kk) ?_
              refine Go.st (S' := T28.setTop (mkF m 200 #[.val (.int pa), .val (.int pc), .val (.int ps), .val (.int pl), .val (.int po), .val (.int pm), .val (.ref b1), .val (.int st), .val (.int ln), .val (.int ot), .val (.int ol), .unset, .unset] [(.int (0 : Int32))])) (fun _ kk => XS.iconst X28.here hx rfl (hb hby at_199) kk) ?_
              refine Go.st (S' := T28.setTop (mkF m 202 #[.val (.int pa), .val (.int pc), .val (.int ps), .val (.int pl), .val (.int po), .val (.int pm), .val (.ref b1), .val (.int st), .val (.int ln), .val (.int ot), .val (.int ol), .val (.int (0 : Int32)), .unset] [])) (fun _ kk => XS.istore X28.here hx rfl (hb hby at_200) rfl (l' := #[.val (.int pa), .val (.int pc), .val (.int ps), .val (.int pl), .val (.int po), .val (.int pm), .val (.ref b1), .val (.int st), .val (.int ln), .val (.int ot), .val (.int ol), .val (.int (0 : Int32)), .unset]) rfl kk) ?_
              refine Go.st (S' := T28.setTop (mkF m 204 #[.val (.int pa), .val (.int pc), .val (.int ps), .val (.int pl), .val (.int po), .val (.int pm), .val (.ref b1), .val (.int st), .val (.int ln), .val (.int ot), .val (.int ol), .val (.int (0 : Int32)), .unset] [(.ref b1)])) (fun _ kk => XS.aload X28.here hx rfl (hb hby at_202) rfl rfl kk) ?_
              refine Go.st (S' := T28.setTop (mkF m 206 #[.val (.int pa), .val (.int pc), .val (.int ps), .val (.int pl), .val (.int po), .val (.int pm), .val (.ref b1), .val (.int st), .val (.int ln), .val (.int ot), .val (.int ol), .val (.int (0 : Int32)), .unset] [(.int st), (.ref b1)])) (fun _ kk => XS.iload X28.here hx rfl (hb hby at_204) rfl kk) ?_
              refine Go.st (S' := T28.setTop (mkF m 208 #[.val (.int pa), .val (.int pc), .val (.int ps), .val (.int pl), .val (.int po), .val (.int pm), .val (.ref b1), .val (.int st), .val (.int ln), .val (.int ot), .val (.int ol), .val (.int (0 : Int32)), .unset] [(.int st), (.int st), (.ref b1)])) (fun _ kk => XS.iload X28.here hx rfl (hb hby at_206) rfl kk) ?_
              refine Go.st (S' := T28.setTop (mkF m 210 #[.val (.int pa), .val (.int pc), .val (.int ps), .val (.int pl), .val (.int po), .val (.int pm), .val (.ref b1), .val (.int st), .val (.int ln), .val (.int ot), .val (.int ol), .val (.int (0 : Int32)), .unset] [(.int ln), (.int st), (.int st), (.ref b1)])) (fun _ kk => XS.iload X28.here hx rfl (hb hby at_208) rfl kk) ?_
              refine Go.st (S' := T28.setTop (mkF m 211 #[.val (.int pa), .val (.int pc), .val (.int ps), .val (.int pl), .val (.int po), .val (.int pm), .val (.ref b1), .val (.int st), .val (.int ln), .val (.int ot), .val (.int ol), .val (.int (0 : Int32)), .unset] [(.int (st + ln)), (.int st), (.ref b1)])) (fun _ kk => XS.iadd X28.here hx rfl (hb hby at_210) rfl kk) ?_
              refine Go.st (S' := T28.setTop (mkF m 213 #[.val (.int pa), .val (.int pc), .val (.int ps), .val (.int pl), .val (.int po), .val (.int pm), .val (.ref b1), .val (.int st), .val (.int ln), .val (.int ot), .val (.int ol), .val (.int (0 : Int32)), .unset] [(.int ot), (.int (st + ln)), (.int st), (.ref b1)])) (fun _ kk => XS.iload X28.here hx rfl (hb hby at_211) rfl kk) ?_
              refine Go.st (S' := T28.setTop (mkF m 215 #[.val (.int pa), .val (.int pc), .val (.int ps), .val (.int pl), .val (.int po), .val (.int pm), .val (.ref b1), .val (.int st), .val (.int ln), .val (.int ot), .val (.int ol), .val (.int (0 : Int32)), .unset] [(.int ot), (.int ot), (.int (st + ln)), (.int st), (.ref b1)])) (fun _ kk => XS.iload X28.here hx rfl (hb hby at_213) rfl kk) ?_
              refine Go.st (S' := T28.setTop (mkF m 217 #[.val (.int pa), .val (.int pc), .val (.int ps), .val (.int pl), .val (.int po), .val (.int pm), .val (.ref b1), .val (.int st), .val (.int ln), .val (.int ot), .val (.int ol), .val (.int (0 : Int32)), .unset] [(.int ol), (.int ot), (.int ot), (.int (st + ln)), (.int st), (.ref b1)])) (fun _ kk => XS.iload X28.here hx rfl (hb hby at_215) rfl kk) ?_
              refine Go.st (S' := T28.setTop (mkF m 218 #[.val (.int pa), .val (.int pc), .val (.int ps), .val (.int pl), .val (.int po), .val (.int pm), .val (.ref b1), .val (.int st), .val (.int ln), .val (.int ot), .val (.int ol), .val (.int (0 : Int32)), .unset] [(.int (ot + ol)), (.int ot), (.int (st + ln)), (.int st), (.ref b1)])) (fun _ kk => XS.iadd X28.here hx rfl (hb hby at_217) rfl kk) ?_
              obtain ⟨_, _, ⟨T30, L30, k30, n30⟩, -, X30, ⟨Lc30, hQ30, l30, y30, z30⟩, st30⟩ := Jvm.LawKit.callS X28 hx (y := (⟨"com/example/grantbook/grantbook/licence/PlainXml", "sameBytes", "([BIIII)Z"⟩ : MethodName)) hown (mvT hZ (hw _ (List.mem_of_getElem? (i := 2) rfl))) (mvT hZ (hw _ (List.mem_of_getElem? (i := 3) rfl))) (mvT hZ (hw _ (List.mem_of_getElem? (i := 4) rfl))) (mvT hZ (hw _ (List.mem_of_getElem? (i := 5) rfl))) (by decide) (backOf (W := 0) (rmB l Z az hw [] b1 st (st + ln) ot (ot + ol) k1 bs h13 n0 Zs14 V_bs (by omega) (by omega) (by omega) (by omega) (by omega) (by omega)) hZ (hw _ (List.mem_of_getElem? (i := 5) rfl)) (hw _ (List.mem_of_getElem? (i := 4) rfl)) (by decide) (by decide)) (g := (mkF m 218 #[.val (.int pa), .val (.int pc), .val (.int ps), .val (.int pl), .val (.int po), .val (.int pm), .val (.ref b1), .val (.int st), .val (.int ln), .val (.int ot), .val (.int ol), .val (.int (0 : Int32)), .unset] [(.int (ot + ol)), (.int ot), (.int (st + ln)), (.int st), (.ref b1)])) rfl (by rw [hml]; rfl) (argsL := [(.ref b1), (.int st), (.int (st + ln)), (.int ot), (.int (ot + ol))]) (rest := []) (lenOf pd_0 rfl) rfl (by show 2 * 0 + _ ≤ _; exact Nat.le_of_eq rfl) (hb hby at_218) (fun _ _ => ⟨rfl, e28, (by decide : 1 + 0 ≤ _), (by decide : 6 + 0 ≤ _)⟩)
              dsimp only [Pt.U, Pt.locs, Pt.cells, Pt.slots] at X30 l30 y30 z30 st30 hQ30
              subst l30 y30 z30
              obtain ⟨r, rfl, N30q, e30, r1, r2⟩ := hQ30
              have N30 := Fr.app N28 N30q
              rw [show (st + ln).toInt - st.toInt = ln.toInt from by omega, show (ot + ol).toInt - ot.toInt = ol.toInt from by omega] at r2
              have hr0 : r = (0 : Int32) := r1.resolve_right (fun q => by
                exact own_f0 (k := (4 : Int32)) ⟨hst.1, by omega⟩ ⟨hot.1, by omega⟩ (by decide) hc29 (r2.mp q).2)
              subst hr0
              refine Go.st (S' := T30.setTop (mkF m 221 #[.val (.int pa), .val (.int pc), .val (.int ps), .val (.int pl), .val (.int po), .val (.int pm), .val (.ref b1), .val (.int st), .val (.int ln), .val (.int ot), .val (.int ol), .val (.int (0 : Int32)), .unset] [(.int (0 : Int32))])) st30 ?_
              refine Go.st (S' := T30.setTop (mkF m 223 #[.val (.int pa), .val (.int pc), .val (.int ps), .val (.int pl), .val (.int po), .val (.int pm), .val (.ref b1), .val (.int st), .val (.int ln), .val (.int ot), .val (.int ol), .val (.int (0 : Int32)), .val (.int (0 : Int32))] [])) (fun _ kk => XS.istore X30.here hx rfl (hb hby at_221) rfl (l' := #[.val (.int pa), .val (.int pc), .val (.int ps), .val (.int pl), .val (.int po), .val (.int pm), .val (.ref b1), .val (.int st), .val (.int ln), .val (.int ot), .val (.int ol), .val (.int (0 : Int32)), .val (.int (0 : Int32))]) rfl kk) ?_
              refine Go.st (S' := T30.setTop (mkF m 225 #[.val (.int pa), .val (.int pc), .val (.int ps), .val (.int pl), .val (.int po), .val (.int pm), .val (.ref b1), .val (.int st), .val (.int ln), .val (.int ot), .val (.int ol), .val (.int (0 : Int32)), .val (.int (0 : Int32))] [(.int (0 : Int32))])) (fun _ kk => XS.iload X30.here hx rfl (hb hby at_223) rfl kk) ?_
              refine Go.st (S' := T30.setTop (mkF m 227 #[.val (.int pa), .val (.int pc), .val (.int ps), .val (.int pl), .val (.int po), .val (.int pm), .val (.ref b1), .val (.int st), .val (.int ln), .val (.int ot), .val (.int ol), .val (.int (0 : Int32)), .val (.int (0 : Int32))] [(.int (0 : Int32)), (.int (0 : Int32))])) (fun _ kk => XS.iload X30.here hx rfl (hb hby at_225) rfl kk) ?_
              refine Go.st (S' := T30.setTop (mkF m 230 #[.val (.int pa), .val (.int pc), .val (.int ps), .val (.int pl), .val (.int po), .val (.int pm), .val (.ref b1), .val (.int st), .val (.int ln), .val (.int ot), .val (.int ol), .val (.int (0 : Int32)), .val (.int (0 : Int32))] [])) (fun _ kk => XS.icmpNo X30.here hx rfl (hb hby at_227) rfl (teq (by decide : (0 : Int32) = (0 : Int32))).2 kk) ?_
              refine Go.st (S' := T30.setTop (mkF m 231 #[.val (.int pa), .val (.int pc), .val (.int ps), .val (.int pl), .val (.int po), .val (.int pm), .val (.ref b1), .val (.int st), .val (.int ln), .val (.int ot), .val (.int ol), .val (.int (0 : Int32)), .val (.int (0 : Int32))] [(.int (1 : Int32))])) (fun _ kk => XS.iconst X30.here hx rfl (hb hby at_230) kk) ?_
              refine Go.st (S' := T30.setTop (mkF m 235 #[.val (.int pa), .val (.int pc), .val (.int ps), .val (.int pl), .val (.int po), .val (.int pm), .val (.ref b1), .val (.int st), .val (.int ln), .val (.int ot), .val (.int ol), .val (.int (0 : Int32)), .val (.int (0 : Int32))] [(.int (1 : Int32))])) (fun _ kk => XS.goto X30.here hx rfl (pc0 := 231) (pc' := 235) rfl (hb hby at_231) (by decide) (by decide) kk) ?_
              exact Go.retN X30 hx hlk (t := .boolean) Bd.returns (by simp) (hb hby at_235) (⟨rfl, N30⟩) (by decide) (by decide)
            · refine Go.st (S' := T28.setTop (mkF m 180 #[.val (.int pa), .val (.int pc), .val (.int ps), .val (.int pl), .val (.int po), .val (.int pm), .val (.ref b1), .val (.int st), .val (.int ln), .val (.int ot), .val (.int ol), .unset, .unset] [])) (fun _ kk => XS.ifNo X28.here hx rfl (hb hby at_177) rfl ((if0 _ _).trans (feq hc29).1) kk) ?_
              refine Go.st (S' := T28.setTop (mkF m 182 #[.val (.int pa), .val (.int pc), .val (.int ps), .val (.int pl), .val (.int po), .val (.int pm), .val (.ref b1), .val (.int st), .val (.int ln), .val (.int ot), .val (.int ol), .unset, .unset] [(.ref b1)])) (fun _ kk => XS.aload X28.here hx rfl (hb hby at_180) rfl rfl kk) ?_
              refine Go.st (S' := T28.setTop (mkF m 184 #[.val (.int pa), .val (.int pc), .val (.int ps), .val (.int pl), .val (.int po), .val (.int pm), .val (.ref b1), .val (.int st), .val (.int ln), .val (.int ot), .val (.int ol), .unset, .unset] [(.int st), (.ref b1)])) (fun _ kk => XS.iload X28.here hx rfl (hb hby at_182) rfl kk) ?_
              refine Go.st (S' := T28.setTop (mkF m 186 #[.val (.int pa), .val (.int pc), .val (.int ps), .val (.int pl), .val (.int po), .val (.int pm), .val (.ref b1), .val (.int st), .val (.int ln), .val (.int ot), .val (.int ol), .unset, .unset] [(.int ot), (.int st), (.ref b1)])) (fun _ kk => XS.iload X28.here hx rfl (hb hby at_184) rfl kk) ?_
              refine Go.st (S' := T28.setTop (mkF m 187 #[.val (.int pa), .val (.int pc), .val (.int ps), .val (.int pl), .val (.int po), .val (.int pm), .val (.ref b1), .val (.int st), .val (.int ln), .val (.int ot), .val (.int ol), .unset, .unset] [(.int (5 : Int32)), (.int ot), (.int st), (.ref b1)])) (fun _ kk => XS.iconst X28.here hx rfl (hb hby at_186) kk) ?_
              refine Go.st (S' := T28.setTop (mkF m 189 #[.val (.int pa), .val (.int pc), .val (.int ps), .val (.int pl), .val (.int po), .val (.int pm), .val (.ref b1), .val (.int st), .val (.int ln), .val (.int ot), .val (.int ol), .unset, .unset] [(.int ln), (.int (5 : Int32)), (.int ot), (.int st), (.ref b1)])) (fun _ kk => XS.iload X28.here hx rfl (hb hby at_187) rfl kk) ?_
              obtain ⟨_, _, ⟨T31, L31, k31, n31⟩, -, X31, ⟨Lc31, hQ31, l31, y31, z31⟩, st31⟩ := Jvm.LawKit.callS X28 hx (y := (⟨"com/example/grantbook/grantbook/licence/PlainXmlSameBytesPinLaw", "eqAt", "([BIIII)Z"⟩ : MethodName)) hown (mvT hZ (hw _ (List.mem_of_getElem? (i := 6) rfl))) (mvT hZ (hw _ (List.mem_of_getElem? (i := 7) rfl))) (mvT hZ (hw _ (List.mem_of_getElem? (i := 8) rfl))) (mvT hZ (hw _ (List.mem_of_getElem? (i := 9) rfl))) (by decide) (backOf (W := 0) (rmE l Z az hw [] b1 st ot (5 : Int32) ln k1 bs h13 n0 Zs14 V_bs (own_hr hst hln hot hol hll (by decide))) hZ (hw _ (List.mem_of_getElem? (i := 9) rfl)) (hw _ (List.mem_of_getElem? (i := 8) rfl)) (by decide) (by decide)) (g := (mkF m 189 #[.val (.int pa), .val (.int pc), .val (.int ps), .val (.int pl), .val (.int po), .val (.int pm), .val (.ref b1), .val (.int st), .val (.int ln), .val (.int ot), .val (.int ol), .unset, .unset] [(.int ln), (.int (5 : Int32)), (.int ot), (.int st), (.ref b1)])) rfl (by rw [hml]; rfl) (argsL := [(.ref b1), (.int st), (.int ot), (.int (5 : Int32)), (.int ln)]) (rest := []) (lenOf pd_0 rfl) rfl (by show 2 * 0 + _ ≤ _; exact Nat.le_of_eq rfl) (hb hby at_189) (fun _ _ => ⟨rfl, e28, (by decide : 1 + 0 ≤ _), (by decide : 6 + 0 ≤ _)⟩)
              dsimp only [Pt.U, Pt.locs, Pt.cells, Pt.slots] at X31 l31 y31 z31 st31 hQ31
              subst l31 y31 z31
              obtain ⟨hv31, N31q, e31⟩ := hQ31
              subst hv31
              have N31 := Fr.app N28 N31q
              refine Go.st (S' := T31.setTop (mkF m 192 #[.val (.int pa), .val (.int pc), .val (.int ps), .val (.int pl), .val (.int po), .val (.int pm), .val (.ref b1), .val (.int st), .val (.int ln), .val (.int ot), .val (.int ol), .unset, .unset] [(.int (fE bs st ot (5 : Int32) ln))])) st31 ?_
              by_cases hc32 : (fE bs st ot (5 : Int32) ln) = (0 : Int32)
              · refine Go.st (S' := T31.setTop (mkF m 199 #[.val (.int pa), .val (.int pc), .val (.int ps), .val (.int pl), .val (.int po), .val (.int pm), .val (.ref b1), .val (.int st), .val (.int ln), .val (.int ot), .val (.int ol), .unset, .unset] [])) (fun _ kk => XS.ifYes X31.here hx rfl (pc0 := 192) (pc' := 199) rfl (hb hby at_192) rfl ((if0 _ _).trans (teq hc32).1) (by decide) (by decide) kk) ?_
                refine Go.st (S' := T31.setTop (mkF m 200 #[.val (.int pa), .val (.int pc), .val (.int ps), .val (.int pl), .val (.int po), .val (.int pm), .val (.ref b1), .val (.int st), .val (.int ln), .val (.int ot), .val (.int ol), .unset, .unset] [(.int (0 : Int32))])) (fun _ kk => XS.iconst X31.here hx rfl (hb hby at_199) kk) ?_
                refine Go.st (S' := T31.setTop (mkF m 202 #[.val (.int pa), .val (.int pc), .val (.int ps), .val (.int pl), .val (.int po), .val (.int pm), .val (.ref b1), .val (.int st), .val (.int ln), .val (.int ot), .val (.int ol), .val (.int (0 : Int32)), .unset] [])) (fun _ kk => XS.istore X31.here hx rfl (hb hby at_200) rfl (l' := #[.val (.int pa), .val (.int pc), .val (.int ps), .val (.int pl), .val (.int po), .val (.int pm), .val (.ref b1), .val (.int st), .val (.int ln), .val (.int ot), .val (.int ol), .val (.int (0 : Int32)), .unset]) rfl kk) ?_
                refine Go.st (S' := T31.setTop (mkF m 204 #[.val (.int pa), .val (.int pc), .val (.int ps), .val (.int pl), .val (.int po), .val (.int pm), .val (.ref b1), .val (.int st), .val (.int ln), .val (.int ot), .val (.int ol), .val (.int (0 : Int32)), .unset] [(.ref b1)])) (fun _ kk => XS.aload X31.here hx rfl (hb hby at_202) rfl rfl kk) ?_
                refine Go.st (S' := T31.setTop (mkF m 206 #[.val (.int pa), .val (.int pc), .val (.int ps), .val (.int pl), .val (.int po), .val (.int pm), .val (.ref b1), .val (.int st), .val (.int ln), .val (.int ot), .val (.int ol), .val (.int (0 : Int32)), .unset] [(.int st), (.ref b1)])) (fun _ kk => XS.iload X31.here hx rfl (hb hby at_204) rfl kk) ?_
                refine Go.st (S' := T31.setTop (mkF m 208 #[.val (.int pa), .val (.int pc), .val (.int ps), .val (.int pl), .val (.int po), .val (.int pm), .val (.ref b1), .val (.int st), .val (.int ln), .val (.int ot), .val (.int ol), .val (.int (0 : Int32)), .unset] [(.int st), (.int st), (.ref b1)])) (fun _ kk => XS.iload X31.here hx rfl (hb hby at_206) rfl kk) ?_
                refine Go.st (S' := T31.setTop (mkF m 210 #[.val (.int pa), .val (.int pc), .val (.int ps), .val (.int pl), .val (.int po), .val (.int pm), .val (.ref b1), .val (.int st), .val (.int ln), .val (.int ot), .val (.int ol), .val (.int (0 : Int32)), .unset] [(.int ln), (.int st), (.int st), (.ref b1)])) (fun _ kk => XS.iload X31.here hx rfl (hb hby at_208) rfl kk) ?_
                refine Go.st (S' := T31.setTop (mkF m 211 #[.val (.int pa), .val (.int pc), .val (.int ps), .val (.int pl), .val (.int po), .val (.int pm), .val (.ref b1), .val (.int st), .val (.int ln), .val (.int ot), .val (.int ol), .val (.int (0 : Int32)), .unset] [(.int (st + ln)), (.int st), (.ref b1)])) (fun _ kk => XS.iadd X31.here hx rfl (hb hby at_210) rfl kk) ?_
                refine Go.st (S' := T31.setTop (mkF m 213 #[.val (.int pa), .val (.int pc), .val (.int ps), .val (.int pl), .val (.int po), .val (.int pm), .val (.ref b1), .val (.int st), .val (.int ln), .val (.int ot), .val (.int ol), .val (.int (0 : Int32)), .unset] [(.int ot), (.int (st + ln)), (.int st), (.ref b1)])) (fun _ kk => XS.iload X31.here hx rfl (hb hby at_211) rfl kk) ?_
                refine Go.st (S' := T31.setTop (mkF m 215 #[.val (.int pa), .val (.int pc), .val (.int ps), .val (.int pl), .val (.int po), .val (.int pm), .val (.ref b1), .val (.int st), .val (.int ln), .val (.int ot), .val (.int ol), .val (.int (0 : Int32)), .unset] [(.int ot), (.int ot), (.int (st + ln)), (.int st), (.ref b1)])) (fun _ kk => XS.iload X31.here hx rfl (hb hby at_213) rfl kk) ?_
                refine Go.st (S' := T31.setTop (mkF m 217 #[.val (.int pa), .val (.int pc), .val (.int ps), .val (.int pl), .val (.int po), .val (.int pm), .val (.ref b1), .val (.int st), .val (.int ln), .val (.int ot), .val (.int ol), .val (.int (0 : Int32)), .unset] [(.int ol), (.int ot), (.int ot), (.int (st + ln)), (.int st), (.ref b1)])) (fun _ kk => XS.iload X31.here hx rfl (hb hby at_215) rfl kk) ?_
                refine Go.st (S' := T31.setTop (mkF m 218 #[.val (.int pa), .val (.int pc), .val (.int ps), .val (.int pl), .val (.int po), .val (.int pm), .val (.ref b1), .val (.int st), .val (.int ln), .val (.int ot), .val (.int ol), .val (.int (0 : Int32)), .unset] [(.int (ot + ol)), (.int ot), (.int (st + ln)), (.int st), (.ref b1)])) (fun _ kk => XS.iadd X31.here hx rfl (hb hby at_217) rfl kk) ?_
                obtain ⟨_, _, ⟨T33, L33, k33, n33⟩, -, X33, ⟨Lc33, hQ33, l33, y33, z33⟩, st33⟩ := Jvm.LawKit.callS X31 hx (y := (⟨"com/example/grantbook/grantbook/licence/PlainXml", "sameBytes", "([BIIII)Z"⟩ : MethodName)) hown (mvT hZ (hw _ (List.mem_of_getElem? (i := 2) rfl))) (mvT hZ (hw _ (List.mem_of_getElem? (i := 3) rfl))) (mvT hZ (hw _ (List.mem_of_getElem? (i := 4) rfl))) (mvT hZ (hw _ (List.mem_of_getElem? (i := 5) rfl))) (by decide) (backOf (W := 0) (rmB l Z az hw [] b1 st (st + ln) ot (ot + ol) k1 bs h13 n0 Zs14 V_bs (by omega) (by omega) (by omega) (by omega) (by omega) (by omega)) hZ (hw _ (List.mem_of_getElem? (i := 5) rfl)) (hw _ (List.mem_of_getElem? (i := 4) rfl)) (by decide) (by decide)) (g := (mkF m 218 #[.val (.int pa), .val (.int pc), .val (.int ps), .val (.int pl), .val (.int po), .val (.int pm), .val (.ref b1), .val (.int st), .val (.int ln), .val (.int ot), .val (.int ol), .val (.int (0 : Int32)), .unset] [(.int (ot + ol)), (.int ot), (.int (st + ln)), (.int st), (.ref b1)])) rfl (by rw [hml]; rfl) (argsL := [(.ref b1), (.int st), (.int (st + ln)), (.int ot), (.int (ot + ol))]) (rest := []) (lenOf pd_0 rfl) rfl (by show 2 * 0 + _ ≤ _; exact Nat.le_of_eq rfl) (hb hby at_218) (fun _ _ => ⟨rfl, e31, (by decide : 1 + 0 ≤ _), (by decide : 6 + 0 ≤ _)⟩)
                dsimp only [Pt.U, Pt.locs, Pt.cells, Pt.slots] at X33 l33 y33 z33 st33 hQ33
                subst l33 y33 z33
                obtain ⟨r, rfl, N33q, e33, r1, r2⟩ := hQ33
                have N33 := Fr.app N31 N33q
                rw [show (st + ln).toInt - st.toInt = ln.toInt from by omega, show (ot + ol).toInt - ot.toInt = ol.toInt from by omega] at r2
                have hr0 : r = (0 : Int32) := r1.resolve_right (fun q => by
                  exact own_f0 (k := (5 : Int32)) ⟨hst.1, by omega⟩ ⟨hot.1, by omega⟩ (by decide) hc32 (r2.mp q).2)
                subst hr0
                refine Go.st (S' := T33.setTop (mkF m 221 #[.val (.int pa), .val (.int pc), .val (.int ps), .val (.int pl), .val (.int po), .val (.int pm), .val (.ref b1), .val (.int st), .val (.int ln), .val (.int ot), .val (.int ol), .val (.int (0 : Int32)), .unset] [(.int (0 : Int32))])) st33 ?_
                refine Go.st (S' := T33.setTop (mkF m 223 #[.val (.int pa), .val (.int pc), .val (.int ps), .val (.int pl), .val (.int po), .val (.int pm), .val (.ref b1), .val (.int st), .val (.int ln), .val (.int ot), .val (.int ol), .val (.int (0 : Int32)), .val (.int (0 : Int32))] [])) (fun _ kk => XS.istore X33.here hx rfl (hb hby at_221) rfl (l' := #[.val (.int pa), .val (.int pc), .val (.int ps), .val (.int pl), .val (.int po), .val (.int pm), .val (.ref b1), .val (.int st), .val (.int ln), .val (.int ot), .val (.int ol), .val (.int (0 : Int32)), .val (.int (0 : Int32))]) rfl kk) ?_
                refine Go.st (S' := T33.setTop (mkF m 225 #[.val (.int pa), .val (.int pc), .val (.int ps), .val (.int pl), .val (.int po), .val (.int pm), .val (.ref b1), .val (.int st), .val (.int ln), .val (.int ot), .val (.int ol), .val (.int (0 : Int32)), .val (.int (0 : Int32))] [(.int (0 : Int32))])) (fun _ kk => XS.iload X33.here hx rfl (hb hby at_223) rfl kk) ?_
                refine Go.st (S' := T33.setTop (mkF m 227 #[.val (.int pa), .val (.int pc), .val (.int ps), .val (.int pl), .val (.int po), .val (.int pm), .val (.ref b1), .val (.int st), .val (.int ln), .val (.int ot), .val (.int ol), .val (.int (0 : Int32)), .val (.int (0 : Int32))] [(.int (0 : Int32)), (.int (0 : Int32))])) (fun _ kk => XS.iload X33.here hx rfl (hb hby at_225) rfl kk) ?_
                refine Go.st (S' := T33.setTop (mkF m 230 #[.val (.int pa), .val (.int pc), .val (.int ps), .val (.int pl), .val (.int po), .val (.int pm), .val (.ref b1), .val (.int st), .val (.int ln), .val (.int ot), .val (.int ol), .val (.int (0 : Int32)), .val (.int (0 : Int32))] [])) (fun _ kk => XS.icmpNo X33.here hx rfl (hb hby at_227) rfl (teq (by decide : (0 : Int32) = (0 : Int32))).2 kk) ?_
                refine Go.st (S' := T33.setTop (mkF m 231 #[.val (.int pa), .val (.int pc), .val (.int ps), .val (.int pl), .val (.int po), .val (.int pm), .val (.ref b1), .val (.int st), .val (.int ln), .val (.int ot), .val (.int ol), .val (.int (0 : Int32)), .val (.int (0 : Int32))] [(.int (1 : Int32))])) (fun _ kk => XS.iconst X33.here hx rfl (hb hby at_230) kk) ?_
                refine Go.st (S' := T33.setTop (mkF m 235 #[.val (.int pa), .val (.int pc), .val (.int ps), .val (.int pl), .val (.int po), .val (.int pm), .val (.ref b1), .val (.int st), .val (.int ln), .val (.int ot), .val (.int ol), .val (.int (0 : Int32)), .val (.int (0 : Int32))] [(.int (1 : Int32))])) (fun _ kk => XS.goto X33.here hx rfl (pc0 := 231) (pc' := 235) rfl (hb hby at_231) (by decide) (by decide) kk) ?_
                exact Go.retN X33 hx hlk (t := .boolean) Bd.returns (by simp) (hb hby at_235) (⟨rfl, N33⟩) (by decide) (by decide)
              · refine Go.st (S' := T31.setTop (mkF m 195 #[.val (.int pa), .val (.int pc), .val (.int ps), .val (.int pl), .val (.int po), .val (.int pm), .val (.ref b1), .val (.int st), .val (.int ln), .val (.int ot), .val (.int ol), .unset, .unset] [])) (fun _ kk => XS.ifNo X31.here hx rfl (hb hby at_192) rfl ((if0 _ _).trans (feq hc32).1) kk) ?_
                refine Go.st (S' := T31.setTop (mkF m 196 #[.val (.int pa), .val (.int pc), .val (.int ps), .val (.int pl), .val (.int po), .val (.int pm), .val (.ref b1), .val (.int st), .val (.int ln), .val (.int ot), .val (.int ol), .unset, .unset] [(.int (1 : Int32))])) (fun _ kk => XS.iconst X31.here hx rfl (hb hby at_195) kk) ?_
                refine Go.st (S' := T31.setTop (mkF m 200 #[.val (.int pa), .val (.int pc), .val (.int ps), .val (.int pl), .val (.int po), .val (.int pm), .val (.ref b1), .val (.int st), .val (.int ln), .val (.int ot), .val (.int ol), .unset, .unset] [(.int (1 : Int32))])) (fun _ kk => XS.goto X31.here hx rfl (pc0 := 196) (pc' := 200) rfl (hb hby at_196) (by decide) (by decide) kk) ?_
                refine Go.st (S' := T31.setTop (mkF m 202 #[.val (.int pa), .val (.int pc), .val (.int ps), .val (.int pl), .val (.int po), .val (.int pm), .val (.ref b1), .val (.int st), .val (.int ln), .val (.int ot), .val (.int ol), .val (.int (1 : Int32)), .unset] [])) (fun _ kk => XS.istore X31.here hx rfl (hb hby at_200) rfl (l' := #[.val (.int pa), .val (.int pc), .val (.int ps), .val (.int pl), .val (.int po), .val (.int pm), .val (.ref b1), .val (.int st), .val (.int ln), .val (.int ot), .val (.int ol), .val (.int (1 : Int32)), .unset]) rfl kk) ?_
                refine Go.st (S' := T31.setTop (mkF m 204 #[.val (.int pa), .val (.int pc), .val (.int ps), .val (.int pl), .val (.int po), .val (.int pm), .val (.ref b1), .val (.int st), .val (.int ln), .val (.int ot), .val (.int ol), .val (.int (1 : Int32)), .unset] [(.ref b1)])) (fun _ kk => XS.aload X31.here hx rfl (hb hby at_202) rfl rfl kk) ?_
                refine Go.st (S' := T31.setTop (mkF m 206 #[.val (.int pa), .val (.int pc), .val (.int ps), .val (.int pl), .val (.int po), .val (.int pm), .val (.ref b1), .val (.int st), .val (.int ln), .val (.int ot), .val (.int ol), .val (.int (1 : Int32)), .unset] [(.int st), (.ref b1)])) (fun _ kk => XS.iload X31.here hx rfl (hb hby at_204) rfl kk) ?_
                refine Go.st (S' := T31.setTop (mkF m 208 #[.val (.int pa), .val (.int pc), .val (.int ps), .val (.int pl), .val (.int po), .val (.int pm), .val (.ref b1), .val (.int st), .val (.int ln), .val (.int ot), .val (.int ol), .val (.int (1 : Int32)), .unset] [(.int st), (.int st), (.ref b1)])) (fun _ kk => XS.iload X31.here hx rfl (hb hby at_206) rfl kk) ?_
                refine Go.st (S' := T31.setTop (mkF m 210 #[.val (.int pa), .val (.int pc), .val (.int ps), .val (.int pl), .val (.int po), .val (.int pm), .val (.ref b1), .val (.int st), .val (.int ln), .val (.int ot), .val (.int ol), .val (.int (1 : Int32)), .unset] [(.int ln), (.int st), (.int st), (.ref b1)])) (fun _ kk => XS.iload X31.here hx rfl (hb hby at_208) rfl kk) ?_
                refine Go.st (S' := T31.setTop (mkF m 211 #[.val (.int pa), .val (.int pc), .val (.int ps), .val (.int pl), .val (.int po), .val (.int pm), .val (.ref b1), .val (.int st), .val (.int ln), .val (.int ot), .val (.int ol), .val (.int (1 : Int32)), .unset] [(.int (st + ln)), (.int st), (.ref b1)])) (fun _ kk => XS.iadd X31.here hx rfl (hb hby at_210) rfl kk) ?_
                refine Go.st (S' := T31.setTop (mkF m 213 #[.val (.int pa), .val (.int pc), .val (.int ps), .val (.int pl), .val (.int po), .val (.int pm), .val (.ref b1), .val (.int st), .val (.int ln), .val (.int ot), .val (.int ol), .val (.int (1 : Int32)), .unset] [(.int ot), (.int (st + ln)), (.int st), (.ref b1)])) (fun _ kk => XS.iload X31.here hx rfl (hb hby at_211) rfl kk) ?_
                refine Go.st (S' := T31.setTop (mkF m 215 #[.val (.int pa), .val (.int pc), .val (.int ps), .val (.int pl), .val (.int po), .val (.int pm), .val (.ref b1), .val (.int st), .val (.int ln), .val (.int ot), .val (.int ol), .val (.int (1 : Int32)), .unset] [(.int ot), (.int ot), (.int (st + ln)), (.int st), (.ref b1)])) (fun _ kk => XS.iload X31.here hx rfl (hb hby at_213) rfl kk) ?_
                refine Go.st (S' := T31.setTop (mkF m 217 #[.val (.int pa), .val (.int pc), .val (.int ps), .val (.int pl), .val (.int po), .val (.int pm), .val (.ref b1), .val (.int st), .val (.int ln), .val (.int ot), .val (.int ol), .val (.int (1 : Int32)), .unset] [(.int ol), (.int ot), (.int ot), (.int (st + ln)), (.int st), (.ref b1)])) (fun _ kk => XS.iload X31.here hx rfl (hb hby at_215) rfl kk) ?_
                refine Go.st (S' := T31.setTop (mkF m 218 #[.val (.int pa), .val (.int pc), .val (.int ps), .val (.int pl), .val (.int po), .val (.int pm), .val (.ref b1), .val (.int st), .val (.int ln), .val (.int ot), .val (.int ol), .val (.int (1 : Int32)), .unset] [(.int (ot + ol)), (.int ot), (.int (st + ln)), (.int st), (.ref b1)])) (fun _ kk => XS.iadd X31.here hx rfl (hb hby at_217) rfl kk) ?_
                obtain ⟨_, _, ⟨T34, L34, k34, n34⟩, -, X34, ⟨Lc34, hQ34, l34, y34, z34⟩, st34⟩ := Jvm.LawKit.callS X31 hx (y := (⟨"com/example/grantbook/grantbook/licence/PlainXml", "sameBytes", "([BIIII)Z"⟩ : MethodName)) hown (mvT hZ (hw _ (List.mem_of_getElem? (i := 2) rfl))) (mvT hZ (hw _ (List.mem_of_getElem? (i := 3) rfl))) (mvT hZ (hw _ (List.mem_of_getElem? (i := 4) rfl))) (mvT hZ (hw _ (List.mem_of_getElem? (i := 5) rfl))) (by decide) (backOf (W := 0) (rmB l Z az hw [] b1 st (st + ln) ot (ot + ol) k1 bs h13 n0 Zs14 V_bs (by omega) (by omega) (by omega) (by omega) (by omega) (by omega)) hZ (hw _ (List.mem_of_getElem? (i := 5) rfl)) (hw _ (List.mem_of_getElem? (i := 4) rfl)) (by decide) (by decide)) (g := (mkF m 218 #[.val (.int pa), .val (.int pc), .val (.int ps), .val (.int pl), .val (.int po), .val (.int pm), .val (.ref b1), .val (.int st), .val (.int ln), .val (.int ot), .val (.int ol), .val (.int (1 : Int32)), .unset] [(.int (ot + ol)), (.int ot), (.int (st + ln)), (.int st), (.ref b1)])) rfl (by rw [hml]; rfl) (argsL := [(.ref b1), (.int st), (.int (st + ln)), (.int ot), (.int (ot + ol))]) (rest := []) (lenOf pd_0 rfl) rfl (by show 2 * 0 + _ ≤ _; exact Nat.le_of_eq rfl) (hb hby at_218) (fun _ _ => ⟨rfl, e31, (by decide : 1 + 0 ≤ _), (by decide : 6 + 0 ≤ _)⟩)
                dsimp only [Pt.U, Pt.locs, Pt.cells, Pt.slots] at X34 l34 y34 z34 st34 hQ34
                subst l34 y34 z34
                obtain ⟨r, rfl, N34q, e34, r1, r2⟩ := hQ34
                have N34 := Fr.app N31 N34q
                rw [show (st + ln).toInt - st.toInt = ln.toInt from by omega, show (ot + ol).toInt - ot.toInt = ol.toInt from by omega] at r2
                have hr1 : r = (1 : Int32) := by
                  refine r2.mpr ⟨by rw [hll], fun d hd => ?_⟩
                  have c0 := own_f1 (k := (0 : Int32)) ⟨hst.1, by omega⟩ ⟨hot.1, by omega⟩ (by decide) hc17
                  have c1 := own_f1 (k := (1 : Int32)) ⟨hst.1, by omega⟩ ⟨hot.1, by omega⟩ (by decide) hc20
                  have c2 := own_f1 (k := (2 : Int32)) ⟨hst.1, by omega⟩ ⟨hot.1, by omega⟩ (by decide) hc23
                  have c3 := own_f1 (k := (3 : Int32)) ⟨hst.1, by omega⟩ ⟨hot.1, by omega⟩ (by decide) hc26
                  have c4 := own_f1 (k := (4 : Int32)) ⟨hst.1, by omega⟩ ⟨hot.1, by omega⟩ (by decide) hc29
                  have c5 := own_f1 (k := (5 : Int32)) ⟨hst.1, by omega⟩ ⟨hot.1, by omega⟩ (by decide) hc32
                  have hd6 : d < 6 := by omega
                  match d, hd6, hd with
                  | 0, _, hd => exact c0 hd
                  | 1, _, hd => exact c1 hd
                  | 2, _, hd => exact c2 hd
                  | 3, _, hd => exact c3 hd
                  | 4, _, hd => exact c4 hd
                  | 5, _, hd => exact c5 hd
                subst hr1
                have hz : (1 : Int32) = (1 : Int32) := rfl
                refine Go.st (S' := T34.setTop (mkF m 221 #[.val (.int pa), .val (.int pc), .val (.int ps), .val (.int pl), .val (.int po), .val (.int pm), .val (.ref b1), .val (.int st), .val (.int ln), .val (.int ot), .val (.int ol), .val (.int (1 : Int32)), .unset] [(.int (1 : Int32))])) st34 ?_
                refine Go.st (S' := T34.setTop (mkF m 223 #[.val (.int pa), .val (.int pc), .val (.int ps), .val (.int pl), .val (.int po), .val (.int pm), .val (.ref b1), .val (.int st), .val (.int ln), .val (.int ot), .val (.int ol), .val (.int (1 : Int32)), .val (.int (1 : Int32))] [])) (fun _ kk => XS.istore X34.here hx rfl (hb hby at_221) rfl (l' := #[.val (.int pa), .val (.int pc), .val (.int ps), .val (.int pl), .val (.int po), .val (.int pm), .val (.ref b1), .val (.int st), .val (.int ln), .val (.int ot), .val (.int ol), .val (.int (1 : Int32)), .val (.int (1 : Int32))]) rfl kk) ?_
                refine Go.st (S' := T34.setTop (mkF m 225 #[.val (.int pa), .val (.int pc), .val (.int ps), .val (.int pl), .val (.int po), .val (.int pm), .val (.ref b1), .val (.int st), .val (.int ln), .val (.int ot), .val (.int ol), .val (.int (1 : Int32)), .val (.int (1 : Int32))] [(.int (1 : Int32))])) (fun _ kk => XS.iload X34.here hx rfl (hb hby at_223) rfl kk) ?_
                refine Go.st (S' := T34.setTop (mkF m 227 #[.val (.int pa), .val (.int pc), .val (.int ps), .val (.int pl), .val (.int po), .val (.int pm), .val (.ref b1), .val (.int st), .val (.int ln), .val (.int ot), .val (.int ol), .val (.int (1 : Int32)), .val (.int (1 : Int32))] [(.int (1 : Int32)), (.int (1 : Int32))])) (fun _ kk => XS.iload X34.here hx rfl (hb hby at_225) rfl kk) ?_
                refine Go.st (S' := T34.setTop (mkF m 230 #[.val (.int pa), .val (.int pc), .val (.int ps), .val (.int pl), .val (.int po), .val (.int pm), .val (.ref b1), .val (.int st), .val (.int ln), .val (.int ot), .val (.int ol), .val (.int (1 : Int32)), .val (.int (1 : Int32))] [])) (fun _ kk => XS.icmpNo X34.here hx rfl (hb hby at_227) rfl (teq (by decide : (1 : Int32) = (1 : Int32))).2 kk) ?_
                refine Go.st (S' := T34.setTop (mkF m 231 #[.val (.int pa), .val (.int pc), .val (.int ps), .val (.int pl), .val (.int po), .val (.int pm), .val (.ref b1), .val (.int st), .val (.int ln), .val (.int ot), .val (.int ol), .val (.int (1 : Int32)), .val (.int (1 : Int32))] [(.int (1 : Int32))])) (fun _ kk => XS.iconst X34.here hx rfl (hb hby at_230) kk) ?_
                refine Go.st (S' := T34.setTop (mkF m 235 #[.val (.int pa), .val (.int pc), .val (.int ps), .val (.int pl), .val (.int po), .val (.int pm), .val (.ref b1), .val (.int st), .val (.int ln), .val (.int ot), .val (.int ol), .val (.int (1 : Int32)), .val (.int (1 : Int32))] [(.int (1 : Int32))])) (fun _ kk => XS.goto X34.here hx rfl (pc0 := 231) (pc' := 235) rfl (hb hby at_231) (by decide) (by decide) kk) ?_
                exact Go.retN X34 hx hlk (t := .boolean) Bd.returns (by simp) (hb hby at_235) (⟨rfl, N34⟩) (by decide) (by decide)
  · refine Go.st (S' := T13.setTop (mkF m 199 #[.val (.int pa), .val (.int pc), .val (.int ps), .val (.int pl), .val (.int po), .val (.int pm), .val (.ref b1), .val (.int st), .val (.int ln), .val (.int ot), .val (.int ol), .unset, .unset] [])) (fun _ kk => XS.icmpYes X13.here hx rfl (pc0 := 102) (pc' := 199) rfl (hb hby at_102) rfl (feq hc15).2 (by decide) (by decide) kk) ?_
    refine Go.st (S' := T13.setTop (mkF m 200 #[.val (.int pa), .val (.int pc), .val (.int ps), .val (.int pl), .val (.int po), .val (.int pm), .val (.ref b1), .val (.int st), .val (.int ln), .val (.int ot), .val (.int ol), .unset, .unset] [(.int (0 : Int32))])) (fun _ kk => XS.iconst X13.here hx rfl (hb hby at_199) kk) ?_
    refine Go.st (S' := T13.setTop (mkF m 202 #[.val (.int pa), .val (.int pc), .val (.int ps), .val (.int pl), .val (.int po), .val (.int pm), .val (.ref b1), .val (.int st), .val (.int ln), .val (.int ot), .val (.int ol), .val (.int (0 : Int32)), .unset] [])) (fun _ kk => XS.istore X13.here hx rfl (hb hby at_200) rfl (l' := #[.val (.int pa), .val (.int pc), .val (.int ps), .val (.int pl), .val (.int po), .val (.int pm), .val (.ref b1), .val (.int st), .val (.int ln), .val (.int ot), .val (.int ol), .val (.int (0 : Int32)), .unset]) rfl kk) ?_
    refine Go.st (S' := T13.setTop (mkF m 204 #[.val (.int pa), .val (.int pc), .val (.int ps), .val (.int pl), .val (.int po), .val (.int pm), .val (.ref b1), .val (.int st), .val (.int ln), .val (.int ot), .val (.int ol), .val (.int (0 : Int32)), .unset] [(.ref b1)])) (fun _ kk => XS.aload X13.here hx rfl (hb hby at_202) rfl rfl kk) ?_
    refine Go.st (S' := T13.setTop (mkF m 206 #[.val (.int pa), .val (.int pc), .val (.int ps), .val (.int pl), .val (.int po), .val (.int pm), .val (.ref b1), .val (.int st), .val (.int ln), .val (.int ot), .val (.int ol), .val (.int (0 : Int32)), .unset] [(.int st), (.ref b1)])) (fun _ kk => XS.iload X13.here hx rfl (hb hby at_204) rfl kk) ?_
    refine Go.st (S' := T13.setTop (mkF m 208 #[.val (.int pa), .val (.int pc), .val (.int ps), .val (.int pl), .val (.int po), .val (.int pm), .val (.ref b1), .val (.int st), .val (.int ln), .val (.int ot), .val (.int ol), .val (.int (0 : Int32)), .unset] [(.int st), (.int st), (.ref b1)])) (fun _ kk => XS.iload X13.here hx rfl (hb hby at_206) rfl kk) ?_
    refine Go.st (S' := T13.setTop (mkF m 210 #[.val (.int pa), .val (.int pc), .val (.int ps), .val (.int pl), .val (.int po), .val (.int pm), .val (.ref b1), .val (.int st), .val (.int ln), .val (.int ot), .val (.int ol), .val (.int (0 : Int32)), .unset] [(.int ln), (.int st), (.int st), (.ref b1)])) (fun _ kk => XS.iload X13.here hx rfl (hb hby at_208) rfl kk) ?_
    refine Go.st (S' := T13.setTop (mkF m 211 #[.val (.int pa), .val (.int pc), .val (.int ps), .val (.int pl), .val (.int po), .val (.int pm), .val (.ref b1), .val (.int st), .val (.int ln), .val (.int ot), .val (.int ol), .val (.int (0 : Int32)), .unset] [(.int (st + ln)), (.int st), (.ref b1)])) (fun _ kk => XS.iadd X13.here hx rfl (hb hby at_210) rfl kk) ?_
    refine Go.st (S' := T13.setTop (mkF m 213 #[.val (.int pa), .val (.int pc), .val (.int ps), .val (.int pl), .val (.int po), .val (.int pm), .val (.ref b1), .val (.int st), .val (.int ln), .val (.int ot), .val (.int ol), .val (.int (0 : Int32)), .unset] [(.int ot), (.int (st + ln)), (.int st), (.ref b1)])) (fun _ kk => XS.iload X13.here hx rfl (hb hby at_211) rfl kk) ?_
    refine Go.st (S' := T13.setTop (mkF m 215 #[.val (.int pa), .val (.int pc), .val (.int ps), .val (.int pl), .val (.int po), .val (.int pm), .val (.ref b1), .val (.int st), .val (.int ln), .val (.int ot), .val (.int ol), .val (.int (0 : Int32)), .unset] [(.int ot), (.int ot), (.int (st + ln)), (.int st), (.ref b1)])) (fun _ kk => XS.iload X13.here hx rfl (hb hby at_213) rfl kk) ?_
    refine Go.st (S' := T13.setTop (mkF m 217 #[.val (.int pa), .val (.int pc), .val (.int ps), .val (.int pl), .val (.int po), .val (.int pm), .val (.ref b1), .val (.int st), .val (.int ln), .val (.int ot), .val (.int ol), .val (.int (0 : Int32)), .unset] [(.int ol), (.int ot), (.int ot), (.int (st + ln)), (.int st), (.ref b1)])) (fun _ kk => XS.iload X13.here hx rfl (hb hby at_215) rfl kk) ?_
    refine Go.st (S' := T13.setTop (mkF m 218 #[.val (.int pa), .val (.int pc), .val (.int ps), .val (.int pl), .val (.int po), .val (.int pm), .val (.ref b1), .val (.int st), .val (.int ln), .val (.int ot), .val (.int ol), .val (.int (0 : Int32)), .unset] [(.int (ot + ol)), (.int ot), (.int (st + ln)), (.int st), (.ref b1)])) (fun _ kk => XS.iadd X13.here hx rfl (hb hby at_217) rfl kk) ?_
    obtain ⟨_, _, ⟨T35, L35, k35, n35⟩, -, X35, ⟨Lc35, hQ35, l35, y35, z35⟩, st35⟩ := Jvm.LawKit.callS X13 hx (y := (⟨"com/example/grantbook/grantbook/licence/PlainXml", "sameBytes", "([BIIII)Z"⟩ : MethodName)) hown (mvT hZ (hw _ (List.mem_of_getElem? (i := 2) rfl))) (mvT hZ (hw _ (List.mem_of_getElem? (i := 3) rfl))) (mvT hZ (hw _ (List.mem_of_getElem? (i := 4) rfl))) (mvT hZ (hw _ (List.mem_of_getElem? (i := 5) rfl))) (by decide) (backOf (W := 0) (rmB l Z az hw [] b1 st (st + ln) ot (ot + ol) k1 bs h13 n0 Zs14 V_bs (by omega) (by omega) (by omega) (by omega) (by omega) (by omega)) hZ (hw _ (List.mem_of_getElem? (i := 5) rfl)) (hw _ (List.mem_of_getElem? (i := 4) rfl)) (by decide) (by decide)) (g := (mkF m 218 #[.val (.int pa), .val (.int pc), .val (.int ps), .val (.int pl), .val (.int po), .val (.int pm), .val (.ref b1), .val (.int st), .val (.int ln), .val (.int ot), .val (.int ol), .val (.int (0 : Int32)), .unset] [(.int (ot + ol)), (.int ot), (.int (st + ln)), (.int st), (.ref b1)])) rfl (by rw [hml]; rfl) (argsL := [(.ref b1), (.int st), (.int (st + ln)), (.int ot), (.int (ot + ol))]) (rest := []) (lenOf pd_0 rfl) rfl (by show 2 * 0 + _ ≤ _; exact Nat.le_of_eq rfl) (hb hby at_218) (fun _ _ => ⟨rfl, e13, (by decide : 1 + 0 ≤ _), (by decide : 6 + 0 ≤ _)⟩)
    dsimp only [Pt.U, Pt.locs, Pt.cells, Pt.slots] at X35 l35 y35 z35 st35 hQ35
    subst l35 y35 z35
    obtain ⟨r, rfl, N35q, e35, r1, r2⟩ := hQ35
    have N35 := Fr.app N13 N35q
    rw [show (st + ln).toInt - st.toInt = ln.toInt from by omega, show (ot + ol).toInt - ot.toInt = ol.toInt from by omega] at r2
    have hr0 : r = (0 : Int32) := r1.resolve_right (fun q => by
      exact hc15 (Int32.toInt_inj.mp (r2.mp q).1))
    subst hr0
    refine Go.st (S' := T35.setTop (mkF m 221 #[.val (.int pa), .val (.int pc), .val (.int ps), .val (.int pl), .val (.int po), .val (.int pm), .val (.ref b1), .val (.int st), .val (.int ln), .val (.int ot), .val (.int ol), .val (.int (0 : Int32)), .unset] [(.int (0 : Int32))])) st35 ?_
    refine Go.st (S' := T35.setTop (mkF m 223 #[.val (.int pa), .val (.int pc), .val (.int ps), .val (.int pl), .val (.int po), .val (.int pm), .val (.ref b1), .val (.int st), .val (.int ln), .val (.int ot), .val (.int ol), .val (.int (0 : Int32)), .val (.int (0 : Int32))] [])) (fun _ kk => XS.istore X35.here hx rfl (hb hby at_221) rfl (l' := #[.val (.int pa), .val (.int pc), .val (.int ps), .val (.int pl), .val (.int po), .val (.int pm), .val (.ref b1), .val (.int st), .val (.int ln), .val (.int ot), .val (.int ol), .val (.int (0 : Int32)), .val (.int (0 : Int32))]) rfl kk) ?_
    refine Go.st (S' := T35.setTop (mkF m 225 #[.val (.int pa), .val (.int pc), .val (.int ps), .val (.int pl), .val (.int po), .val (.int pm), .val (.ref b1), .val (.int st), .val (.int ln), .val (.int ot), .val (.int ol), .val (.int (0 : Int32)), .val (.int (0 : Int32))] [(.int (0 : Int32))])) (fun _ kk => XS.iload X35.here hx rfl (hb hby at_223) rfl kk) ?_
    refine Go.st (S' := T35.setTop (mkF m 227 #[.val (.int pa), .val (.int pc), .val (.int ps), .val (.int pl), .val (.int po), .val (.int pm), .val (.ref b1), .val (.int st), .val (.int ln), .val (.int ot), .val (.int ol), .val (.int (0 : Int32)), .val (.int (0 : Int32))] [(.int (0 : Int32)), (.int (0 : Int32))])) (fun _ kk => XS.iload X35.here hx rfl (hb hby at_225) rfl kk) ?_
    refine Go.st (S' := T35.setTop (mkF m 230 #[.val (.int pa), .val (.int pc), .val (.int ps), .val (.int pl), .val (.int po), .val (.int pm), .val (.ref b1), .val (.int st), .val (.int ln), .val (.int ot), .val (.int ol), .val (.int (0 : Int32)), .val (.int (0 : Int32))] [])) (fun _ kk => XS.icmpNo X35.here hx rfl (hb hby at_227) rfl (teq (by decide : (0 : Int32) = (0 : Int32))).2 kk) ?_
    refine Go.st (S' := T35.setTop (mkF m 231 #[.val (.int pa), .val (.int pc), .val (.int ps), .val (.int pl), .val (.int po), .val (.int pm), .val (.ref b1), .val (.int st), .val (.int ln), .val (.int ot), .val (.int ol), .val (.int (0 : Int32)), .val (.int (0 : Int32))] [(.int (1 : Int32))])) (fun _ kk => XS.iconst X35.here hx rfl (hb hby at_230) kk) ?_
    refine Go.st (S' := T35.setTop (mkF m 235 #[.val (.int pa), .val (.int pc), .val (.int ps), .val (.int pl), .val (.int po), .val (.int pm), .val (.ref b1), .val (.int st), .val (.int ln), .val (.int ot), .val (.int ol), .val (.int (0 : Int32)), .val (.int (0 : Int32))] [(.int (1 : Int32))])) (fun _ kk => XS.goto X35.here hx rfl (pc0 := 231) (pc' := 235) rfl (hb hby at_231) (by decide) (by decide) kk) ?_
    exact Go.retN X35 hx hlk (t := .boolean) Bd.returns (by simp) (hb hby at_235) (⟨rfl, N35⟩) (by decide) (by decide)
set_option maxRecDepth 65536 in
set_option maxHeartbeats 40000000 in
theorem comes_1 {Post : Tables → Env → Array Value → State → Outcome → State → Prop} (hpost : ∀ tb e args s v u, (limb_1_1.after args s (.returned v) u = true ∧ limb_1_2.after args s (.returned v) u = true ∧ True) → FrameEnd s (.returned v) u (Jvm.fieldLocs frame_1_writes args s ++ Jvm.arrayLocs frame_1_arrays args s ++ Jvm.staticLocs frame_1_statics s) 16 128 → Post tb e args s (.returned v) u) :
    ArmFor flags0 classFile x code maxLocals ret World_1 tables_1 room_1 Calls_1 rest_1 Pre_1 Post := by
  intro l hfl _ _ p e ha hc hk s m args below hf hA hF happ hP
  obtain ⟨hcalls, hrest, hpre⟩ := hP
  obtain ⟨-, -, -, hnamed, -, -, -, hat⟩ := (Spec.applies_iff hf).mp happ
  obtain ⟨hg, hn⟩ := and_e (Cond.before_iff.mp (show (Jvm.Cond.and given_1 narrow_1).before args s = true from hpre))
  obtain ⟨g0, gr0⟩ := and_e hg
  obtain ⟨ga0, gr1⟩ := and_e gr0
  obtain ⟨ga1, gr2⟩ := and_e gr1
  obtain ⟨ga2, gr3⟩ := and_e gr2
  obtain ⟨ga3, gr4⟩ := and_e gr3
  obtain ⟨ga4, gr5⟩ := and_e gr4
  have ga5 := gr5
  obtain ⟨w0, w1, w2, w3, w4, w5, rfl⟩ : ∃ w0 w1 w2 w3 w4 w5 : Value, args = #[w0, w1, w2, w3, w4, w5] := by
    have hs : args.size = 6 := by simpa [Cond.value, given_1] using g0
    obtain ⟨L⟩ := args
    match L, hs with
    | [w0, w1, w2, w3, w4, w5], _ => exact ⟨w0, w1, w2, w3, w4, w5, rfl⟩
  have hw := fun d (hd : d ∈ tables_1) => atoms_spec (ws := Jvm.Cond.code x code maxLocals ret :: tables_1) hat d (List.mem_cons_of_mem _ hd)
  have hfit : Fit s := fun {y c} hc i hi => by
    obtain ⟨ha, rfl⟩ := Array.getElem?_eq_some_iff.mp hc
    have q := List.all_eq_true.mp ((Array.all_eq_true_iff_forall_mem.mp hF) _ (Array.getElem_mem ha)) i (List.mem_range.mpr hi)
    simpa [Array.getElem?_eq_getElem hi] using q
  obtain ⟨i0, ei0⟩ := is_v ga0
  obtain rfl : w0 = (.int i0) := Option.some.inj ei0
  obtain ⟨i1, ei1⟩ := is_v ga1
  obtain rfl : w1 = (.int i1) := Option.some.inj ei1
  obtain ⟨i2, ei2⟩ := is_v ga2
  obtain rfl : w2 = (.int i2) := Option.some.inj ei2
  obtain ⟨i3, ei3⟩ := is_v ga3
  obtain rfl : w3 = (.int i3) := Option.some.inj ei3
  obtain ⟨i4, ei4⟩ := is_v ga4
  obtain rfl : w4 = (.int i4) := Option.some.inj ei4
  obtain ⟨i5, ei5⟩ := is_v ga5
  obtain rfl : w5 = (.int i5) := Option.some.inj ei5
  obtain ⟨n, o, h1, h2, h3, _, L, rfl, ⟨rfl, N⟩, hq⟩ := rm0 l s _ hw tables_1 i0 i1 i2 i3 i4 i5 s.heap s.heap.size (Nat.le_refl _) p e ha hc hk s m _ below hf ((Spec.applies_iff_loose hf).mp happ).1 ⟨rfl, State.Warmed39.refl s, rfl⟩ trivial
  refine ⟨n, _, h1, h2, h3, hpost _ _ _ _ _ _ ⟨Cond.after_iff.mpr rfl, Cond.after_iff.mpr (eq_i res_at (Term.int_eval (1)) rfl), trivial⟩ ⟨hq.1, hq.2.1, (hq.2.2.sift fun y hy => Or.inr (N y hy)).mono (by decide) (by decide)⟩⟩
theorem main_1_1 : Claimed_1_1 := comes_1 fun _ _ _ _ _ _ h hF => ⟨h.1, hF⟩
theorem main_1_2 : Claimed_1_2 := comes_1 fun _ _ _ _ _ _ h hF => ⟨h.2.1, hF⟩
end Jvm.Pilot.@@N@@
namespace Jvm.Pilot.@@N@@
open Jvm Jvm.ClassFile Sem Op Lib Jvm.Free Jvm.Stand Jvm.Pilot.@@N@@.Jvm.D
/-! MADE BY PROGRAM (witnessworld.py) out of the Statement's table words and the real class files: 9 classes; the members and pool entries that the words name. The judged class is class 1, her method 1. -/
namespace start1
open Jvm.ClassFile
def u (s : String) : CpInfo := .utf8 (stringToUtf16 s)
/-- a pool by its gaps: so many unusable entries, then the entry; so many at the end -/
def gap : Nat → List CpInfo → List CpInfo
  | 0, r => r
  | n + 1, r => .unusable :: gap n r
def poolList (es : List (Nat × CpInfo)) (last : Nat) : List CpInfo := es.foldr (fun e r => gap e.1 (e.2 :: r)) (gap last [])
def pool (es : List (Nat × CpInfo)) (last : Nat) : Array CpInfo := ⟨poolList es last⟩
def fileOf (pool : Array CpInfo) (this : Nat) (attrs : Array Attribute := #[]) (ms : Array MethodInfo := #[]) (fl : Nat := 33) (sup : Nat := 0) (ifs : Array Nat := #[]) (fds : Array FieldInfo := #[]) : ClassFile where
  minorVersion := 0
  majorVersion := 65
  constantPool := pool
  accessFlags := fl
  thisClass := this
  superClass := sup
  interfaces := ifs
  fields := fds
  methods := ms
  attributes := attrs
def plain (name : String) (sup : Option ClassId) : Class where
  name := name
  kind := .ordinary
  loader := none
  accessFlags := 33
  super := sup
  interfaces := #[]
  cf := none
  fields := #[]
  methods := #[]
  instanceTypes := #[]
  staticTypes := #[]
  resolved := #[]
  callSites := []
  init := .initialized
  statics := none
  mirror := none

def pool0 : Array CpInfo := pool [(5, u "<init>"), (0, u "()V"), (1, .class_ 10), (1, u "java/lang/Object")] 113

def k0m0 : Method := { name := "<init>", desc := "()V", sig := { parameters := [], returnType := none }, accessFlags := 1, code := none }
/-- java/lang/Object -/
def k0 : Class := { plain "java/lang/Object" none with
  accessFlags := 33
  interfaces := #[]
  cf := some (fileOf pool0 8 #[] #[{ accessFlags := 1, nameIndex := 5, descriptorIndex := 6, attributes := #[] }] 33 0 #[] #[])
  fields := #[]
  methods := #[k0m0]
  instanceTypes := #[]
  staticTypes := #[]
  resolved := Array.replicate 124 none
  statics := none }

def pool1 : Array CpInfo := pool [(2, .class_ 4), (1, u "java/lang/Object"), (0, u "<init>"), (0, u "()V"), (0, .integer 2147483647), (0, .methodref 9 10), (0, .class_ 11), (0, .nameAndType 12 13), (0, u "com/example/grantbook/grantbook/licence/PlainXmlSameBytesPinLaw"), (0, u "eqAt"), (0, u "([BIIII)Z"), (0, .methodref 15 16), (0, .class_ 17), (0, .nameAndType 18 13), (0, u "com/example/grantbook/grantbook/licence/PlainXml"), (0, u "sameBytes"), (2, u "law"), (0, u "(IIIIII)Z")] 5

def k1m0 : Method := { name := "<init>", desc := "()V", sig := { parameters := [], returnType := none }, accessFlags := 1, code := none }
def k1c1 : Code := { maxStack := 6, maxLocals := 13, code := code, exceptionTable := #[], attributes := #[] }
def k1m1 : Method := { name := "law", desc := "(IIIIII)Z", sig := { parameters := [.int, .int, .int, .int, .int, .int], returnType := some .boolean }, accessFlags := 9, code := some k1c1 }
def k1c2 : Code := { maxStack := 4, maxLocals := 5, code := method_3_code, exceptionTable := #[], attributes := #[] }
def k1m2 : Method := { name := "eqAt", desc := "([BIIII)Z", sig := { parameters := [(.array .byte), .int, .int, .int, .int], returnType := some .boolean }, accessFlags := 10, code := some k1c2 }
/-- com/example/grantbook/grantbook/licence/PlainXmlSameBytesPinLaw -/
def k1 : Class := { plain "com/example/grantbook/grantbook/licence/PlainXmlSameBytesPinLaw" (some 0) with
  accessFlags := 49
  interfaces := #[]
  cf := some (fileOf pool1 9 #[] #[{ accessFlags := 1, nameIndex := 5, descriptorIndex := 6, attributes := #[] }, { accessFlags := 9, nameIndex := 21, descriptorIndex := 22, attributes := #[] }, { accessFlags := 10, nameIndex := 12, descriptorIndex := 13, attributes := #[] }] 49 2 #[] #[])
  fields := #[]
  methods := #[k1m0, k1m1, k1m2]
  instanceTypes := #[]
  staticTypes := #[]
  resolved := Array.replicate 28 none
  statics := none }

def pool2 : Array CpInfo := pool [(2, .class_ 4), (1, u "java/lang/Object"), (6, .class_ 13), (1, u "com/example/grantbook/grantbook/licence/PlainXml"), (0, u "prefixes"), (0, u "Ljava/util/List;"), (2, u "uris"), (2, u "open"), (2, u "keptNames"), (2, u "bytes"), (0, u "[B"), (2, u "handler"), (0, u "Lorg/xml/sax/ContentHandler;"), (7, u "attributes"), (0, u "Lcom/example/grantbook/grantbook/licence/PlainAttributes;"), (10, .class_ 53), (0, u "com/example/grantbook/grantbook/licence/PlainXml$NotPlain"), (66, u "at"), (0, u "I"), (93, .class_ 216), (0, u "com/example/grantbook/grantbook/licence/PlainXml$OpenElement"), (1, .class_ 220), (1, u "com/example/grantbook/grantbook/licence/PlainXml$ElementName"), (1, u "Ljava/lang/String;"), (50, u "sameBytes"), (0, u "([BIIII)Z"), (82, u "KINDS"), (4, u "MOST_ATTRIBUTES"), (2, u "LONGEST_NAME"), (1, u "MOST_KEPT_NAMES"), (1, u "XMLNS"), (0, u "COMMENT"), (0, u "NAME_START"), (1, u "NAME_PART"), (1, u "SPACE"), (1, u "STOPS_TEXT"), (1, u "STOPS_COMMENT"), (0, u "STOPS_VALUE")] 22

def k2c0 : Code := { maxStack := 4, maxLocals := 7, code := prog_22_method_22_code, exceptionTable := #[], attributes := #[] }
def k2m0 : Method := { name := "sameBytes", desc := "([BIIII)Z", sig := { parameters := [(.array .byte), .int, .int, .int, .int], returnType := some .boolean }, accessFlags := 8, code := some k2c0 }
/-- com/example/grantbook/grantbook/licence/PlainXml -/
def k2 : Class := { plain "com/example/grantbook/grantbook/licence/PlainXml" (some 0) with
  accessFlags := 48
  interfaces := #[]
  cf := some (fileOf pool2 11 #[.nestMembers #[52, 215, 218]] #[{ accessFlags := 8, nameIndex := 273, descriptorIndex := 274, attributes := #[] }] 48 2 #[] #[{ accessFlags := 26, nameIndex := 362, descriptorIndex := 121, attributes := #[] }, { accessFlags := 26, nameIndex := 365, descriptorIndex := 121, attributes := #[] }, { accessFlags := 26, nameIndex := 367, descriptorIndex := 121, attributes := #[] }, { accessFlags := 26, nameIndex := 369, descriptorIndex := 222, attributes := #[] }, { accessFlags := 26, nameIndex := 370, descriptorIndex := 222, attributes := #[] }, { accessFlags := 26, nameIndex := 371, descriptorIndex := 121, attributes := #[] }, { accessFlags := 26, nameIndex := 373, descriptorIndex := 121, attributes := #[] }, { accessFlags := 26, nameIndex := 375, descriptorIndex := 121, attributes := #[] }, { accessFlags := 26, nameIndex := 377, descriptorIndex := 121, attributes := #[] }, { accessFlags := 26, nameIndex := 379, descriptorIndex := 121, attributes := #[] }, { accessFlags := 26, nameIndex := 380, descriptorIndex := 121, attributes := #[] }, { accessFlags := 26, nameIndex := 357, descriptorIndex := 28, attributes := #[] }, { accessFlags := 18, nameIndex := 27, descriptorIndex := 28, attributes := #[] }, { accessFlags := 18, nameIndex := 31, descriptorIndex := 32, attributes := #[] }, { accessFlags := 2, nameIndex := 120, descriptorIndex := 121, attributes := #[] }, { accessFlags := 18, nameIndex := 14, descriptorIndex := 15, attributes := #[] }, { accessFlags := 18, nameIndex := 18, descriptorIndex := 15, attributes := #[] }, { accessFlags := 18, nameIndex := 21, descriptorIndex := 15, attributes := #[] }, { accessFlags := 18, nameIndex := 24, descriptorIndex := 15, attributes := #[] }, { accessFlags := 18, nameIndex := 40, descriptorIndex := 41, attributes := #[] }])
  fields := #[{ name := "MOST_ATTRIBUTES", type := .int, accessFlags := 26, slot := 0, constantValue := 0 }, { name := "LONGEST_NAME", type := .int, accessFlags := 26, slot := 1, constantValue := 0 }, { name := "MOST_KEPT_NAMES", type := .int, accessFlags := 26, slot := 2, constantValue := 0 }, { name := "XMLNS", type := (.object "java/lang/String"), accessFlags := 26, slot := 3, constantValue := 0 }, { name := "COMMENT", type := (.object "java/lang/String"), accessFlags := 26, slot := 4, constantValue := 0 }, { name := "NAME_START", type := .int, accessFlags := 26, slot := 5, constantValue := 0 }, { name := "NAME_PART", type := .int, accessFlags := 26, slot := 6, constantValue := 0 }, { name := "SPACE", type := .int, accessFlags := 26, slot := 7, constantValue := 0 }, { name := "STOPS_TEXT", type := .int, accessFlags := 26, slot := 8, constantValue := 0 }, { name := "STOPS_COMMENT", type := .int, accessFlags := 26, slot := 9, constantValue := 0 }, { name := "STOPS_VALUE", type := .int, accessFlags := 26, slot := 10, constantValue := 0 }, { name := "KINDS", type := (.array .byte), accessFlags := 26, slot := 11, constantValue := 0 }, { name := "bytes", type := (.array .byte), accessFlags := 18, slot := 0, constantValue := 0 }, { name := "handler", type := (.object "org/xml/sax/ContentHandler"), accessFlags := 18, slot := 1, constantValue := 0 }, { name := "at", type := .int, accessFlags := 2, slot := 2, constantValue := 0 }, { name := "prefixes", type := (.object "java/util/List"), accessFlags := 18, slot := 3, constantValue := 0 }, { name := "uris", type := (.object "java/util/List"), accessFlags := 18, slot := 4, constantValue := 0 }, { name := "open", type := (.object "java/util/List"), accessFlags := 18, slot := 5, constantValue := 0 }, { name := "keptNames", type := (.object "java/util/List"), accessFlags := 18, slot := 6, constantValue := 0 }, { name := "attributes", type := (.object "com/example/grantbook/grantbook/licence/PlainAttributes"), accessFlags := 18, slot := 7, constantValue := 0 }]
  methods := #[k2m0]
  instanceTypes := #[(.array .byte), (.object "org/xml/sax/ContentHandler"), .int, (.object "java/util/List"), (.object "java/util/List"), (.object "java/util/List"), (.object "java/util/List"), (.object "com/example/grantbook/grantbook/licence/PlainAttributes")]
  staticTypes := #[.int, .int, .int, (.object "java/lang/String"), (.object "java/lang/String"), .int, .int, .int, .int, .int, .int, (.array .byte)]
  resolved := Array.replicate 403 none
  statics := none }

def pool3 : Array CpInfo := pool [(1, u "java/lang/Cloneable"), (0, .class_ 1), (0, u "java/lang/Object"), (0, .class_ 3)] 3

/-- java/lang/Cloneable -/
def k3 : Class := { plain "java/lang/Cloneable" (some 0) with
  accessFlags := 1537
  interfaces := #[]
  cf := some (fileOf pool3 2 #[] #[] 1537 4 #[] #[])
  fields := #[]
  methods := #[]
  instanceTypes := #[]
  staticTypes := #[]
  resolved := Array.replicate 8 none
  statics := none }

def pool4 : Array CpInfo := pool [(1, u "java/io/Serializable"), (0, .class_ 1), (0, u "java/lang/Object"), (0, .class_ 3)] 3

/-- java/io/Serializable -/
def k4 : Class := { plain "java/io/Serializable" (some 0) with
  accessFlags := 1537
  interfaces := #[]
  cf := some (fileOf pool4 2 #[] #[] 1537 4 #[] #[])
  fields := #[]
  methods := #[]
  instanceTypes := #[]
  staticTypes := #[]
  resolved := Array.replicate 8 none
  statics := none }

/-- the primitive byte -/
def k5 : Class := { plain "byte" none with kind := .primitive 'B', accessFlags := 0x411 }
/-- [B -/
def k6 : Class := { plain "[B" (some 0) with kind := .array 5 .byte, interfaces := #[3, 4], accessFlags := 1041 }

/-- the primitive int -/
def k7 : Class := { plain "int" none with kind := .primitive 'I', accessFlags := 0x411 }
/-- [I -/
def k8 : Class := { plain "[I" (some 0) with kind := .array 7 .int, interfaces := #[3, 4], accessFlags := 1041 }

def heap : Heap := #[]
def classes : Array Class := #[k0, k1, k2, k3, k4, k5, k6, k7, k8]
def interned : List (Array UInt16 × Addr) := []
def slotsUsed : Nat := 0
def theMethod : MethodId := ⟨1, 1⟩
def args0 : Array Value := #[.int 3, .int 5, .int 1, .int 2, .int 3, .int 2]
def aboutOver (below : List Frame) : State where
  vm := { classes := classes, interned := interned.toArray }
  heap := heap
  slotsUsed := slotsUsed
  threads := #[{ frames := .invoking theMethod args0 :: below }]
def below0 : List Frame := [.native { method := ⟨0, 0⟩, args := #[] }]
def about1 : State := aboutOver below0
def p0 : Program := .bare "" "" ""
def e0 : Env := launch0.env 0 0 0
theorem w_frames : about1.frames = Frame.invoking theMethod args0 :: below0 := rfl
set_option maxRecDepth 65536 in
theorem w_args : argsFit about1.vm theMethod args0 = true := by decide +kernel
set_option maxRecDepth 65536 in
theorem w_heap : heapFits about1 = true := by decide +kernel
set_option maxRecDepth 65536 in
theorem w_runnable : about1.curStatus? = some .runnable := by decide +kernel
set_option maxRecDepth 65536 in
theorem w_alone : about1.alone = true := by decide +kernel
set_option maxRecDepth 65536 in
theorem w_named : about1.methodNamed? x = some theMethod := by decide +kernel
set_option maxRecDepth 65536 in
theorem w_hears : about1.hears theMethod below0 = true := by decide +kernel
set_option maxRecDepth 65536 in
theorem w_ripe : about1.ripe theMethod args0 below0 = true := by decide +kernel
theorem w_running : about1.status = .running := rfl
set_option maxRecDepth 65536 in
theorem w_room : about1.hasRoom e0.platform room_1 = true :=
  launch0.hasRoom_least _ room_1 (by decide +kernel) (by decide +kernel) (by decide +kernel) (by decide +kernel) (by decide +kernel) (by decide +kernel)
theorem allAtoms_all (ts : List Jvm.Cond) (a : Array Jvm.Value) (st : Jvm.State) : (allAtoms ts).before a st = ts.all (fun c => c.before a st) := by
  induction ts with
  | nil => rfl
  | cons c t ih =>
    show (Jvm.Cond.and c (allAtoms t)).before a st = _
    rw [Jvm.Cond.before_and, ih, List.all_cons]
def words1 : List Jvm.Cond := Jvm.Cond.code x code maxLocals ret :: tables_1
/-- a 'code' word, met by the world's own term for the bytes: nothing is compared byte by byte -/
theorem code_word {y : MethodName} {bytes : ByteArray} {mx : Nat} {rt : Option FieldType} {a : Array Value} {s : State} {m : MethodId} {meth : Method} {c : Code} (h1 : s.methodNamed? y = some m) (h2 : s.vm.method? m = some meth) (h3 : meth.code = some c) (h4 : c.code = bytes)
    (h5 : (c.maxLocals == mx && c.exceptionTable.isEmpty && decide (c.maxStack ≤ mostOperands) && decide (meth.sig.returnType = rt) && !meth.locks && decide (parseMethodDescriptor y.desc = some meth.sig)) = true) : (Jvm.Cond.code y bytes mx rt).before a s = true := by
  simp only [Bool.and_eq_true, beq_iff_eq, Bool.not_eq_true', decide_eq_true_eq] at h5
  obtain ⟨⟨⟨⟨⟨g1, g2⟩, g3⟩, g4⟩, g5⟩, g6⟩ := h5
  simp [Cond.before, Cond.holds, Cond.value, h1, h2, h3, h4, g1, g2, g3, g4, g5, g6]
def isCode : Jvm.Cond → Bool
  | .code _ _ _ _ => true
  | _ => false
theorem all_split {L : List Jvm.Cond} {P : Jvm.Cond → Bool} (h1 : L.all (fun c => isCode c || P c) = true) (h2 : ∀ c ∈ L.filter isCode, P c = true) : L.all P = true := by
  refine List.all_eq_true.mpr fun c hc => ?_
  have h := List.all_eq_true.mp h1 c hc
  rcases Bool.eq_false_or_eq_true (isCode c) with hi | hi
  · exact h2 c (List.mem_filter.mpr ⟨hc, hi⟩)
  · simpa [hi] using h
set_option maxRecDepth 65536 in
theorem w_c0 : (Jvm.Cond.code x code maxLocals ret).before args0 about1 = true := code_word (m := ⟨1, 1⟩) (meth := k1m1) (c := k1c1) (by decide +kernel) rfl rfl rfl (by decide +kernel)
set_option maxRecDepth 65536 in
theorem w_c1 : (Jvm.Cond.code ({ cls := "com/example/grantbook/grantbook/licence/PlainXml", name := "sameBytes", desc := "([BIIII)Z" } : Jvm.MethodName) prog_22_method_22_code (7 : Nat) (Option.some Jvm.ClassFile.FieldType.boolean)).before args0 about1 = true := code_word (m := ⟨2, 0⟩) (meth := k2m0) (c := k2c0) (by decide +kernel) rfl rfl rfl (by decide +kernel)
set_option maxRecDepth 65536 in
theorem w_c2 : (Jvm.Cond.code ({ cls := "com/example/grantbook/grantbook/licence/PlainXmlSameBytesPinLaw", name := "eqAt", desc := "([BIIII)Z" } : Jvm.MethodName) method_3_code (5 : Nat) (Option.some Jvm.ClassFile.FieldType.boolean)).before args0 about1 = true := code_word (m := ⟨1, 2⟩) (meth := k1m2) (c := k1c2) (by decide +kernel) rfl rfl rfl (by decide +kernel)
def codes1 : List Jvm.Cond := [Jvm.Cond.code x code maxLocals ret, Jvm.Cond.code ({ cls := "com/example/grantbook/grantbook/licence/PlainXml", name := "sameBytes", desc := "([BIIII)Z" } : Jvm.MethodName) prog_22_method_22_code (7 : Nat) (Option.some Jvm.ClassFile.FieldType.boolean), Jvm.Cond.code ({ cls := "com/example/grantbook/grantbook/licence/PlainXmlSameBytesPinLaw", name := "eqAt", desc := "([BIIII)Z" } : Jvm.MethodName) method_3_code (5 : Nat) (Option.some Jvm.ClassFile.FieldType.boolean)]
set_option maxRecDepth 65536 in
theorem codes_eq : words1.filter isCode = codes1 := rfl
theorem w_codes : ∀ c ∈ words1.filter isCode, c.before args0 about1 = true := by
  rw [codes_eq]
  intro c hc
  simp only [codes1, List.mem_cons, List.not_mem_nil, or_false] at hc
  rcases hc with rfl | rfl | rfl
  · exact w_c0
  · exact w_c1
  · exact w_c2
set_option maxRecDepth 65536 in
theorem w_t1 : words1.all (fun c => isCode c || c.before args0 about1) = true := by decide +kernel
theorem w_tables : (allAtoms (Jvm.Cond.code x code maxLocals ret :: tables_1)).before args0 about1 = true := by
  rw [allAtoms_all]
  show words1.all (fun c => c.before args0 about1) = true
  refine all_split ?_ w_codes
  rw [w_t1]
set_option maxRecDepth 65536 in
theorem w_case : (Jvm.Cond.and given_1 narrow_1).before args0 about1 = true := by decide +kernel
theorem w_applies : (headSpec (Jvm.Cond.code x code maxLocals ret :: tables_1) room_1).applies x e0.platform about1 = true :=
  (Spec.applies_iff w_frames).mpr ⟨w_running, w_runnable, w_alone, w_named, w_hears, w_ripe, w_room, w_tables⟩
theorem atStart : AtStart classFile x code maxLocals ret World_1 tables_1 room_1 Calls_1 rest_1 Pre_1 launch0 p0 e0 about1 theMethod args0 below0 :=
  ⟨lists_1, trivial, launch0.admits_env _ _ _, launch0.least_env, fairChoices_fair.cas, fairChoices_fair.clock, w_frames, w_args, w_heap, w_applies, trivial, trivial, w_case⟩
end start1
theorem witness_1 : WitnessClaimed_1 := ⟨start1.p0, start1.e0, start1.about1, start1.theMethod, start1.args0, start1.below0, start1.atStart⟩
end Jvm.Pilot.@@N@@
