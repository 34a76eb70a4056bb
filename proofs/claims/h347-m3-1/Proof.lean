import JvmDerived
import JvmDerived.Pilot.@@N@@Statement
import JvmDerived.Pilot.@@N@@Code
set_option linter.unusedVariables false
set_option linter.unusedSimpArgs false
namespace Jvm.Pilot.@@N@@
open Jvm Jvm.ClassFile Sem Op Lib Jvm.Free Jvm.Stand Jvm.LawKit Jvm.RoadKit Bundle Jvm.Pilot.@@N@@.Jvm.D
section OwnKit
variable {p : Program} {l : Launch} {e : Env} {R : Room} {s : State} {m : MethodId} {args : Array Value} {below : List Frame} {meth : Method} {c : Code} {T : State} {locs : List Loc} {cells slots ck sk : Nat} {S S' t : State} {Q : Option Value → Heap → List Loc → Prop}
/-- from S the run comes to a return of which Q is said -/
def Go (p : Program) (e : Env) (below : List Frame) (s : State) (Q : Option Value → Heap → List Loc → Prop) (ck sk : Nat) (S : State) : Prop :=
  ∃ s₂ o, Steps p.tables e below S s₂ ∧ s₂.status = .running ∧ Ended s₂ below o ∧ ∃ v L, o = .returned v ∧ Q v s₂.heap L ∧ FrameEnd s o s₂ L ck sk
theorem Go.st (h : ∀ t, Steps p.tables e below S' t → Steps p.tables e below S t) (k : Go p e below s Q ck sk S') : Go p e below s Q ck sk S := by
  obtain ⟨s₂, o, h1, r⟩ := k
  exact ⟨s₂, o, h _ h1, r⟩
theorem Go.tr (h : Steps p.tables e below S S') (k : Go p e below s Q ck sk S') : Go p e below s Q ck sk S := Go.st (fun _ q => h.trans q) k
theorem via (h : Steps p.tables e below S' t → Steps p.tables e below S t) (k : Steps p.tables e below S' t) : Steps p.tables e below S t := h k
theorem Go.retW (X : Stand p l e R s m args below meth c T locs cells slots) (hx : p.tables.exec = Jvm.exec) (hlk : meth.locks = false) {pc : Nat} {Ls : Array Slot} {w : Value} {ty : FieldType} {i : Instr} {rest : List Value} (hret : meth.sig.returnType = some ty) (hn : narrow ty w = w)
    (hi : (i = .ireturn ∧ (ty = .int ∨ ty = .boolean ∨ ty = .byte ∨ ty = .char ∨ ty = .short) ∧ ∃ z, w = .int z) ∨ (i = .lreturn ∧ ty = .long ∧ ∃ z, w = .long z) ∨ (i = .dreturn ∧ ty = .double ∧ ∃ z, w = .double z) ∨ (i = .freturn ∧ ty = .float ∧ ∃ z, w = .float z) ∨ (i = .areturn ∧ ty.isReference = true ∧ w.isRef = true))
    (hd : decode c.code pc = .ok (i, 1)) (hQ : Q (some w) T.heap locs) (hc : cells ≤ ck) (hs : slots ≤ sk) : Go p e below s Q ck sk (T.setTop (mkF m pc Ls (w :: rest))) := by
  obtain ⟨fs, hr, hrun, hended, hW, hsame⟩ := X.leave (v := some w) (fun h => by rw [hret] at h; cases h)
  exact ⟨_, _, retOut X hx hret hn hi hd hr, hrun, hended, _, _, rfl, hQ, ⟨_, rfl⟩, hW, hsame.mono hc hs⟩
theorem Go.retI (X : Stand p l e R s m args below meth c T locs cells slots) (hx : p.tables.exec = Jvm.exec) (hlk : meth.locks = false) {pc : Nat} {Ls : Array Slot} {z : Int32} {rest : List Value} (hret : meth.sig.returnType = some .int) (hd : decode c.code pc = .ok (.ireturn, 1)) (hQ : Q (some (.int z)) T.heap locs) (hc : cells ≤ ck) (hs : slots ≤ sk) : Go p e below s Q ck sk (T.setTop (mkF m pc Ls (.int z :: rest))) :=
  Go.retW X hx hlk hret rfl (Or.inl ⟨rfl, Or.inl rfl, _, rfl⟩) hd hQ hc hs
theorem Go.retJ (X : Stand p l e R s m args below meth c T locs cells slots) (hx : p.tables.exec = Jvm.exec) (hlk : meth.locks = false) {pc : Nat} {Ls : Array Slot} {z : Int64} {rest : List Value} (hret : meth.sig.returnType = some .long) (hd : decode c.code pc = .ok (.lreturn, 1)) (hQ : Q (some (.long z)) T.heap locs) (hc : cells ≤ ck) (hs : slots ≤ sk) : Go p e below s Q ck sk (T.setTop (mkF m pc Ls (.long z :: rest))) :=
  Go.retW X hx hlk hret rfl (Or.inr (Or.inl ⟨rfl, rfl, _, rfl⟩)) hd hQ hc hs
theorem Go.retA (X : Stand p l e R s m args below meth c T locs cells slots) (hx : p.tables.exec = Jvm.exec) (hlk : meth.locks = false) {pc : Nat} {Ls : Array Slot} {w : Value} {ty : FieldType} {rest : List Value} (hret : meth.sig.returnType = some ty) (ht : ty.isReference = true) (hw : w.isRef = true) (hd : decode c.code pc = .ok (.areturn, 1)) (hQ : Q (some w) T.heap locs) (hc : cells ≤ ck) (hs : slots ≤ sk) : Go p e below s Q ck sk (T.setTop (mkF m pc Ls (w :: rest))) :=
  Go.retW X hx hlk hret (by cases ty <;> first | (cases ht; done) | (cases w <;> first | rfl | cases hw)) (Or.inr (Or.inr (Or.inr (Or.inr ⟨rfl, ht, hw⟩)))) hd hQ hc hs
theorem Go.retN (X : Stand p l e R s m args below meth c T locs cells slots) (hx : p.tables.exec = Jvm.exec) (hlk : meth.locks = false) {pc : Nat} {Ls : Array Slot} {z : Int32} {t : FieldType} {rest : List Value} (hret : meth.sig.returnType = some t) (ht : t = .boolean ∨ t = .byte ∨ t = .char ∨ t = .short) (hd : decode c.code pc = .ok (.ireturn, 1)) (hQ : Q (some (.int (nar t z))) T.heap locs) (hc : cells ≤ ck) (hs : slots ≤ sk) : Go p e below s Q ck sk (T.setTop (mkF m pc Ls (.int z :: rest))) := by
  obtain ⟨fs, hr, hrun, hended, hW, hsame⟩ := X.leave (v := some (.int (nar t z))) (fun h => by rw [hret] at h; cases h)
  exact ⟨_, _, Jvm.RoadKit.retN X hx hret ht hd hr, hrun, hended, _, _, rfl, hQ, ⟨_, rfl⟩, hW, hsame.mono hc hs⟩
theorem Go.ret0 (X : Stand p l e R s m args below meth c T locs cells slots) (hx : p.tables.exec = Jvm.exec) (hlk : meth.locks = false) {pc : Nat} {Ls : Array Slot} (hret : meth.sig.returnType = none) (hd : decode c.code pc = .ok (.return_, 1)) (hQ : Q none T.heap locs) (hc : cells ≤ ck) (hs : slots ≤ sk) : Go p e below s Q ck sk (T.setTop (mkF m pc Ls [])) := by
  obtain ⟨fs, hr, hrun, hended, hW, hsame⟩ := X.leave (v := none) (fun _ => rfl)
  exact ⟨_, _, X.returnOut hx hret hd hr, hrun, hended, _, _, rfl, hQ, ⟨_, rfl⟩, hW, hsame.mono hc hs⟩
/-- what a body leaves that writes nothing -/
def PQ (w : Value) (n0 : Nat) (h0 : Heap) (v : Option Value) (h : Heap) (L : List Loc) : Prop := v = some w ∧ Fr n0 L ∧ h = h0
/-- what the law leaves -/
def LQ (n0 : Nat) (v : Option Value) (h : Heap) (L : List Loc) : Prop := v = some (.int 1) ∧ Fr n0 L
/-- the j-th of a list of ints -/
def bt (bs : List Int32) (j : Int32) : Int32 := bs.getD j.toNatClampNeg 0
theorem own_at {bs : List Int32} {c : Cell} {j : Int32} (H : Has c (bs.map .int) (.int 0)) (hin : ¬ (j < 0 ∨ c.slots.size ≤ j.toNatClampNeg)) : c.slots[j.toNatClampNeg]? = some (.int (bt bs j)) :=
  Has.at H hin (by unfold bt; simp only [List.getD, List.getElem?_map]; cases bs[j.toNatClampNeg]? <;> rfl)
theorem own_len {t : Term} {a : Addr} {cl : Cell} {n : Int32} (ev : t.eval args s none [] s = some (.ref a)) (ha : s.arrayAt? a = some cl) (h : (Cond.eq (.length t) (.int n)).value args s none s [] = some true) : cl.slots.size < 2 ^ 31 ∧ cl.slots.size.toInt32 = n := by
  by_cases q : cl.slots.size < 2 ^ 31
  · exact ⟨q, gotT (Cond.eq_ints (len_f ev ha q) (Term.int_eval n)) h⟩
  · exfalso
    simp [Cond.value, Term.eval, ev, ha, q] at h
theorem own_size {cl : Cell} {n : Int32} {k : Nat} (q : cl.slots.size < 2 ^ 31 ∧ cl.slots.size.toInt32 = n) (hk : n.toInt = k) : cl.slots.size = k := by
  have h := len_toInt q.1
  rw [q.2, hk] at h
  omega
end OwnKit

theorem pd_0 : parseMethodDescriptor "(I)Z" = some ⟨[.int], some .boolean⟩ := by decide +kernel
def f1 (p0 : Int32) : Int32 := (if p0 < (48 : Int32) then (0 : Int32) else (if (57 : Int32) < p0 then (0 : Int32) else (1 : Int32)))
theorem d1_0 : decode prog_23_method_18_code 0 = .ok (.iload_n 0, 1) := by decide +kernel
theorem d1_1 : decode prog_23_method_18_code 1 = .ok (.bipush 48, 2) := by decide +kernel
theorem d1_3 : decode prog_23_method_18_code 3 = .ok (.if_icmp .lt 13, 3) := by decide +kernel
theorem d1_6 : decode prog_23_method_18_code 6 = .ok (.iload_n 0, 1) := by decide +kernel
theorem d1_7 : decode prog_23_method_18_code 7 = .ok (.bipush 57, 2) := by decide +kernel
theorem d1_9 : decode prog_23_method_18_code 9 = .ok (.if_icmp .gt 7, 3) := by decide +kernel
theorem d1_12 : decode prog_23_method_18_code 12 = .ok (.iconst 1, 1) := by decide +kernel
theorem d1_13 : decode prog_23_method_18_code 13 = .ok (.goto 4, 3) := by decide +kernel
theorem d1_16 : decode prog_23_method_18_code 16 = .ok (.iconst 0, 1) := by decide +kernel
theorem d1_17 : decode prog_23_method_18_code 17 = .ok (.ireturn, 1) := by decide +kernel
theorem pn_0 : plainName "com/example/call_bundler/callbundler/http/HttpSyntax" = true := by first | (simp [plainName, overriddenIn]; done) | decide +kernel
theorem ef_1 (m : MethodId) (p0 : Int32) : entryFrame m #[(.int p0)] 1 = mkF m 0 #[.val (.int p0)] [] := by first | (simp [entryFrame, mkF, argsToLocals, Value.category]; done) | rfl
set_option maxRecDepth 65536 in
set_option maxHeartbeats 40000000 in
theorem rm1 (l : Launch) (Z : State) (a0 : Array Value) (hw : ∀ d ∈ tables_1, d.before a0 Z = true) (ws : List Jvm.Cond) (p0 : Int32)  (h0 : Heap) (n0 : Nat) (Z0 : n0 ≤ h0.size)  :
    MetFree l (⟨"com/example/call_bundler/callbundler/http/HttpSyntax", "isDigit", "(I)Z"⟩ : MethodName) (head1 (Jvm.Cond.code (⟨"com/example/call_bundler/callbundler/http/HttpSyntax", "isDigit", "(I)Z"⟩ : MethodName) prog_23_method_18_code 1 (some .boolean) :: ws) ({ frames := 0, cells := 0, slots := 0, locals := 0 } : Room)) (fun a U => a = #[(.int p0)] ∧ Z.Warmed39 U.vm ∧ U.heap = h0) (fun _ _ _ _ _ => True) (fun _ U o U' => ∃ v L, o = .returned v ∧ (PQ (.int (f1 p0)) n0 h0) v U'.heap L ∧ FrameEnd U o U' L ({ frames := 0, cells := 0, slots := 0, locals := 0 } : Room).cells ({ frames := 0, cells := 0, slots := 0, locals := 0 } : Room).slots) := by
  refine MetFree.of_bodySF (plainFor_of_name pn_0) hisR ?_
  intro p e s m args below meth c s₁ Bd hml0 hP hK
  obtain ⟨rfl, hZ, hh⟩ := hP
  have hx := Bd.exec
  have hby := Bd.bytes
  have hlk : meth.locks = false := Bd.notSynchronized
  have hml : c.maxLocals = 1 := hml0
  have hown : s.vm.findClass "com/example/call_bundler/callbundler/http/HttpSyntax" = some m.cls := findClass_of_methodNamed Bd.named
  have hnm := (name_of_methodNamed Bd.named Bd.method).1
  have X0 : Stand p l e ({ frames := 0, cells := 0, slots := 0, locals := 0 } : Room) s m #[(.int p0)] below meth c s₁ [] 0 0 := Stand.of_body Bd
  have e0 : s₁.heap = h0 := by rw [← hh, Bd.state]; rfl
  have N0 := Fr.nil n0
  show Go p e below s ((PQ (.int (f1 p0)) n0 h0)) ({ frames := 0, cells := 0, slots := 0, locals := 0 } : Room).cells ({ frames := 0, cells := 0, slots := 0, locals := 0 } : Room).slots (s₁.setTop (entryFrame m #[(.int p0)] 1))
  rw [ef_1 m p0]
  refine Go.st (S' := s₁.setTop (mkF m 1 #[.val (.int p0)] [(.int p0)])) (fun _ kk => XS.iloadN X0.here hx rfl (hb hby d1_0) rfl kk) ?_
  refine Go.st (S' := s₁.setTop (mkF m 3 #[.val (.int p0)] [(.int (48 : Int32)), (.int p0)])) (fun _ kk => XS.bipush X0.here hx rfl (hb hby d1_1) kk) ?_
  by_cases hc1 : p0 < (48 : Int32)
  · refine Go.st (S' := s₁.setTop (mkF m 16 #[.val (.int p0)] [])) (fun _ kk => XS.icmpYes X0.here hx rfl (pc0 := 3) (pc' := 16) rfl (hb hby d1_3) rfl (tlt hc1).1 (by decide) (by decide) kk) ?_
    refine Go.st (S' := s₁.setTop (mkF m 17 #[.val (.int p0)] [(.int (0 : Int32))])) (fun _ kk => XS.iconst X0.here hx rfl (hb hby d1_16) kk) ?_
    exact Go.retN X0 hx hlk (t := .boolean) Bd.returns (by simp) (hb hby d1_17) (⟨by rw [show f1 p0 = (0 : Int32) from by unfold f1; rw [if_pos hc1]]; rfl, N0, e0⟩) (by decide) (by decide)
  · refine Go.st (S' := s₁.setTop (mkF m 6 #[.val (.int p0)] [])) (fun _ kk => XS.icmpNo X0.here hx rfl (hb hby d1_3) rfl (flt hc1).1 kk) ?_
    refine Go.st (S' := s₁.setTop (mkF m 7 #[.val (.int p0)] [(.int p0)])) (fun _ kk => XS.iloadN X0.here hx rfl (hb hby d1_6) rfl kk) ?_
    refine Go.st (S' := s₁.setTop (mkF m 9 #[.val (.int p0)] [(.int (57 : Int32)), (.int p0)])) (fun _ kk => XS.bipush X0.here hx rfl (hb hby d1_7) kk) ?_
    by_cases hc2 : (57 : Int32) < p0
    · refine Go.st (S' := s₁.setTop (mkF m 16 #[.val (.int p0)] [])) (fun _ kk => XS.icmpYes X0.here hx rfl (pc0 := 9) (pc' := 16) rfl (hb hby d1_9) rfl (tlt hc2).2.2.1 (by decide) (by decide) kk) ?_
      refine Go.st (S' := s₁.setTop (mkF m 17 #[.val (.int p0)] [(.int (0 : Int32))])) (fun _ kk => XS.iconst X0.here hx rfl (hb hby d1_16) kk) ?_
      exact Go.retN X0 hx hlk (t := .boolean) Bd.returns (by simp) (hb hby d1_17) (⟨by rw [show f1 p0 = (0 : Int32) from by unfold f1; rw [if_neg hc1, if_pos hc2]]; rfl, N0, e0⟩) (by decide) (by decide)
    · refine Go.st (S' := s₁.setTop (mkF m 12 #[.val (.int p0)] [])) (fun _ kk => XS.icmpNo X0.here hx rfl (hb hby d1_9) rfl (flt hc2).2.2.1 kk) ?_
      refine Go.st (S' := s₁.setTop (mkF m 13 #[.val (.int p0)] [(.int (1 : Int32))])) (fun _ kk => XS.iconst X0.here hx rfl (hb hby d1_12) kk) ?_
      refine Go.st (S' := s₁.setTop (mkF m 17 #[.val (.int p0)] [(.int (1 : Int32))])) (fun _ kk => XS.goto X0.here hx rfl (pc0 := 13) (pc' := 17) rfl (hb hby d1_13) (by decide) (by decide) kk) ?_
      exact Go.retN X0 hx hlk (t := .boolean) Bd.returns (by simp) (hb hby d1_17) (⟨by rw [show f1 p0 = (1 : Int32) from by unfold f1; rw [if_neg hc1, if_neg hc2]]; rfl, N0, e0⟩) (by decide) (by decide)
theorem own_split (p : Int32) : (p &&& (-16 : Int32)) + (p &&& (15 : Int32)) = p := by
  apply Int32.toBitVec_inj.mp
  show (p.toBitVec &&& BitVec.ofInt 32 (-16)) + (p.toBitVec &&& 15#32) = p.toBitVec
  rw [BitVec.add_eq_or_of_and_eq_zero]
  · rw [← BitVec.and_or_distrib_left]
    have : (BitVec.ofInt 32 (-16) ||| 15#32) = BitVec.allOnes 32 := by decide
    rw [this, BitVec.and_allOnes]
  · have h : (p.toBitVec &&& BitVec.ofInt 32 (-16)) &&& (p.toBitVec &&& 15#32) = p.toBitVec &&& (BitVec.ofInt 32 (-16) &&& 15#32) := by
      rw [BitVec.and_assoc, ← BitVec.and_assoc (BitVec.ofInt 32 (-16)), BitVec.and_comm (BitVec.ofInt 32 (-16)) p.toBitVec, BitVec.and_assoc, ← BitVec.and_assoc, BitVec.and_self]
    rw [h, show (BitVec.ofInt 32 (-16) &&& 15#32) = 0#32 from by decide, BitVec.and_zero]
theorem own_digit (p : Int32) : f1 p = (if (p &&& (-16 : Int32)) = (48 : Int32) then (if (9 : Int32) < (p &&& (15 : Int32)) then (0 : Int32) else (1 : Int32)) else (0 : Int32)) := by
  have e1 : (p &&& (15 : Int32)).toInt = p.toInt % 16 := c_mask p 15 4 (by decide) (by decide)
  have e2 := c_iadd (p &&& (-16 : Int32)) (p &&& (15 : Int32))
  rw [own_split] at e2
  have e3 := (p &&& (-16 : Int32)).le_toInt
  have e4 := (p &&& (-16 : Int32)).toInt_lt
  have e5 := p.le_toInt
  have e6 := p.toInt_lt
  unfold f1
  simp only [Int32.lt_iff_toInt_lt, ← Int32.toInt_inj, Int32.reduceToInt]
  generalize (p &&& (-16 : Int32)).toInt = a at *
  generalize (p &&& (15 : Int32)).toInt = b at *
  generalize p.toInt = q at *
  simp only [Int.reducePow, Int.reduceNeg] at *
  split <;> split <;> (try split) <;> (try split) <;> (try rfl) <;> (exfalso; omega)
theorem pn_1 : plainName "com/example/call_bundler/callbundler/http/HttpSyntaxIsDigitPinLaw" = true := by first | (simp [plainName, overriddenIn]; done) | decide +kernel
theorem ef_0 (m : MethodId) (p0 : Int32) : entryFrame m #[(.int p0)] maxLocals = mkF m 0 #[.val (.int p0), .unset] [] := by first | (simp [entryFrame, mkF, argsToLocals, Value.category, maxLocals]; done) | rfl
set_option maxRecDepth 65536 in
set_option maxHeartbeats 40000000 in
theorem rm0 (l : Launch) (Z : State) (a0 : Array Value) (hw : ∀ d ∈ tables_1, d.before a0 Z = true) (ws : List Jvm.Cond) (p0 : Int32)  (h0 : Heap) (n0 : Nat) (Z0 : n0 ≤ h0.size)  :
    MetFree l x (head1 (Jvm.Cond.code x code maxLocals ret :: ws) room_1) (fun a U => a = #[(.int p0)] ∧ Z.Warmed39 U.vm ∧ U.heap = h0) (fun _ _ _ _ _ => True) (fun _ U o U' => ∃ v L, o = .returned v ∧ (LQ n0) v U'.heap L ∧ FrameEnd U o U' L room_1.cells room_1.slots) := by
  refine MetFree.of_bodySF (plainFor_of_name pn_1) hisR ?_
  intro p e s m args below meth c s₁ Bd hml0 hP hK
  obtain ⟨rfl, hZ, hh⟩ := hP
  have hx := Bd.exec
  have hby := Bd.bytes
  have hlk : meth.locks = false := Bd.notSynchronized
  have hml : c.maxLocals = 2 := hml0
  have hown : s.vm.findClass "com/example/call_bundler/callbundler/http/HttpSyntaxIsDigitPinLaw" = some m.cls := findClass_of_methodNamed Bd.named
  have hnm := (name_of_methodNamed Bd.named Bd.method).1
  have X0 : Stand p l e room_1 s m #[(.int p0)] below meth c s₁ [] 0 0 := Stand.of_body Bd
  have e0 : s₁.heap = h0 := by rw [← hh, Bd.state]; rfl
  have N0 := Fr.nil n0
  show Go p e below s ((LQ n0)) room_1.cells room_1.slots (s₁.setTop (entryFrame m #[(.int p0)] maxLocals))
  rw [ef_0 m p0]
  obtain ⟨j1, hj_j1⟩ : ∃ z : Int32, z = (if (p0 &&& (-16 : Int32)) = (48 : Int32) then (if (9 : Int32) < (p0 &&& (15 : Int32)) then (0 : Int32) else (1 : Int32)) else (0 : Int32)) := ⟨_, rfl⟩
  have stj2 : ∀ t, Steps p.tables e below (s₁.setTop (mkF m 23 #[.val (.int p0), .unset] [(.int j1)])) t → Steps p.tables e below (s₁.setTop (mkF m 0 #[.val (.int p0), .unset] [])) t := by
    intro t kj
    refine via (S' := s₁.setTop (mkF m 1 #[.val (.int p0), .unset] [(.int p0)])) (fun kk => XS.iloadN X0.here hx rfl (hb hby at_0) rfl kk) ?_
    refine via (S' := s₁.setTop (mkF m 3 #[.val (.int p0), .unset] [(.int (-16 : Int32)), (.int p0)])) (fun kk => XS.bipush X0.here hx rfl (hb hby at_1) kk) ?_
    refine via (S' := s₁.setTop (mkF m 4 #[.val (.int p0), .unset] [(.int (p0 &&& (-16 : Int32)))])) (fun kk => XS.iand X0.here hx rfl (hb hby at_3) rfl kk) ?_
    refine via (S' := s₁.setTop (mkF m 6 #[.val (.int p0), .unset] [(.int (48 : Int32)), (.int (p0 &&& (-16 : Int32)))])) (fun kk => XS.bipush X0.here hx rfl (hb hby at_4) kk) ?_
    by_cases hc3 : (p0 &&& (-16 : Int32)) = (48 : Int32)
    · refine via (S' := s₁.setTop (mkF m 9 #[.val (.int p0), .unset] [])) (fun kk => XS.icmpNo X0.here hx rfl (hb hby at_6) rfl (teq hc3).2 kk) ?_
      refine via (S' := s₁.setTop (mkF m 10 #[.val (.int p0), .unset] [(.int p0)])) (fun kk => XS.iloadN X0.here hx rfl (hb hby at_9) rfl kk) ?_
      refine via (S' := s₁.setTop (mkF m 12 #[.val (.int p0), .unset] [(.int (15 : Int32)), (.int p0)])) (fun kk => XS.bipush X0.here hx rfl (hb hby at_10) kk) ?_
      refine via (S' := s₁.setTop (mkF m 13 #[.val (.int p0), .unset] [(.int (p0 &&& (15 : Int32)))])) (fun kk => XS.iand X0.here hx rfl (hb hby at_12) rfl kk) ?_
      refine via (S' := s₁.setTop (mkF m 15 #[.val (.int p0), .unset] [(.int (9 : Int32)), (.int (p0 &&& (15 : Int32)))])) (fun kk => XS.bipush X0.here hx rfl (hb hby at_13) kk) ?_
      by_cases hc4 : (9 : Int32) < (p0 &&& (15 : Int32))
      · refine via (S' := s₁.setTop (mkF m 22 #[.val (.int p0), .unset] [])) (fun kk => XS.icmpYes X0.here hx rfl (pc0 := 15) (pc' := 22) rfl (hb hby at_15) rfl (tlt hc4).2.2.1 (by decide) (by decide) kk) ?_
        refine via (S' := s₁.setTop (mkF m 23 #[.val (.int p0), .unset] [(.int (0 : Int32))])) (fun kk => XS.iconst X0.here hx rfl (hb hby at_22) kk) ?_
        have qj_j1 : j1 = (0 : Int32) := hj_j1.trans (by rw [if_pos hc3, if_pos hc4])
        rw [qj_j1] at kj
        exact kj
      · refine via (S' := s₁.setTop (mkF m 18 #[.val (.int p0), .unset] [])) (fun kk => XS.icmpNo X0.here hx rfl (hb hby at_15) rfl (flt hc4).2.2.1 kk) ?_
        refine via (S' := s₁.setTop (mkF m 19 #[.val (.int p0), .unset] [(.int (1 : Int32))])) (fun kk => XS.iconst X0.here hx rfl (hb hby at_18) kk) ?_
        refine via (S' := s₁.setTop (mkF m 23 #[.val (.int p0), .unset] [(.int (1 : Int32))])) (fun kk => XS.goto X0.here hx rfl (pc0 := 19) (pc' := 23) rfl (hb hby at_19) (by decide) (by decide) kk) ?_
        have qj_j1 : j1 = (1 : Int32) := hj_j1.trans (by rw [if_pos hc3, if_neg hc4])
        rw [qj_j1] at kj
        exact kj
    · refine via (S' := s₁.setTop (mkF m 22 #[.val (.int p0), .unset] [])) (fun kk => XS.icmpYes X0.here hx rfl (pc0 := 6) (pc' := 22) rfl (hb hby at_6) rfl (feq hc3).2 (by decide) (by decide) kk) ?_
      refine via (S' := s₁.setTop (mkF m 23 #[.val (.int p0), .unset] [(.int (0 : Int32))])) (fun kk => XS.iconst X0.here hx rfl (hb hby at_22) kk) ?_
      have qj_j1 : j1 = (0 : Int32) := hj_j1.trans (by rw [if_neg hc3])
      rw [qj_j1] at kj
      exact kj
  refine Go.st (S' := s₁.setTop (mkF m 23 #[.val (.int p0), .unset] [(.int j1)])) stj2 ?_
  refine Go.st (S' := s₁.setTop (mkF m 24 #[.val (.int p0), .val (.int j1)] [])) (fun _ kk => XS.istoreN X0.here hx rfl (hb hby at_23) rfl (l' := #[.val (.int p0), .val (.int j1)]) rfl kk) ?_
  refine Go.st (S' := s₁.setTop (mkF m 25 #[.val (.int p0), .val (.int j1)] [(.int p0)])) (fun _ kk => XS.iloadN X0.here hx rfl (hb hby at_24) rfl kk) ?_
  obtain ⟨_, _, ⟨T5, L5, k5, n5⟩, -, X5, ⟨Lc5, hQ5, l5, y5, z5⟩, st5⟩ := Jvm.LawKit.callS X0 hx (y := (⟨"com/example/call_bundler/callbundler/http/HttpSyntax", "isDigit", "(I)Z"⟩ : MethodName)) hown (mvT hZ (hw _ (List.mem_of_getElem? (i := 0) rfl))) (mvT hZ (hw _ (List.mem_of_getElem? (i := 1) rfl))) (mvT hZ (hw _ (List.mem_of_getElem? (i := 2) rfl))) (mvT hZ (hw _ (List.mem_of_getElem? (i := 3) rfl))) (by decide) (backOf (W := 0) (rm1 l Z a0 hw [] p0  h0 n0 Z0 ) hZ (hw _ (List.mem_of_getElem? (i := 3) rfl)) (hw _ (List.mem_of_getElem? (i := 2) rfl)) (by decide) (by decide)) (g := (mkF m 25 #[.val (.int p0), .val (.int j1)] [(.int p0)])) rfl (by rw [hml]; rfl) (argsL := [(.int p0)]) (rest := []) (lenOf pd_0 rfl) rfl (by show 2 * 0 + _ ≤ _; exact Nat.le_of_eq rfl) (hb hby at_25) (fun _ _ => ⟨rfl, e0, (by decide : 0 + 0 ≤ _), (by decide : 0 + 0 ≤ _)⟩)
  dsimp only [Pt.U, Pt.locs, Pt.cells, Pt.slots] at X5 l5 y5 z5 st5 hQ5
  subst l5 y5 z5
  obtain ⟨hv5, N5q, e5⟩ := hQ5
  subst hv5
  have N5 := Fr.app N0 N5q
  refine Go.st (S' := T5.setTop (mkF m 28 #[.val (.int p0), .val (.int j1)] [(.int (f1 p0))])) st5 ?_
  have hq : f1 p0 = j1 := by rw [hj_j1]; exact own_digit p0
  refine Go.st (S' := T5.setTop (mkF m 29 #[.val (.int p0), .val (.int j1)] [(.int j1), (.int (f1 p0))])) (fun _ kk => XS.iloadN X5.here hx rfl (hb hby at_28) rfl kk) ?_
  refine Go.st (S' := T5.setTop (mkF m 32 #[.val (.int p0), .val (.int j1)] [])) (fun _ kk => XS.icmpNo X5.here hx rfl (hb hby at_29) rfl (teq hq).2 kk) ?_
  refine Go.st (S' := T5.setTop (mkF m 33 #[.val (.int p0), .val (.int j1)] [(.int (1 : Int32))])) (fun _ kk => XS.iconst X5.here hx rfl (hb hby at_32) kk) ?_
  refine Go.st (S' := T5.setTop (mkF m 37 #[.val (.int p0), .val (.int j1)] [(.int (1 : Int32))])) (fun _ kk => XS.goto X5.here hx rfl (pc0 := 33) (pc' := 37) rfl (hb hby at_33) (by decide) (by decide) kk) ?_
  exact Go.retN X5 hx hlk (t := .boolean) Bd.returns (by simp) (hb hby at_37) (⟨rfl, N5⟩) (by decide) (by decide)
set_option maxRecDepth 65536 in
set_option maxHeartbeats 40000000 in
theorem comes_1 {Post : Tables → Env → Array Value → State → Outcome → State → Prop} (hpost : ∀ tb e args s v u, (limb_1_1.after args s (.returned v) u = true ∧ limb_1_2.after args s (.returned v) u = true ∧ True) → FrameEnd s (.returned v) u (Jvm.fieldLocs frame_1_writes args s ++ Jvm.arrayLocs frame_1_arrays args s ++ Jvm.staticLocs frame_1_statics s) 0 0 → Post tb e args s (.returned v) u) :
    ArmFor flags0 classFile x code maxLocals ret World_1 tables_1 room_1 Calls_1 rest_1 Pre_1 Post := by
  intro l hfl _ _ p e ha hc hk s m args below hf hA hF happ hP
  obtain ⟨hcalls, hrest, hpre⟩ := hP
  obtain ⟨-, -, -, hnamed, -, -, -, hat⟩ := (Spec.applies_iff hf).mp happ
  obtain ⟨hg, hn⟩ := and_e (Cond.before_iff.mp (show (Jvm.Cond.and given_1 narrow_1).before args s = true from hpre))
  obtain ⟨g0, gr0⟩ := and_e hg
  have ga0 := gr0
  obtain ⟨w0, rfl⟩ : ∃ w0 : Value, args = #[w0] := by
    have hs : args.size = 1 := by simpa [Cond.value, given_1] using g0
    obtain ⟨L⟩ := args
    match L, hs with
    | [w0], _ => exact ⟨w0, rfl⟩
  have hw := fun d (hd : d ∈ tables_1) => atoms_spec (ws := Jvm.Cond.code x code maxLocals ret :: tables_1) hat d (List.mem_cons_of_mem _ hd)
  have hfit : Fit s := fun {y c} hc i hi => by
    obtain ⟨ha, rfl⟩ := Array.getElem?_eq_some_iff.mp hc
    have q := List.all_eq_true.mp ((Array.all_eq_true_iff_forall_mem.mp hF) _ (Array.getElem_mem ha)) i (List.mem_range.mpr hi)
    simpa [Array.getElem?_eq_getElem hi] using q
  obtain ⟨i0, ei0⟩ := is_v ga0
  obtain rfl : w0 = (.int i0) := Option.some.inj ei0
  obtain ⟨n, o, h1, h2, h3, _, L, rfl, ⟨rfl, N⟩, hq⟩ := rm0 l s _ hw tables_1 i0 s.heap s.heap.size (Nat.le_refl _) p e ha hc hk s m _ below hf ((Spec.applies_iff_loose hf).mp happ).1 ⟨rfl, State.Warmed39.refl s, rfl⟩ trivial
  refine ⟨n, _, h1, h2, h3, hpost _ _ _ _ _ _ ⟨Cond.after_iff.mpr rfl, Cond.after_iff.mpr (eq_i res_at (Term.int_eval (1)) rfl), trivial⟩ ⟨hq.1, hq.2.1, (hq.2.2.sift fun y hy => Or.inr (N y hy)).mono (by decide) (by decide)⟩⟩
theorem main_1_1 : Claimed_1_1 := comes_1 fun _ _ _ _ _ _ h hF => ⟨h.1, hF⟩
theorem main_1_2 : Claimed_1_2 := comes_1 fun _ _ _ _ _ _ h hF => ⟨h.2.1, hF⟩
end Jvm.Pilot.@@N@@
namespace Jvm.Pilot.@@N@@
open Jvm Jvm.ClassFile Sem Op Lib Jvm.Free Jvm.Stand Jvm.Pilot.@@N@@.Jvm.D
/-! MADE BY PROGRAM (witnessworld.py) out of the Statement's table words and the real class files: 9 classes; the members and pool entries that the words name. The judged class is class 1, her method 1. -/
namespace start1
open Jvm.ClassFile
def u (s : String) : CpInfo := .utf8 (stringToUtf16 s)
/-- a pool by its gaps: so many unusable entries, then the entry; so many at the end -/
def gap : Nat → List CpInfo → List CpInfo
  | 0, r => r
  | n + 1, r => .unusable :: gap n r
def poolList (es : List (Nat × CpInfo)) (last : Nat) : List CpInfo := es.foldr (fun e r => gap e.1 (e.2 :: r)) (gap last [])
def pool (es : List (Nat × CpInfo)) (last : Nat) : Array CpInfo := ⟨poolList es last⟩
def fileOf (pool : Array CpInfo) (this : Nat) (attrs : Array Attribute := #[]) (ms : Array MethodInfo := #[]) (fl : Nat := 33) (sup : Nat := 0) (ifs : Array Nat := #[]) (fds : Array FieldInfo := #[]) : ClassFile where
  minorVersion := 0
  majorVersion := 65
  constantPool := pool
  accessFlags := fl
  thisClass := this
  superClass := sup
  interfaces := ifs
  fields := fds
  methods := ms
  attributes := attrs
def plain (name : String) (sup : Option ClassId) : Class where
  name := name
  kind := .ordinary
  loader := none
  accessFlags := 33
  super := sup
  interfaces := #[]
  cf := none
  fields := #[]
  methods := #[]
  instanceTypes := #[]
  staticTypes := #[]
  resolved := #[]
  callSites := []
  init := .initialized
  statics := none
  mirror := none

def pool0 : Array CpInfo := pool [(5, u "<init>"), (0, u "()V"), (1, .class_ 10), (1, u "java/lang/Object")] 113

def k0m0 : Method := { name := "<init>", desc := "()V", sig := { parameters := [], returnType := none }, accessFlags := 1, code := none }
/-- java/lang/Object -/
def k0 : Class := { plain "java/lang/Object" none with
  accessFlags := 33
  interfaces := #[]
  cf := some (fileOf pool0 8 #[] #[{ accessFlags := 1, nameIndex := 5, descriptorIndex := 6, attributes := #[] }] 33 0 #[] #[])
  fields := #[]
  methods := #[k0m0]
  instanceTypes := #[]
  staticTypes := #[]
  resolved := Array.replicate 124 none
  statics := none }

def pool1 : Array CpInfo := pool [(2, .class_ 4), (1, u "java/lang/Object"), (0, u "<init>"), (0, u "()V"), (0, .methodref 8 9), (0, .class_ 10), (0, .nameAndType 11 12), (0, u "com/example/call_bundler/callbundler/http/HttpSyntax"), (0, u "isDigit"), (0, u "(I)Z"), (0, .class_ 14), (0, u "com/example/call_bundler/callbundler/http/HttpSyntaxIsDigitPinLaw"), (2, u "law")] 3

def k1m0 : Method := { name := "<init>", desc := "()V", sig := { parameters := [], returnType := none }, accessFlags := 2, code := none }
def k1c1 : Code := { maxStack := 2, maxLocals := 2, code := code, exceptionTable := #[], attributes := #[] }
def k1m1 : Method := { name := "law", desc := "(I)Z", sig := { parameters := [.int], returnType := some .boolean }, accessFlags := 9, code := some k1c1 }
/-- com/example/call_bundler/callbundler/http/HttpSyntaxIsDigitPinLaw -/
def k1 : Class := { plain "com/example/call_bundler/callbundler/http/HttpSyntaxIsDigitPinLaw" (some 0) with
  accessFlags := 49
  interfaces := #[]
  cf := some (fileOf pool1 13 #[] #[{ accessFlags := 2, nameIndex := 5, descriptorIndex := 6, attributes := #[] }, { accessFlags := 9, nameIndex := 17, descriptorIndex := 12, attributes := #[] }] 49 2 #[] #[])
  fields := #[]
  methods := #[k1m0, k1m1]
  instanceTypes := #[]
  staticTypes := #[]
  resolved := Array.replicate 21 none
  statics := none }

def pool2 : Array CpInfo := pool [(2, .class_ 4), (1, u "java/lang/Object"), (0, u "<init>"), (0, u "()V"), (15, .class_ 24), (1, u "com/example/call_bundler/callbundler/http/HttpSyntax"), (4, u "TOKEN_CHARS"), (0, u "[Z"), (51, u "UNRESERVED_CHARS"), (37, u "SEGMENT_END"), (0, u "Ljava/util/regex/Pattern;"), (21, u "isDigit"), (0, u "(I)Z")] 62

def k2m0 : Method := { name := "<init>", desc := "()V", sig := { parameters := [], returnType := none }, accessFlags := 2, code := none }
def k2c1 : Code := { maxStack := 2, maxLocals := 1, code := prog_23_method_18_code, exceptionTable := #[], attributes := #[] }
def k2m1 : Method := { name := "isDigit", desc := "(I)Z", sig := { parameters := [.int], returnType := some .boolean }, accessFlags := 9, code := some k2c1 }
/-- com/example/call_bundler/callbundler/http/HttpSyntax -/
def k2 : Class := { plain "com/example/call_bundler/callbundler/http/HttpSyntax" (some 0) with
  accessFlags := 49
  interfaces := #[]
  cf := some (fileOf pool2 22 #[] #[{ accessFlags := 2, nameIndex := 5, descriptorIndex := 6, attributes := #[] }, { accessFlags := 9, nameIndex := 143, descriptorIndex := 144, attributes := #[] }] 49 2 #[] #[{ accessFlags := 26, nameIndex := 29, descriptorIndex := 30, attributes := #[] }, { accessFlags := 26, nameIndex := 82, descriptorIndex := 30, attributes := #[] }, { accessFlags := 26, nameIndex := 120, descriptorIndex := 121, attributes := #[] }])
  fields := #[{ name := "TOKEN_CHARS", type := (.array .boolean), accessFlags := 26, slot := 0, constantValue := 0 }, { name := "UNRESERVED_CHARS", type := (.array .boolean), accessFlags := 26, slot := 1, constantValue := 0 }, { name := "SEGMENT_END", type := (.object "java/util/regex/Pattern"), accessFlags := 26, slot := 2, constantValue := 0 }]
  methods := #[k2m0, k2m1]
  instanceTypes := #[]
  staticTypes := #[(.array .boolean), (.array .boolean), (.object "java/util/regex/Pattern")]
  resolved := Array.replicate 207 none
  statics := none }

def pool3 : Array CpInfo := pool [(1, u "java/lang/Cloneable"), (0, .class_ 1), (0, u "java/lang/Object"), (0, .class_ 3)] 3

/-- java/lang/Cloneable -/
def k3 : Class := { plain "java/lang/Cloneable" (some 0) with
  accessFlags := 1537
  interfaces := #[]
  cf := some (fileOf pool3 2 #[] #[] 1537 4 #[] #[])
  fields := #[]
  methods := #[]
  instanceTypes := #[]
  staticTypes := #[]
  resolved := Array.replicate 8 none
  statics := none }

def pool4 : Array CpInfo := pool [(1, u "java/io/Serializable"), (0, .class_ 1), (0, u "java/lang/Object"), (0, .class_ 3)] 3

/-- java/io/Serializable -/
def k4 : Class := { plain "java/io/Serializable" (some 0) with
  accessFlags := 1537
  interfaces := #[]
  cf := some (fileOf pool4 2 #[] #[] 1537 4 #[] #[])
  fields := #[]
  methods := #[]
  instanceTypes := #[]
  staticTypes := #[]
  resolved := Array.replicate 8 none
  statics := none }

/-- the primitive byte -/
def k5 : Class := { plain "byte" none with kind := .primitive 'B', accessFlags := 0x411 }
/-- [B -/
def k6 : Class := { plain "[B" (some 0) with kind := .array 5 .byte, interfaces := #[3, 4], accessFlags := 1041 }

/-- the primitive int -/
def k7 : Class := { plain "int" none with kind := .primitive 'I', accessFlags := 0x411 }
/-- [I -/
def k8 : Class := { plain "[I" (some 0) with kind := .array 7 .int, interfaces := #[3, 4], accessFlags := 1041 }

def heap : Heap := #[]
def classes : Array Class := #[k0, k1, k2, k3, k4, k5, k6, k7, k8]
def interned : List (Array UInt16 × Addr) := []
def slotsUsed : Nat := 0
def theMethod : MethodId := ⟨1, 1⟩
def args0 : Array Value := #[.int 5]
def aboutOver (below : List Frame) : State where
  vm := { classes := classes, interned := interned.toArray }
  heap := heap
  slotsUsed := slotsUsed
  threads := #[{ frames := .invoking theMethod args0 :: below }]
def below0 : List Frame := [.native { method := ⟨0, 0⟩, args := #[] }]
def about1 : State := aboutOver below0
def p0 : Program := .bare "" "" ""
def e0 : Env := launch0.env 0 0 0
theorem w_frames : about1.frames = Frame.invoking theMethod args0 :: below0 := rfl
set_option maxRecDepth 65536 in
theorem w_args : argsFit about1.vm theMethod args0 = true := by decide +kernel
set_option maxRecDepth 65536 in
theorem w_heap : heapFits about1 = true := by decide +kernel
set_option maxRecDepth 65536 in
theorem w_runnable : about1.curStatus? = some .runnable := by decide +kernel
set_option maxRecDepth 65536 in
theorem w_alone : about1.alone = true := by decide +kernel
set_option maxRecDepth 65536 in
theorem w_named : about1.methodNamed? x = some theMethod := by decide +kernel
set_option maxRecDepth 65536 in
theorem w_hears : about1.hears theMethod below0 = true := by decide +kernel
set_option maxRecDepth 65536 in
theorem w_ripe : about1.ripe theMethod args0 below0 = true := by decide +kernel
theorem w_running : about1.status = .running := rfl
set_option maxRecDepth 65536 in
theorem w_room : about1.hasRoom e0.platform room_1 = true :=
  launch0.hasRoom_least _ room_1 (by decide +kernel) (by decide +kernel) (by decide +kernel) (by decide +kernel) (by decide +kernel) (by decide +kernel)
theorem allAtoms_all (ts : List Jvm.Cond) (a : Array Jvm.Value) (st : Jvm.State) : (allAtoms ts).before a st = ts.all (fun c => c.before a st) := by
  induction ts with
  | nil => rfl
  | cons c t ih =>
    show (Jvm.Cond.and c (allAtoms t)).before a st = _
    rw [Jvm.Cond.before_and, ih, List.all_cons]
def words1 : List Jvm.Cond := Jvm.Cond.code x code maxLocals ret :: tables_1
/-- a 'code' word, met by the world's own term for the bytes: nothing is compared byte by byte -/
theorem code_word {y : MethodName} {bytes : ByteArray} {mx : Nat} {rt : Option FieldType} {a : Array Value} {s : State} {m : MethodId} {meth : Method} {c : Code} (h1 : s.methodNamed? y = some m) (h2 : s.vm.method? m = some meth) (h3 : meth.code = some c) (h4 : c.code = bytes)
    (h5 : (c.maxLocals == mx && c.exceptionTable.isEmpty && decide (c.maxStack ≤ mostOperands) && decide (meth.sig.returnType = rt) && !meth.locks && decide (parseMethodDescriptor y.desc = some meth.sig)) = true) : (Jvm.Cond.code y bytes mx rt).before a s = true := by
  simp only [Bool.and_eq_true, beq_iff_eq, Bool.not_eq_true', decide_eq_true_eq] at h5
  obtain ⟨⟨⟨⟨⟨g1, g2⟩, g3⟩, g4⟩, g5⟩, g6⟩ := h5
  simp [Cond.before, Cond.holds, Cond.value, h1, h2, h3, h4, g1, g2, g3, g4, g5, g6]
def isCode : Jvm.Cond → Bool
  | .code _ _ _ _ => true
  | _ => false
theorem all_split {L : List Jvm.Cond} {P : Jvm.Cond → Bool} (h1 : L.all (fun c => isCode c || P c) = true) (h2 : ∀ c ∈ L.filter isCode, P c = true) : L.all P = true := by
  refine List.all_eq_true.mpr fun c hc => ?_
  have h := List.all_eq_true.mp h1 c hc
  rcases Bool.eq_false_or_eq_true (isCode c) with hi | hi
  · exact h2 c (List.mem_filter.mpr ⟨hc, hi⟩)
  · simpa [hi] using h
set_option maxRecDepth 65536 in
theorem w_c0 : (Jvm.Cond.code x code maxLocals ret).before args0 about1 = true := code_word (m := ⟨1, 1⟩) (meth := k1m1) (c := k1c1) (by decide +kernel) rfl rfl rfl (by decide +kernel)
set_option maxRecDepth 65536 in
theorem w_c1 : (Jvm.Cond.code ({ cls := "com/example/call_bundler/callbundler/http/HttpSyntax", name := "isDigit", desc := "(I)Z" } : Jvm.MethodName) prog_23_method_18_code (1 : Nat) (Option.some Jvm.ClassFile.FieldType.boolean)).before args0 about1 = true := code_word (m := ⟨2, 1⟩) (meth := k2m1) (c := k2c1) (by decide +kernel) rfl rfl rfl (by decide +kernel)
def codes1 : List Jvm.Cond := [Jvm.Cond.code x code maxLocals ret, Jvm.Cond.code ({ cls := "com/example/call_bundler/callbundler/http/HttpSyntax", name := "isDigit", desc := "(I)Z" } : Jvm.MethodName) prog_23_method_18_code (1 : Nat) (Option.some Jvm.ClassFile.FieldType.boolean)]
set_option maxRecDepth 65536 in
theorem codes_eq : words1.filter isCode = codes1 := rfl
theorem w_codes : ∀ c ∈ words1.filter isCode, c.before args0 about1 = true := by
  rw [codes_eq]
  intro c hc
  simp only [codes1, List.mem_cons, List.not_mem_nil, or_false] at hc
  rcases hc with rfl | rfl
  · exact w_c0
  · exact w_c1
set_option maxRecDepth 65536 in
theorem w_t1 : words1.all (fun c => isCode c || c.before args0 about1) = true := by decide +kernel
theorem w_tables : (allAtoms (Jvm.Cond.code x code maxLocals ret :: tables_1)).before args0 about1 = true := by
  rw [allAtoms_all]
  show words1.all (fun c => c.before args0 about1) = true
  refine all_split ?_ w_codes
  rw [w_t1]
set_option maxRecDepth 65536 in
theorem w_case : (Jvm.Cond.and given_1 narrow_1).before args0 about1 = true := by decide +kernel
theorem w_applies : (headSpec (Jvm.Cond.code x code maxLocals ret :: tables_1) room_1).applies x e0.platform about1 = true :=
  (Spec.applies_iff w_frames).mpr ⟨w_running, w_runnable, w_alone, w_named, w_hears, w_ripe, w_room, w_tables⟩
theorem atStart : AtStart classFile x code maxLocals ret World_1 tables_1 room_1 Calls_1 rest_1 Pre_1 launch0 p0 e0 about1 theMethod args0 below0 :=
  ⟨lists_1, trivial, launch0.admits_env _ _ _, launch0.least_env, fairChoices_fair.cas, fairChoices_fair.clock, w_frames, w_args, w_heap, w_applies, trivial, trivial, w_case⟩
end start1
theorem witness_1 : WitnessClaimed_1 := ⟨start1.p0, start1.e0, start1.about1, start1.theMethod, start1.args0, start1.below0, start1.atStart⟩
end Jvm.Pilot.@@N@@
