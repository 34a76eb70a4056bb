import JvmDerived
import JvmDerived.Pilot.@@N@@Statement
import JvmDerived.Pilot.@@N@@Code
set_option linter.unusedVariables false
set_option linter.unusedSimpArgs false
namespace Jvm.Pilot.@@N@@
open Jvm Jvm.ClassFile Sem Op Lib Jvm.Free Jvm.Stand Jvm.LawKit Jvm.RoadKit Bundle Jvm.Pilot.@@N@@.Jvm.D
section OwnKit
variable {p : Program} {l : Launch} {e : Env} {R : Room} {s : State} {m : MethodId} {args : Array Value} {below : List Frame} {meth : Method} {c : Code} {T : State} {locs : List Loc} {cells slots ck sk : Nat} {S S' t : State} {Q : Option Value → Heap → List Loc → Prop}
/-- from S the run comes to a return of which Q is said -/
def Go (p : Program) (e : Env) (below : List Frame) (s : State) (Q : Option Value → Heap → List Loc → Prop) (ck sk : Nat) (S : State) : Prop :=
  ∃ s₂ o, Steps p.tables e below S s₂ ∧ s₂.status = .running ∧ Ended s₂ below o ∧ ∃ v L, o = .returned v ∧ Q v s₂.heap L ∧ FrameEnd s o s₂ L ck sk
theorem Go.st (h : ∀ t, Steps p.tables e below S' t → Steps p.tables e below S t) (k : Go p e below s Q ck sk S') : Go p e below s Q ck sk S := by
  obtain ⟨s₂, o, h1, r⟩ := k
  exact ⟨s₂, o, h _ h1, r⟩
theorem Go.tr (h : Steps p.tables e below S S') (k : Go p e below s Q ck sk S') : Go p e below s Q ck sk S := Go.st (fun _ q => h.trans q) k
theorem via (h : Steps p.tables e below S' t → Steps p.tables e below S t) (k : Steps p.tables e below S' t) : Steps p.tables e below S t := h k
theorem Go.retW (X : Stand p l e R s m args below meth c T locs cells slots) (hx : p.tables.exec = Jvm.exec) (hlk : meth.locks = false) {pc : Nat} {Ls : Array Slot} {w : Value} {ty : FieldType} {i : Instr} {rest : List Value} (hret : meth.sig.returnType = some ty) (hn : narrow ty w = w)
    (hi : (i = .ireturn ∧ (ty = .int ∨ ty = .boolean ∨ ty = .byte ∨ ty = .char ∨ ty = .short) ∧ ∃ z, w = .int z) ∨ (i = .lreturn ∧ ty = .long ∧ ∃ z, w = .long z) ∨ (i = .dreturn ∧ ty = .double ∧ ∃ z, w = .double z) ∨ (i = .freturn ∧ ty = .float ∧ ∃ z, w = .float z) ∨ (i = .areturn ∧ ty.isReference = true ∧ w.isRef = true))
    (hd : decode c.code pc = .ok (i, 1)) (hQ : Q (some w) T.heap locs) (hc : cells ≤ ck) (hs : slots ≤ sk) : Go p e below s Q ck sk (T.setTop (mkF m pc Ls (w :: rest))) := by
  obtain ⟨fs, hr, hrun, hended, hW, hsame⟩ := X.leave (v := some w) (fun h => by rw [hret] at h; cases h)
  exact ⟨_, _, retOut X hx hret hn hi hd hr, hrun, hended, _, _, rfl, hQ, ⟨_, rfl⟩, hW, hsame.mono hc hs⟩
theorem Go.retI (X : Stand p l e R s m args below meth c T locs cells slots) (hx : p.tables.exec = Jvm.exec) (hlk : meth.locks = false) {pc : Nat} {Ls : Array Slot} {z : Int32} {rest : List Value} (hret : meth.sig.returnType = some .int) (hd : decode c.code pc = .ok (.ireturn, 1)) (hQ : Q (some (.int z)) T.heap locs) (hc : cells ≤ ck) (hs : slots ≤ sk) : Go p e below s Q ck sk (T.setTop (mkF m pc Ls (.int z :: rest))) :=
  Go.retW X hx hlk hret rfl (Or.inl ⟨rfl, Or.inl rfl, _, rfl⟩) hd hQ hc hs
theorem Go.retJ (X : Stand p l e R s m args below meth c T locs cells slots) (hx : p.tables.exec = Jvm.exec) (hlk : meth.locks = false) {pc : Nat} {Ls : Array Slot} {z : Int64} {rest : List Value} (hret : meth.sig.returnType = some .long) (hd : decode c.code pc = .ok (.lreturn, 1)) (hQ : Q (some (.long z)) T.heap locs) (hc : cells ≤ ck) (hs : slots ≤ sk) : Go p e below s Q ck sk (T.setTop (mkF m pc Ls (.long z :: rest))) :=
  Go.retW X hx hlk hret rfl (Or.inr (Or.inl ⟨rfl, rfl, _, rfl⟩)) hd hQ hc hs
theorem Go.retA (X : Stand p l e R s m args below meth c T locs cells slots) (hx : p.tables.exec = Jvm.exec) (hlk : meth.locks = false) {pc : Nat} {Ls : Array Slot} {w : Value} {ty : FieldType} {rest : List Value} (hret : meth.sig.returnType = some ty) (ht : ty.isReference = true) (hw : w.isRef = true) (hd : decode c.code pc = .ok (.areturn, 1)) (hQ : Q (some w) T.heap locs) (hc : cells ≤ ck) (hs : slots ≤ sk) : Go p e below s Q ck sk (T.setTop (mkF m pc Ls (w :: rest))) :=
  Go.retW X hx hlk hret (by cases ty <;> first | (cases ht; done) | (cases w <;> first | rfl | cases hw)) (Or.inr (Or.inr (Or.inr (Or.inr ⟨rfl, ht, hw⟩)))) hd hQ hc hs
theorem Go.retN (X : Stand p l e R s m args below meth c T locs cells slots) (hx : p.tables.exec = Jvm.exec) (hlk : meth.locks = false) {pc : Nat} {Ls : Array Slot} {z : Int32} {t : FieldType} {rest : List Value} (hret : meth.sig.returnType = some t) (ht : t = .boolean ∨ t = .byte ∨ t = .char ∨ t = .short) (hd : decode c.code pc = .ok (.ireturn, 1)) (hQ : Q (some (.int (nar t z))) T.heap locs) (hc : cells ≤ ck) (hs : slots ≤ sk) : Go p e below s Q ck sk (T.setTop (mkF m pc Ls (.int z :: rest))) := by
  obtain ⟨fs, hr, hrun, hended, hW, hsame⟩ := X.leave (v := some (.int (nar t z))) (fun h => by rw [hret] at h; cases h)
  exact ⟨_, _, Jvm.RoadKit.retN X hx hret ht hd hr, hrun, hended, _, _, rfl, hQ, ⟨_, rfl⟩, hW, hsame.mono hc hs⟩
theorem Go.ret0 (X : Stand p l e R s m args below meth c T locs cells slots) (hx : p.tables.exec = Jvm.exec) (hlk : meth.locks = false) {pc : Nat} {Ls : Array Slot} (hret : meth.sig.returnType = none) (hd : decode c.code pc = .ok (.return_, 1)) (hQ : Q none T.heap locs) (hc : cells ≤ ck) (hs : slots ≤ sk) : Go p e below s Q ck sk (T.setTop (mkF m pc Ls [])) := by
  obtain ⟨fs, hr, hrun, hended, hW, hsame⟩ := X.leave (v := none) (fun _ => rfl)
  exact ⟨_, _, X.returnOut hx hret hd hr, hrun, hended, _, _, rfl, hQ, ⟨_, rfl⟩, hW, hsame.mono hc hs⟩
/-- what a body leaves that writes nothing -/
def PQ (w : Value) (n0 : Nat) (h0 : Heap) (v : Option Value) (h : Heap) (L : List Loc) : Prop := v = some w ∧ Fr n0 L ∧ h = h0
/-- what the law leaves -/
def LQ (n0 : Nat) (v : Option Value) (h : Heap) (L : List Loc) : Prop := v = some (.int 1) ∧ Fr n0 L
/-- the j-th of a list of ints -/
def bt (bs : List Int32) (j : Int32) : Int32 := bs.getD j.toNatClampNeg 0
theorem own_at {bs : List Int32} {c : Cell} {j : Int32} (H : Has c (bs.map .int) (.int 0)) (hin : ¬ (j < 0 ∨ c.slots.size ≤ j.toNatClampNeg)) : c.slots[j.toNatClampNeg]? = some (.int (bt bs j)) :=
  Has.at H hin (by unfold bt; simp only [List.getD, List.getElem?_map]; cases bs[j.toNatClampNeg]? <;> rfl)
theorem own_len {t : Term} {a : Addr} {cl : Cell} {n : Int32} (ev : t.eval args s none [] s = some (.ref a)) (ha : s.arrayAt? a = some cl) (h : (Cond.eq (.length t) (.int n)).value args s none s [] = some true) : cl.slots.size < 2 ^ 31 ∧ cl.slots.size.toInt32 = n := by
  by_cases q : cl.slots.size < 2 ^ 31
  · exact ⟨q, gotT (Cond.eq_ints (len_f ev ha q) (Term.int_eval n)) h⟩
  · exfalso
    simp [Cond.value, Term.eval, ev, ha, q] at h
theorem own_size {cl : Cell} {n : Int32} {k : Nat} (q : cl.slots.size < 2 ^ 31 ∧ cl.slots.size.toInt32 = n) (hk : n.toInt = k) : cl.slots.size = k := by
  have h := len_toInt q.1
  rw [q.2, hk] at h
  omega
end OwnKit

theorem pd_0 : parseMethodDescriptor "([B)Lcom/example/call_bundler/callbundler/http/Content;" = some ⟨[(.array .byte)], some (.object "com/example/call_bundler/callbundler/http/Content")⟩ := by decide +kernel
theorem pd_1 : parseMethodDescriptor "(II)V" = some ⟨[.int, .int], none⟩ := by decide +kernel
theorem pd_2 : parseMethodDescriptor "()V" = some ⟨[], none⟩ := by decide +kernel
theorem pd_3 : parseMethodDescriptor "(II)Lcom/example/call_bundler/callbundler/http/Content;" = some ⟨[.int, .int], some (.object "com/example/call_bundler/callbundler/http/Content")⟩ := by decide +kernel
theorem pd_4 : parseMethodDescriptor "(Lcom/example/call_bundler/callbundler/http/Content;II)V" = some ⟨[(.object "com/example/call_bundler/callbundler/http/Content"), .int, .int], none⟩ := by decide +kernel
theorem pd_5 : parseMethodDescriptor "(I)B" = some ⟨[.int], some .byte⟩ := by decide +kernel
def Q_rmN1 (Z : State) (a0 : Addr) (p1 : Int32) (h0 : Heap) (n0 : Nat) (v : Option Value) (h : Heap) (L : List Loc) : Prop := ∃ (t : Addr) (kk : ClassId), v = none ∧ Fr n0 L ∧ Keep h0 h [a0] ∧ Exa Z h a0 "com/example/call_bundler/callbundler/http/Content" ∧ h0.size ≤ t ∧ OvrA Z kk .byte "[B" ∧ Arv Z h t kk (.array .byte) (1 : Int32) [.null] .null ∧ n0 ≤ t ∧ Fld Z h a0 "com/example/call_bundler/callbundler/http/Content" "pieces" "[[B" (.ref t) ∧ Fld Z h a0 "com/example/call_bundler/callbundler/http/Content" "shift" "I" (.int p1) ∧ Fld Z h a0 "com/example/call_bundler/callbundler/http/Content" "mask" "I" (.int ((((1 : Int64) <<< (p1 &&& 0x3f).toInt64) - (1 : Int64)).toInt32)) ∧ Fld Z h a0 "com/example/call_bundler/callbundler/http/Content" "offset" "I" (.int (0 : Int32)) ∧ Fld Z h a0 "com/example/call_bundler/callbundler/http/Content" "slice" "Z" (.int (nar .boolean (0 : Int32))) ∧ Fld Z h a0 "com/example/call_bundler/callbundler/http/Content" "count" "I" (.int (0 : Int32)) ∧ Fld Z h a0 "com/example/call_bundler/callbundler/http/Content" "length" "I" (.int (0 : Int32))
theorem d2_0 : decode prog_14_method_1_code 0 = .ok (.aload_n 0, 1) := by decide +kernel
theorem d2_1 : decode prog_14_method_1_code 1 = .ok (.invokespecial 1, 3) := by decide +kernel
theorem d2_4 : decode prog_14_method_1_code 4 = .ok (.aload_n 0, 1) := by decide +kernel
theorem d2_5 : decode prog_14_method_1_code 5 = .ok (.iconst 1, 1) := by decide +kernel
theorem d2_6 : decode prog_14_method_1_code 6 = .ok (.anewarray 7, 3) := by decide +kernel
theorem d2_9 : decode prog_14_method_1_code 9 = .ok (.putfield 9, 3) := by decide +kernel
theorem d2_12 : decode prog_14_method_1_code 12 = .ok (.aload_n 0, 1) := by decide +kernel
theorem d2_13 : decode prog_14_method_1_code 13 = .ok (.iload_n 1, 1) := by decide +kernel
theorem d2_14 : decode prog_14_method_1_code 14 = .ok (.putfield 15, 3) := by decide +kernel
theorem d2_17 : decode prog_14_method_1_code 17 = .ok (.aload_n 0, 1) := by decide +kernel
theorem d2_18 : decode prog_14_method_1_code 18 = .ok (.lconst 1, 1) := by decide +kernel
theorem d2_19 : decode prog_14_method_1_code 19 = .ok (.iload_n 1, 1) := by decide +kernel
theorem d2_20 : decode prog_14_method_1_code 20 = .ok (.lshl, 1) := by decide +kernel
theorem d2_21 : decode prog_14_method_1_code 21 = .ok (.lconst 1, 1) := by decide +kernel
theorem d2_22 : decode prog_14_method_1_code 22 = .ok (.lsub, 1) := by decide +kernel
theorem d2_23 : decode prog_14_method_1_code 23 = .ok (.l2i, 1) := by decide +kernel
theorem d2_24 : decode prog_14_method_1_code 24 = .ok (.putfield 19, 3) := by decide +kernel
theorem d2_27 : decode prog_14_method_1_code 27 = .ok (.aload_n 0, 1) := by decide +kernel
theorem d2_28 : decode prog_14_method_1_code 28 = .ok (.iconst 0, 1) := by decide +kernel
theorem d2_29 : decode prog_14_method_1_code 29 = .ok (.putfield 22, 3) := by decide +kernel
theorem d2_32 : decode prog_14_method_1_code 32 = .ok (.aload_n 0, 1) := by decide +kernel
theorem d2_33 : decode prog_14_method_1_code 33 = .ok (.iconst 0, 1) := by decide +kernel
theorem d2_34 : decode prog_14_method_1_code 34 = .ok (.putfield 25, 3) := by decide +kernel
theorem d2_37 : decode prog_14_method_1_code 37 = .ok (.iload_n 2, 1) := by decide +kernel
theorem d2_38 : decode prog_14_method_1_code 38 = .ok (.ifCond .le 17, 3) := by decide +kernel
theorem d2_41 : decode prog_14_method_1_code 41 = .ok (.aload_n 0, 1) := by decide +kernel
theorem d2_42 : decode prog_14_method_1_code 42 = .ok (.getfield 9, 3) := by decide +kernel
theorem d2_45 : decode prog_14_method_1_code 45 = .ok (.iconst 0, 1) := by decide +kernel
theorem d2_46 : decode prog_14_method_1_code 46 = .ok (.iload_n 2, 1) := by decide +kernel
theorem d2_47 : decode prog_14_method_1_code 47 = .ok (.newarray .byte, 2) := by decide +kernel
theorem d2_49 : decode prog_14_method_1_code 49 = .ok (.aastore, 1) := by decide +kernel
theorem d2_50 : decode prog_14_method_1_code 50 = .ok (.aload_n 0, 1) := by decide +kernel
theorem d2_51 : decode prog_14_method_1_code 51 = .ok (.iconst 1, 1) := by decide +kernel
theorem d2_52 : decode prog_14_method_1_code 52 = .ok (.putfield 29, 3) := by decide +kernel
theorem d2_55 : decode prog_14_method_1_code 55 = .ok (.return_, 1) := by decide +kernel
theorem pn_0 : plainName "com/example/call_bundler/callbundler/http/Content" = true := by first | (simp [plainName, overriddenIn]; done) | decide +kernel
theorem ef_2 (m : MethodId) (a0 : Addr) (p1 : Int32) (p2 : Int32) : entryFrame m #[(.ref a0), (.int p1), (.int p2)] 3 = mkF m 0 #[.val (.ref a0), .val (.int p1), .val (.int p2)] [] := by first | (simp [entryFrame, mkF, argsToLocals, Value.category]; done) | rfl
set_option maxRecDepth 65536 in
set_option maxHeartbeats 40000000 in
theorem rmN1 (l : Launch) (Z : State) (az : Array Value) (hw : ∀ d ∈ tables_1, d.before az Z = true) (ws : List Jvm.Cond) (a0 : Addr) (p1 : Int32) (p2 : Int32)  (h0 : Heap) (n0 : Nat) (Z0 : n0 ≤ h0.size) (E_a0 : Exa Z h0 a0 "com/example/call_bundler/callbundler/http/Content") (F_a0_pieces : Fld Z h0 a0 "com/example/call_bundler/callbundler/http/Content" "pieces" "[[B" .null) (F_a0_shift : Fld Z h0 a0 "com/example/call_bundler/callbundler/http/Content" "shift" "I" (.int (0 : Int32))) (F_a0_mask : Fld Z h0 a0 "com/example/call_bundler/callbundler/http/Content" "mask" "I" (.int (0 : Int32))) (F_a0_offset : Fld Z h0 a0 "com/example/call_bundler/callbundler/http/Content" "offset" "I" (.int (0 : Int32))) (F_a0_slice : Fld Z h0 a0 "com/example/call_bundler/callbundler/http/Content" "slice" "Z" (.int (0 : Int32))) (F_a0_count : Fld Z h0 a0 "com/example/call_bundler/callbundler/http/Content" "count" "I" (.int (0 : Int32))) (F_a0_length : Fld Z h0 a0 "com/example/call_bundler/callbundler/http/Content" "length" "I" (.int (0 : Int32))) (g_a0 : n0 ≤ a0) (hp2 : ¬ (0 : Int32) < p2) :
    MetFree l (⟨"com/example/call_bundler/callbundler/http/Content", "<init>", "(II)V"⟩ : MethodName) (head1 (Jvm.Cond.code (⟨"com/example/call_bundler/callbundler/http/Content", "<init>", "(II)V"⟩ : MethodName) prog_14_method_1_code 3 none :: ws) ({ frames := 1, cells := 1, slots := 1, locals := 20 } : Room)) (fun a U => a = #[(.ref a0), (.int p1), (.int p2)] ∧ Z.Warmed39 U.vm ∧ U.heap = h0) (fun _ _ _ _ _ => True) (fun _ U o U' => ∃ v L, o = .returned v ∧ (Q_rmN1 Z a0 p1 h0 n0) v U'.heap L ∧ FrameEnd U o U' L ({ frames := 1, cells := 1, slots := 1, locals := 20 } : Room).cells ({ frames := 1, cells := 1, slots := 1, locals := 20 } : Room).slots) := by
  refine MetFree.of_bodySF (plainFor_of_name pn_0) hisR ?_
  intro p e s m args below meth c s₁ Bd hml0 hP hK
  obtain ⟨rfl, hZ, hh⟩ := hP
  have hx := Bd.exec
  have hby := Bd.bytes
  have hlk : meth.locks = false := Bd.notSynchronized
  have hml : c.maxLocals = 3 := hml0
  have hown : s.vm.findClass "com/example/call_bundler/callbundler/http/Content" = some m.cls := findClass_of_methodNamed Bd.named
  have hnm := (name_of_methodNamed Bd.named Bd.method).1
  have X0 : Stand p l e ({ frames := 1, cells := 1, slots := 1, locals := 20 } : Room) s m #[(.ref a0), (.int p1), (.int p2)] below meth c s₁ [] 0 0 := Stand.of_body Bd
  have e0 : s₁.heap = h0 := by rw [← hh, Bd.state]; rfl
  have N0 := Fr.nil n0
  show Go p e below s ((Q_rmN1 Z a0 p1 h0 n0)) ({ frames := 1, cells := 1, slots := 1, locals := 20 } : Room).cells ({ frames := 1, cells := 1, slots := 1, locals := 20 } : Room).slots (s₁.setTop (entryFrame m #[(.ref a0), (.int p1), (.int p2)] 3))
  rw [ef_2 m a0 p1 p2]
  refine Go.st (S' := s₁.setTop (mkF m 1 #[.val (.ref a0), .val (.int p1), .val (.int p2)] [(.ref a0)])) (fun _ kk => XS.aloadN X0.here hx rfl (hb hby d2_0) rfl rfl kk) ?_
  obtain ⟨T1, X1, e1, st1⟩ := initO X0 hx hZ hown (hw _ (List.mem_of_getElem? (i := 10) rfl)) (hw _ (List.mem_of_getElem? (i := 11) rfl)) (hw _ (List.mem_of_getElem? (i := 12) rfl)) e0 (g := (mkF m 1 #[.val (.ref a0), .val (.int p1), .val (.int p2)] [(.ref a0)])) rfl (by rw [hml]; rfl) rfl (hb hby d2_1) (by decide) (W := 0) (by show 2 * 0 + _ ≤ _; exact Nat.le_of_eq rfl) (by decide)
  refine Go.st (S' := T1.setTop (mkF m 4 #[.val (.ref a0), .val (.int p1), .val (.int p2)] [])) st1 ?_
  refine Go.st (S' := T1.setTop (mkF m 5 #[.val (.ref a0), .val (.int p1), .val (.int p2)] [(.ref a0)])) (fun _ kk => XS.aloadN X1.here hx rfl (hb hby d2_4) rfl rfl kk) ?_
  refine Go.st (S' := T1.setTop (mkF m 6 #[.val (.ref a0), .val (.int p1), .val (.int p2)] [(.int (1 : Int32)), (.ref a0)])) (fun _ kk => XS.iconst X1.here hx rfl (hb hby d2_5) kk) ?_
  obtain ⟨T2, h2, k2, X2, e2, E2, A2, E_b2, O2, st2⟩ := newRA X1 hx hZ (C := "[B") (ty := .byte) hown rfl (hw _ (List.mem_of_getElem? (i := 13) rfl)) (hw _ (List.mem_of_getElem? (i := 14) rfl)) e1 (g := (mkF m 6 #[.val (.ref a0), .val (.int p1), .val (.int p2)] [(.int (1 : Int32)), (.ref a0)])) rfl (hb hby d2_6) rfl (by decide) (cap := 1) (by decide) (by decide) (by decide : 0 + 1 ≤ _) (by decide : 0 + 1 ≤ _) (ad := "[[B") rfl
  obtain ⟨b2, g2⟩ : ∃ z, z = h0.size := ⟨_, rfl⟩
  rw [← g2] at A2 E_b2 st2
  have ne_a0_b2 : a0 ≠ b2 := Nat.ne_of_lt (Nat.lt_of_lt_of_le E_a0.lt (Nat.le_of_eq g2.symm))
  have g_b2 : n0 ≤ b2 := Nat.le_trans Z0 (Nat.le_of_eq g2.symm)
  have sz_b2 : h0.size ≤ b2 := Nat.le_trans (Keep.refl h0 [a0]).1 (Nat.le_of_eq g2.symm)
  have E_a0 := E_a0.ext E2
  have F_a0_pieces := F_a0_pieces.ext E2
  have F_a0_shift := F_a0_shift.ext E2
  have F_a0_mask := F_a0_mask.ext E2
  have F_a0_offset := F_a0_offset.ext E2
  have F_a0_slice := F_a0_slice.ext E2
  have F_a0_count := F_a0_count.ext E2
  have F_a0_length := F_a0_length.ext E2
  have Zs3 := Nat.le_trans Z0 E2.1
  have Kp4 := (Keep.refl h0 [a0]).ext E2
  have V_b2 : Arv Z h2 b2 k2 (.array .byte) (1 : Int32) [.null] .null := (Arv.new A2 (by decide)).pad (pad_rep [] .null 1)
  refine Go.st (S' := T2.setTop (mkF m 9 #[.val (.ref a0), .val (.int p1), .val (.int p2)] [(.ref b2), (.ref a0)])) st2 ?_
  obtain ⟨T5, h5, X5, e5, W5, st5⟩ := putF X2 hx hZ hown (host := "") (Or.inl (hw _ (List.mem_of_getElem? (i := 15) rfl))) Via.refl e2 F_a0_pieces E_a0 (Or.inl (hw _ (List.mem_of_getElem? (i := 16) rfl))) (hw _ (List.mem_of_getElem? (i := 6) rfl)) (ty := (.array (.array .byte))) (by decide) rfl rfl (g := (mkF m 9 #[.val (.ref a0), .val (.int p1), .val (.int p2)] [(.ref b2), (.ref a0)])) rfl rfl (hb hby d2_9)
  have N5 := Fr.snoc X5 N0 g_a0
  have F_a0_pieces := F_a0_pieces.same W5
  have E_a0 := E_a0.wr W5
  have F_a0_shift := F_a0_shift.other W5 (Or.inr (slot_ne (Or.inr (hw _ (List.mem_of_getElem? (i := 18) rfl))) (Or.inl (hw _ (List.mem_of_getElem? (i := 16) rfl))) (by decide) (t := .int) (t' := (.array (.array .byte))) (by decide) (by decide)))
  have F_a0_mask := F_a0_mask.other W5 (Or.inr (slot_ne (Or.inr (hw _ (List.mem_of_getElem? (i := 20) rfl))) (Or.inl (hw _ (List.mem_of_getElem? (i := 16) rfl))) (by decide) (t := .int) (t' := (.array (.array .byte))) (by decide) (by decide)))
  have F_a0_offset := F_a0_offset.other W5 (Or.inr (slot_ne (Or.inr (hw _ (List.mem_of_getElem? (i := 22) rfl))) (Or.inl (hw _ (List.mem_of_getElem? (i := 16) rfl))) (by decide) (t := .int) (t' := (.array (.array .byte))) (by decide) (by decide)))
  have F_a0_slice := F_a0_slice.other W5 (Or.inr (slot_ne (Or.inr (hw _ (List.mem_of_getElem? (i := 24) rfl))) (Or.inl (hw _ (List.mem_of_getElem? (i := 16) rfl))) (by decide) (t := .boolean) (t' := (.array (.array .byte))) (by decide) (by decide)))
  have F_a0_count := F_a0_count.other W5 (Or.inr (slot_ne (Or.inl (hw _ (List.mem_of_getElem? (i := 27) rfl))) (Or.inl (hw _ (List.mem_of_getElem? (i := 16) rfl))) (by decide) (t := .int) (t' := (.array (.array .byte))) (by decide) (by decide)))
  have F_a0_length := F_a0_length.other W5 (Or.inr (slot_ne (Or.inl (hw _ (List.mem_of_getElem? (i := 29) rfl))) (Or.inl (hw _ (List.mem_of_getElem? (i := 16) rfl))) (by decide) (t := .int) (t' := (.array (.array .byte))) (by decide) (by decide)))
  have E_b2 := E_b2.wr W5
  have V_b2 := V_b2.other W5 (Ne.symm ne_a0_b2)
  have Zs6 := Nat.le_trans Zs3 (Keep.of_wr W5).1
  have Kp7 := Kp4.wr W5 (Or.inl (List.mem_of_getElem? (i := 0) rfl))
  refine Go.st (S' := T5.setTop (mkF m 12 #[.val (.ref a0), .val (.int p1), .val (.int p2)] [])) st5 ?_
  refine Go.st (S' := T5.setTop (mkF m 13 #[.val (.ref a0), .val (.int p1), .val (.int p2)] [(.ref a0)])) (fun _ kk => XS.aloadN X5.here hx rfl (hb hby d2_12) rfl rfl kk) ?_
  refine Go.st (S' := T5.setTop (mkF m 14 #[.val (.ref a0), .val (.int p1), .val (.int p2)] [(.int p1), (.ref a0)])) (fun _ kk => XS.iloadN X5.here hx rfl (hb hby d2_13) rfl kk) ?_
  obtain ⟨T8, h8, X8, e8, W8, st8⟩ := putF X5 hx hZ hown (host := "") (Or.inl (hw _ (List.mem_of_getElem? (i := 17) rfl))) Via.refl e5 F_a0_shift E_a0 (Or.inr ⟨(hw _ (List.mem_of_getElem? (i := 18) rfl)), rfl, hnm⟩) (hw _ (List.mem_of_getElem? (i := 6) rfl)) (ty := .int) (by decide) rfl rfl (g := (mkF m 14 #[.val (.ref a0), .val (.int p1), .val (.int p2)] [(.int p1), (.ref a0)])) rfl rfl (hb hby d2_14)
  have N8 := Fr.snoc X8 N5 g_a0
  have F_a0_shift := F_a0_shift.same W8
  have E_a0 := E_a0.wr W8
  have F_a0_pieces := F_a0_pieces.other W8 (Or.inr (slot_ne (Or.inl (hw _ (List.mem_of_getElem? (i := 16) rfl))) (Or.inr (hw _ (List.mem_of_getElem? (i := 18) rfl))) (by decide) (t := (.array (.array .byte))) (t' := .int) (by decide) (by decide)))
  have F_a0_mask := F_a0_mask.other W8 (Or.inr (slot_ne (Or.inr (hw _ (List.mem_of_getElem? (i := 20) rfl))) (Or.inr (hw _ (List.mem_of_getElem? (i := 18) rfl))) (by decide) (t := .int) (t' := .int) (by decide) (by decide)))
  have F_a0_offset := F_a0_offset.other W8 (Or.inr (slot_ne (Or.inr (hw _ (List.mem_of_getElem? (i := 22) rfl))) (Or.inr (hw _ (List.mem_of_getElem? (i := 18) rfl))) (by decide) (t := .int) (t' := .int) (by decide) (by decide)))
  have F_a0_slice := F_a0_slice.other W8 (Or.inr (slot_ne (Or.inr (hw _ (List.mem_of_getElem? (i := 24) rfl))) (Or.inr (hw _ (List.mem_of_getElem? (i := 18) rfl))) (by decide) (t := .boolean) (t' := .int) (by decide) (by decide)))
  have F_a0_count := F_a0_count.other W8 (Or.inr (slot_ne (Or.inl (hw _ (List.mem_of_getElem? (i := 27) rfl))) (Or.inr (hw _ (List.mem_of_getElem? (i := 18) rfl))) (by decide) (t := .int) (t' := .int) (by decide) (by decide)))
  have F_a0_length := F_a0_length.other W8 (Or.inr (slot_ne (Or.inl (hw _ (List.mem_of_getElem? (i := 29) rfl))) (Or.inr (hw _ (List.mem_of_getElem? (i := 18) rfl))) (by decide) (t := .int) (t' := .int) (by decide) (by decide)))
  have E_b2 := E_b2.wr W8
  have V_b2 := V_b2.other W8 (Ne.symm ne_a0_b2)
  have Zs9 := Nat.le_trans Zs6 (Keep.of_wr W8).1
  have Kp10 := Kp7.wr W8 (Or.inl (List.mem_of_getElem? (i := 0) rfl))
  refine Go.st (S' := T8.setTop (mkF m 17 #[.val (.ref a0), .val (.int p1), .val (.int p2)] [])) st8 ?_
  refine Go.st (S' := T8.setTop (mkF m 18 #[.val (.ref a0), .val (.int p1), .val (.int p2)] [(.ref a0)])) (fun _ kk => XS.aloadN X8.here hx rfl (hb hby d2_17) rfl rfl kk) ?_
  refine Go.st (S' := T8.setTop (mkF m 19 #[.val (.ref a0), .val (.int p1), .val (.int p2)] [(.long (1 : Int64)), (.ref a0)])) (fun _ kk => XS.lconst X8.here hx rfl (hb hby d2_18) kk) ?_
  refine Go.st (S' := T8.setTop (mkF m 20 #[.val (.ref a0), .val (.int p1), .val (.int p2)] [(.int p1), (.long (1 : Int64)), (.ref a0)])) (fun _ kk => XS.iloadN X8.here hx rfl (hb hby d2_19) rfl kk) ?_
  refine Go.st (S' := T8.setTop (mkF m 21 #[.val (.ref a0), .val (.int p1), .val (.int p2)] [(.long ((1 : Int64) <<< (p1 &&& 0x3f).toInt64)), (.ref a0)])) (fun _ kk => XS.lshl X8.here hx rfl (hb hby d2_20) rfl kk) ?_
  refine Go.st (S' := T8.setTop (mkF m 22 #[.val (.ref a0), .val (.int p1), .val (.int p2)] [(.long (1 : Int64)), (.long ((1 : Int64) <<< (p1 &&& 0x3f).toInt64)), (.ref a0)])) (fun _ kk => XS.lconst X8.here hx rfl (hb hby d2_21) kk) ?_
  refine Go.st (S' := T8.setTop (mkF m 23 #[.val (.ref a0), .val (.int p1), .val (.int p2)] [(.long (((1 : Int64) <<< (p1 &&& 0x3f).toInt64) - (1 : Int64))), (.ref a0)])) (fun _ kk => XS.lsub X8.here hx rfl (hb hby d2_22) rfl kk) ?_
  refine Go.st (S' := T8.setTop (mkF m 24 #[.val (.ref a0), .val (.int p1), .val (.int p2)] [(.int ((((1 : Int64) <<< (p1 &&& 0x3f).toInt64) - (1 : Int64)).toInt32)), (.ref a0)])) (fun _ kk => XS.l2i X8.here hx rfl (hb hby d2_23) rfl kk) ?_
  obtain ⟨T11, h11, X11, e11, W11, st11⟩ := putF X8 hx hZ hown (host := "") (Or.inl (hw _ (List.mem_of_getElem? (i := 19) rfl))) Via.refl e8 F_a0_mask E_a0 (Or.inr ⟨(hw _ (List.mem_of_getElem? (i := 20) rfl)), rfl, hnm⟩) (hw _ (List.mem_of_getElem? (i := 6) rfl)) (ty := .int) (by decide) rfl rfl (g := (mkF m 24 #[.val (.ref a0), .val (.int p1), .val (.int p2)] [(.int ((((1 : Int64) <<< (p1 &&& 0x3f).toInt64) - (1 : Int64)).toInt32)), (.ref a0)])) rfl rfl (hb hby d2_24)
  have N11 := Fr.snoc X11 N8 g_a0
  have F_a0_mask := F_a0_mask.same W11
  have E_a0 := E_a0.wr W11
  have F_a0_pieces := F_a0_pieces.other W11 (Or.inr (slot_ne (Or.inl (hw _ (List.mem_of_getElem? (i := 16) rfl))) (Or.inr (hw _ (List.mem_of_getElem? (i := 20) rfl))) (by decide) (t := (.array (.array .byte))) (t' := .int) (by decide) (by decide)))
  have F_a0_shift := F_a0_shift.other W11 (Or.inr (slot_ne (Or.inr (hw _ (List.mem_of_getElem? (i := 18) rfl))) (Or.inr (hw _ (List.mem_of_getElem? (i := 20) rfl))) (by decide) (t := .int) (t' := .int) (by decide) (by decide)))
  have F_a0_offset := F_a0_offset.other W11 (Or.inr (slot_ne (Or.inr (hw _ (List.mem_of_getElem? (i := 22) rfl))) (Or.inr (hw _ (List.mem_of_getElem? (i := 20) rfl))) (by decide) (t := .int) (t' := .int) (by decide) (by decide)))
  have F_a0_slice := F_a0_slice.other W11 (Or.inr (slot_ne (Or.inr (hw _ (List.mem_of_getElem? (i := 24) rfl))) (Or.inr (hw _ (List.mem_of_getElem? (i := 20) rfl))) (by decide) (t := .boolean) (t' := .int) (by decide) (by decide)))
  have F_a0_count := F_a0_count.other W11 (Or.inr (slot_ne (Or.inl (hw _ (List.mem_of_getElem? (i := 27) rfl))) (Or.inr (hw _ (List.mem_of_getElem? (i := 20) rfl))) (by decide) (t := .int) (t' := .int) (by decide) (by decide)))
  have F_a0_length := F_a0_length.other W11 (Or.inr (slot_ne (Or.inl (hw _ (List.mem_of_getElem? (i := 29) rfl))) (Or.inr (hw _ (List.mem_of_getElem? (i := 20) rfl))) (by decide) (t := .int) (t' := .int) (by decide) (by decide)))
  have E_b2 := E_b2.wr W11
  have V_b2 := V_b2.other W11 (Ne.symm ne_a0_b2)
  have Zs12 := Nat.le_trans Zs9 (Keep.of_wr W11).1
  have Kp13 := Kp10.wr W11 (Or.inl (List.mem_of_getElem? (i := 0) rfl))
  refine Go.st (S' := T11.setTop (mkF m 27 #[.val (.ref a0), .val (.int p1), .val (.int p2)] [])) st11 ?_
  refine Go.st (S' := T11.setTop (mkF m 28 #[.val (.ref a0), .val (.int p1), .val (.int p2)] [(.ref a0)])) (fun _ kk => XS.aloadN X11.here hx rfl (hb hby d2_27) rfl rfl kk) ?_
  refine Go.st (S' := T11.setTop (mkF m 29 #[.val (.ref a0), .val (.int p1), .val (.int p2)] [(.int (0 : Int32)), (.ref a0)])) (fun _ kk => XS.iconst X11.here hx rfl (hb hby d2_28) kk) ?_
  obtain ⟨T14, h14, X14, e14, W14, st14⟩ := putF X11 hx hZ hown (host := "") (Or.inl (hw _ (List.mem_of_getElem? (i := 21) rfl))) Via.refl e11 F_a0_offset E_a0 (Or.inr ⟨(hw _ (List.mem_of_getElem? (i := 22) rfl)), rfl, hnm⟩) (hw _ (List.mem_of_getElem? (i := 6) rfl)) (ty := .int) (by decide) rfl rfl (g := (mkF m 29 #[.val (.ref a0), .val (.int p1), .val (.int p2)] [(.int (0 : Int32)), (.ref a0)])) rfl rfl (hb hby d2_29)
  have N14 := Fr.snoc X14 N11 g_a0
  have F_a0_offset := F_a0_offset.same W14
  have E_a0 := E_a0.wr W14
  have F_a0_pieces := F_a0_pieces.other W14 (Or.inr (slot_ne (Or.inl (hw _ (List.mem_of_getElem? (i := 16) rfl))) (Or.inr (hw _ (List.mem_of_getElem? (i := 22) rfl))) (by decide) (t := (.array (.array .byte))) (t' := .int) (by decide) (by decide)))
  have F_a0_shift := F_a0_shift.other W14 (Or.inr (slot_ne (Or.inr (hw _ (List.mem_of_getElem? (i := 18) rfl))) (Or.inr (hw _ (List.mem_of_getElem? (i := 22) rfl))) (by decide) (t := .int) (t' := .int) (by decide) (by decide)))
  have F_a0_mask := F_a0_mask.other W14 (Or.inr (slot_ne (Or.inr (hw _ (List.mem_of_getElem? (i := 20) rfl))) (Or.inr (hw _ (List.mem_of_getElem? (i := 22) rfl))) (by decide) (t := .int) (t' := .int) (by decide) (by decide)))
  have F_a0_slice := F_a0_slice.other W14 (Or.inr (slot_ne (Or.inr (hw _ (List.mem_of_getElem? (i := 24) rfl))) (Or.inr (hw _ (List.mem_of_getElem? (i := 22) rfl))) (by decide) (t := .boolean) (t' := .int) (by decide) (by decide)))
  have F_a0_count := F_a0_count.other W14 (Or.inr (slot_ne (Or.inl (hw _ (List.mem_of_getElem? (i := 27) rfl))) (Or.inr (hw _ (List.mem_of_getElem? (i := 22) rfl))) (by decide) (t := .int) (t' := .int) (by decide) (by decide)))
  have F_a0_length := F_a0_length.other W14 (Or.inr (slot_ne (Or.inl (hw _ (List.mem_of_getElem? (i := 29) rfl))) (Or.inr (hw _ (List.mem_of_getElem? (i := 22) rfl))) (by decide) (t := .int) (t' := .int) (by decide) (by decide)))
  have E_b2 := E_b2.wr W14
  have V_b2 := V_b2.other W14 (Ne.symm ne_a0_b2)
  have Zs15 := Nat.le_trans Zs12 (Keep.of_wr W14).1
  have Kp16 := Kp13.wr W14 (Or.inl (List.mem_of_getElem? (i := 0) rfl))
  refine Go.st (S' := T14.setTop (mkF m 32 #[.val (.ref a0), .val (.int p1), .val (.int p2)] [])) st14 ?_
  refine Go.st (S' := T14.setTop (mkF m 33 #[.val (.ref a0), .val (.int p1), .val (.int p2)] [(.ref a0)])) (fun _ kk => XS.aloadN X14.here hx rfl (hb hby d2_32) rfl rfl kk) ?_
  refine Go.st (S' := T14.setTop (mkF m 34 #[.val (.ref a0), .val (.int p1), .val (.int p2)] [(.int (0 : Int32)), (.ref a0)])) (fun _ kk => XS.iconst X14.here hx rfl (hb hby d2_33) kk) ?_
  obtain ⟨T17, h17, X17, e17, W17, st17⟩ := putFN X14 hx hZ hown (hw _ (List.mem_of_getElem? (i := 23) rfl)) Via.refl e14 F_a0_slice E_a0 (Or.inr ⟨(hw _ (List.mem_of_getElem? (i := 24) rfl)), rfl, hnm⟩) (hw _ (List.mem_of_getElem? (i := 6) rfl)) (ty := .boolean) (v' := .int (nar .boolean (0 : Int32))) (by decide) rfl (fits_nar_bool _) (g := (mkF m 34 #[.val (.ref a0), .val (.int p1), .val (.int p2)] [(.int (0 : Int32)), (.ref a0)])) rfl rfl (hb hby d2_34)
  have N17 := Fr.snoc X17 N14 g_a0
  have F_a0_slice := F_a0_slice.same W17
  have E_a0 := E_a0.wr W17
  have F_a0_pieces := F_a0_pieces.other W17 (Or.inr (slot_ne (Or.inl (hw _ (List.mem_of_getElem? (i := 16) rfl))) (Or.inr (hw _ (List.mem_of_getElem? (i := 24) rfl))) (by decide) (t := (.array (.array .byte))) (t' := .boolean) (by decide) (by decide)))
  have F_a0_shift := F_a0_shift.other W17 (Or.inr (slot_ne (Or.inr (hw _ (List.mem_of_getElem? (i := 18) rfl))) (Or.inr (hw _ (List.mem_of_getElem? (i := 24) rfl))) (by decide) (t := .int) (t' := .boolean) (by decide) (by decide)))
  have F_a0_mask := F_a0_mask.other W17 (Or.inr (slot_ne (Or.inr (hw _ (List.mem_of_getElem? (i := 20) rfl))) (Or.inr (hw _ (List.mem_of_getElem? (i := 24) rfl))) (by decide) (t := .int) (t' := .boolean) (by decide) (by decide)))
  have F_a0_offset := F_a0_offset.other W17 (Or.inr (slot_ne (Or.inr (hw _ (List.mem_of_getElem? (i := 22) rfl))) (Or.inr (hw _ (List.mem_of_getElem? (i := 24) rfl))) (by decide) (t := .int) (t' := .boolean) (by decide) (by decide)))
  have F_a0_count := F_a0_count.other W17 (Or.inr (slot_ne (Or.inl (hw _ (List.mem_of_getElem? (i := 27) rfl))) (Or.inr (hw _ (List.mem_of_getElem? (i := 24) rfl))) (by decide) (t := .int) (t' := .boolean) (by decide) (by decide)))
  have F_a0_length := F_a0_length.other W17 (Or.inr (slot_ne (Or.inl (hw _ (List.mem_of_getElem? (i := 29) rfl))) (Or.inr (hw _ (List.mem_of_getElem? (i := 24) rfl))) (by decide) (t := .int) (t' := .boolean) (by decide) (by decide)))
  have E_b2 := E_b2.wr W17
  have V_b2 := V_b2.other W17 (Ne.symm ne_a0_b2)
  have Zs18 := Nat.le_trans Zs15 (Keep.of_wr W17).1
  have Kp19 := Kp16.wr W17 (Or.inl (List.mem_of_getElem? (i := 0) rfl))
  refine Go.st (S' := T17.setTop (mkF m 37 #[.val (.ref a0), .val (.int p1), .val (.int p2)] [])) st17 ?_
  refine Go.st (S' := T17.setTop (mkF m 38 #[.val (.ref a0), .val (.int p1), .val (.int p2)] [(.int p2)])) (fun _ kk => XS.iloadN X17.here hx rfl (hb hby d2_37) rfl kk) ?_
  refine Go.st (S' := T17.setTop (mkF m 55 #[.val (.ref a0), .val (.int p1), .val (.int p2)] [])) (fun _ kk => XS.ifYes X17.here hx rfl (pc0 := 38) (pc' := 55) rfl (hb hby d2_38) rfl ((if0 _ _).trans (flt hp2).2.2.2) (by decide) (by decide) kk) ?_
  exact Go.ret0 X17 hx hlk Bd.returns (hb hby d2_55) (by rw [e17]; exact ⟨_, _, rfl, N17, Kp19, E_a0, sz_b2, O2, V_b2, g_b2, F_a0_pieces, F_a0_shift, F_a0_mask, F_a0_offset, F_a0_slice, F_a0_count, F_a0_length⟩) (by decide) (by decide)
def Q_rmOf (Z : State) (a0 : Addr) (h0 : Heap) (n0 : Nat) (v : Option Value) (h : Heap) (L : List Loc) : Prop := ∃ (r t : Addr) (kk : ClassId), v = some (.ref r) ∧ Fr n0 L ∧ Keep h0 h [] ∧ Exa Z h r "com/example/call_bundler/callbundler/http/Content" ∧ h0.size ≤ r ∧ h0.size ≤ t ∧ Arv Z h t kk (.array .byte) (1 : Int32) [.ref a0] .null ∧ Fld Z h r "com/example/call_bundler/callbundler/http/Content" "pieces" "[[B" (.ref t) ∧ Fld Z h r "com/example/call_bundler/callbundler/http/Content" "shift" "I" (.int (31 : Int32)) ∧ Fld Z h r "com/example/call_bundler/callbundler/http/Content" "mask" "I" (.int ((((1 : Int64) <<< ((31 : Int32) &&& 0x3f).toInt64) - (1 : Int64)).toInt32)) ∧ Fld Z h r "com/example/call_bundler/callbundler/http/Content" "offset" "I" (.int (0 : Int32)) ∧ Fld Z h r "com/example/call_bundler/callbundler/http/Content" "slice" "Z" (.int (nar .boolean (0 : Int32))) ∧ Fld Z h r "com/example/call_bundler/callbundler/http/Content" "count" "I" (.int (1 : Int32)) ∧ Fld Z h r "com/example/call_bundler/callbundler/http/Content" "length" "I" (.int (8 : Int32))
theorem d1_0 : decode prog_14_method_3_code 0 = .ok (.new 10, 3) := by decide +kernel
theorem d1_3 : decode prog_14_method_3_code 3 = .ok (.dup, 1) := by decide +kernel
theorem d1_4 : decode prog_14_method_3_code 4 = .ok (.bipush 31, 2) := by decide +kernel
theorem d1_6 : decode prog_14_method_3_code 6 = .ok (.iconst 0, 1) := by decide +kernel
theorem d1_7 : decode prog_14_method_3_code 7 = .ok (.invokespecial 35, 3) := by decide +kernel
theorem d1_10 : decode prog_14_method_3_code 10 = .ok (.astore_n 1, 1) := by decide +kernel
theorem d1_11 : decode prog_14_method_3_code 11 = .ok (.aload_n 1, 1) := by decide +kernel
theorem d1_12 : decode prog_14_method_3_code 12 = .ok (.getfield 9, 3) := by decide +kernel
theorem d1_15 : decode prog_14_method_3_code 15 = .ok (.iconst 0, 1) := by decide +kernel
theorem d1_16 : decode prog_14_method_3_code 16 = .ok (.aload_n 0, 1) := by decide +kernel
theorem d1_17 : decode prog_14_method_3_code 17 = .ok (.aastore, 1) := by decide +kernel
theorem d1_18 : decode prog_14_method_3_code 18 = .ok (.aload_n 1, 1) := by decide +kernel
theorem d1_19 : decode prog_14_method_3_code 19 = .ok (.iconst 1, 1) := by decide +kernel
theorem d1_20 : decode prog_14_method_3_code 20 = .ok (.putfield 29, 3) := by decide +kernel
theorem d1_23 : decode prog_14_method_3_code 23 = .ok (.aload_n 1, 1) := by decide +kernel
theorem d1_24 : decode prog_14_method_3_code 24 = .ok (.aload_n 0, 1) := by decide +kernel
theorem d1_25 : decode prog_14_method_3_code 25 = .ok (.arraylength, 1) := by decide +kernel
theorem d1_26 : decode prog_14_method_3_code 26 = .ok (.putfield 32, 3) := by decide +kernel
theorem d1_29 : decode prog_14_method_3_code 29 = .ok (.aload_n 1, 1) := by decide +kernel
theorem d1_30 : decode prog_14_method_3_code 30 = .ok (.areturn, 1) := by decide +kernel
theorem ef_1 (m : MethodId) (a0 : Addr) : entryFrame m #[(.ref a0)] 2 = mkF m 0 #[.val (.ref a0), .unset] [] := by first | (simp [entryFrame, mkF, argsToLocals, Value.category]; done) | rfl
set_option maxRecDepth 65536 in
set_option maxHeartbeats 40000000 in
theorem rmOf (l : Launch) (Z : State) (az : Array Value) (hw : ∀ d ∈ tables_1, d.before az Z = true) (ws : List Jvm.Cond) (a0 : Addr) (ka : ClassId) (bs : List Int32) (h0 : Heap) (n0 : Nat) (Z0 : n0 ≤ h0.size) (E_a0 : Exa Z h0 a0 "[B") (V_a0 : Arv Z h0 a0 ka .byte (8 : Int32) (bs.map .int) (.int 0)) :
    MetFree l (⟨"com/example/call_bundler/callbundler/http/Content", "of", "([B)Lcom/example/call_bundler/callbundler/http/Content;"⟩ : MethodName) (head1 (Jvm.Cond.code (⟨"com/example/call_bundler/callbundler/http/Content", "of", "([B)Lcom/example/call_bundler/callbundler/http/Content;"⟩ : MethodName) prog_14_method_3_code 2 (some (.object "com/example/call_bundler/callbundler/http/Content")) :: ws) ({ frames := 2, cells := 2, slots := 8, locals := 40 } : Room)) (fun a U => a = #[(.ref a0)] ∧ Z.Warmed39 U.vm ∧ U.heap = h0) (fun _ _ _ _ _ => True) (fun _ U o U' => ∃ v L, o = .returned v ∧ (Q_rmOf Z a0 h0 n0) v U'.heap L ∧ FrameEnd U o U' L ({ frames := 2, cells := 2, slots := 8, locals := 40 } : Room).cells ({ frames := 2, cells := 2, slots := 8, locals := 40 } : Room).slots) := by
  refine MetFree.of_bodySF (plainFor_of_name pn_0) hisR ?_
  intro p e s m args below meth c s₁ Bd hml0 hP hK
  obtain ⟨rfl, hZ, hh⟩ := hP
  have hx := Bd.exec
  have hby := Bd.bytes
  have hlk : meth.locks = false := Bd.notSynchronized
  have hml : c.maxLocals = 2 := hml0
  have hown : s.vm.findClass "com/example/call_bundler/callbundler/http/Content" = some m.cls := findClass_of_methodNamed Bd.named
  have hnm := (name_of_methodNamed Bd.named Bd.method).1
  have X0 : Stand p l e ({ frames := 2, cells := 2, slots := 8, locals := 40 } : Room) s m #[(.ref a0)] below meth c s₁ [] 0 0 := Stand.of_body Bd
  have e0 : s₁.heap = h0 := by rw [← hh, Bd.state]; rfl
  have N0 := Fr.nil n0
  show Go p e below s ((Q_rmOf Z a0 h0 n0)) ({ frames := 2, cells := 2, slots := 8, locals := 40 } : Room).cells ({ frames := 2, cells := 2, slots := 8, locals := 40 } : Room).slots (s₁.setTop (entryFrame m #[(.ref a0)] 2))
  rw [ef_1 m a0]
  obtain ⟨T1, h1, X1, e1, E1, A1, D1, -, st1⟩ := newO X0 hx hZ hown (hw _ (List.mem_of_getElem? (i := 5) rfl)) (hw _ (List.mem_of_getElem? (i := 6) rfl)) (hw _ (List.mem_of_getElem? (i := 3) rfl)) e0 (g := (mkF m 0 #[.val (.ref a0), .unset] [])) rfl (hb hby d1_0) (by decide : 0 + 1 ≤ _) (by decide : 0 + 7 ≤ _)
  obtain ⟨b1, g1⟩ : ∃ z, z = h0.size := ⟨_, rfl⟩
  rw [← g1] at A1 D1 st1
  have ne_a0_b1 : a0 ≠ b1 := Nat.ne_of_lt (Nat.lt_of_lt_of_le E_a0.lt (Nat.le_of_eq g1.symm))
  have g_b1 : n0 ≤ b1 := Nat.le_trans Z0 (Nat.le_of_eq g1.symm)
  have sz_b1 : h0.size ≤ b1 := Nat.le_trans (Keep.refl h0 []).1 (Nat.le_of_eq g1.symm)
  have E_a0 := E_a0.ext E1
  have V_a0 := V_a0.ext E1
  have Zs2 := Nat.le_trans Z0 E1.1
  have Kp3 := (Keep.refl h0 []).ext E1
  have E_b1 := A1
  have F_pieces_b1 : Fld Z h1 b1 "com/example/call_bundler/callbundler/http/Content" "pieces" "[[B" .null := D1 (Or.inl (hw _ (List.mem_of_getElem? (i := 16) rfl))) (ty := (.array (.array .byte))) (by decide)
  have F_shift_b1 : Fld Z h1 b1 "com/example/call_bundler/callbundler/http/Content" "shift" "I" (.int (0 : Int32)) := D1 (Or.inr (hw _ (List.mem_of_getElem? (i := 18) rfl))) (ty := .int) (by decide)
  have F_mask_b1 : Fld Z h1 b1 "com/example/call_bundler/callbundler/http/Content" "mask" "I" (.int (0 : Int32)) := D1 (Or.inr (hw _ (List.mem_of_getElem? (i := 20) rfl))) (ty := .int) (by decide)
  have F_offset_b1 : Fld Z h1 b1 "com/example/call_bundler/callbundler/http/Content" "offset" "I" (.int (0 : Int32)) := D1 (Or.inr (hw _ (List.mem_of_getElem? (i := 22) rfl))) (ty := .int) (by decide)
  have F_slice_b1 : Fld Z h1 b1 "com/example/call_bundler/callbundler/http/Content" "slice" "Z" (.int (0 : Int32)) := D1 (Or.inr (hw _ (List.mem_of_getElem? (i := 24) rfl))) (ty := .boolean) (by decide)
  have F_count_b1 : Fld Z h1 b1 "com/example/call_bundler/callbundler/http/Content" "count" "I" (.int (0 : Int32)) := D1 (Or.inl (hw _ (List.mem_of_getElem? (i := 27) rfl))) (ty := .int) (by decide)
  have F_length_b1 : Fld Z h1 b1 "com/example/call_bundler/callbundler/http/Content" "length" "I" (.int (0 : Int32)) := D1 (Or.inl (hw _ (List.mem_of_getElem? (i := 29) rfl))) (ty := .int) (by decide)
  refine Go.st (S' := T1.setTop (mkF m 3 #[.val (.ref a0), .unset] [(.ref b1)])) st1 ?_
  refine Go.st (S' := T1.setTop (mkF m 4 #[.val (.ref a0), .unset] [(.ref b1), (.ref b1)])) (fun _ kk => XS.dup X1.here hx rfl (hb hby d1_3) rfl rfl kk) ?_
  refine Go.st (S' := T1.setTop (mkF m 6 #[.val (.ref a0), .unset] [(.int (31 : Int32)), (.ref b1), (.ref b1)])) (fun _ kk => XS.bipush X1.here hx rfl (hb hby d1_4) kk) ?_
  refine Go.st (S' := T1.setTop (mkF m 7 #[.val (.ref a0), .unset] [(.int (0 : Int32)), (.int (31 : Int32)), (.ref b1), (.ref b1)])) (fun _ kk => XS.iconst X1.here hx rfl (hb hby d1_6) kk) ?_
  obtain ⟨_, _, ⟨T4, L4, k4, n4⟩, -, X4, ⟨Lc4, hQ4, l4, y4, z4⟩, st4⟩ := X1.specialBack hx (y := (⟨"com/example/call_bundler/callbundler/http/Content", "<init>", "(II)V"⟩ : MethodName)) rfl hown (mvT hZ (hw _ (List.mem_of_getElem? (i := 7) rfl))) (mvT hZ (hw _ (List.mem_of_getElem? (i := 8) rfl))) (mvT hZ (hw _ (List.mem_of_getElem? (i := 9) rfl))) (by decide) (backOf (W := 1) (rmN1 l Z az hw [] b1 (31 : Int32) (0 : Int32) h1 n0 Zs2 E_b1 F_pieces_b1 F_shift_b1 F_mask_b1 F_offset_b1 F_slice_b1 F_count_b1 F_length_b1 g_b1 (by decide)) hZ (hw _ (List.mem_of_getElem? (i := 9) rfl)) (hw _ (List.mem_of_getElem? (i := 3) rfl)) (by decide) (by decide)) (g := (mkF m 7 #[.val (.ref a0), .unset] [(.int (0 : Int32)), (.int (31 : Int32)), (.ref b1), (.ref b1)])) rfl (by rw [hml]; rfl) (Steps.refl _) (a := b1) (argsL := [(.int (31 : Int32)), (.int (0 : Int32))]) (rest := [(.ref b1)]) (lenOf pd_1 rfl) rfl (by show 2 * 0 + _ ≤ _; exact Nat.le_of_eq rfl) (hb hby d1_7) (fun _ _ => ⟨rfl, e1, (by decide : 1 + 1 ≤ _), (by decide : 7 + 1 ≤ _)⟩)
  dsimp only [Pt.U, Pt.locs, Pt.cells, Pt.slots] at X4 l4 y4 z4 st4 hQ4
  subst l4 y4 z4
  obtain ⟨t4, kk4, rfl, N4q, K4, Ec4, sz_t4, O4, V4, g_t4, Fc4_pieces, Fc4_shift, Fc4_mask, Fc4_offset, Fc4_slice, Fc4_count, Fc4_length⟩ := hQ4
  have N4 := Fr.app N0 N4q
  have ne_a0_t4 : a0 ≠ t4 := Nat.ne_of_lt (Nat.lt_of_lt_of_le E_a0.lt sz_t4)
  have ne_b1_t4 : b1 ≠ t4 := Nat.ne_of_lt (Nat.lt_of_lt_of_le E_b1.lt sz_t4)
  have E_a0 := E_a0.keep K4
  have V_a0 := V_a0.keep K4 (ninS ne_a0_b1 nin0)
  have E_b1 := E_b1.keep K4
  have Zs5 := Nat.le_trans Zs2 K4.1
  have Kp6 := Kp3.trans K4 (allS (Or.inr sz_b1) all0)
  have szz_t4 : h0.size ≤ t4 := Nat.le_trans Kp3.1 sz_t4
  refine Go.tr (S' := T4.setTop (mkF m 10 #[.val (.ref a0), .unset] [(.ref b1)])) st4 ?_
  refine Go.st (S' := T4.setTop (mkF m 11 #[.val (.ref a0), .val (.ref b1)] [])) (fun _ kk => XS.astoreN X4.here hx rfl (hb hby d1_10) rfl rfl (l' := #[.val (.ref a0), .val (.ref b1)]) rfl kk) ?_
  refine Go.st (S' := T4.setTop (mkF m 12 #[.val (.ref a0), .val (.ref b1)] [(.ref b1)])) (fun _ kk => XS.aloadN X4.here hx rfl (hb hby d1_11) rfl rfl kk) ?_
  obtain ⟨T7, X7, e7, st7⟩ := getF X4 hx hZ hown (host := "") (Or.inl (hw _ (List.mem_of_getElem? (i := 15) rfl))) Via.refl rfl Fc4_pieces (g := (mkF m 12 #[.val (.ref a0), .val (.ref b1)] [(.ref b1)])) rfl rfl (hb hby d1_12)
  refine Go.st (S' := T7.setTop (mkF m 15 #[.val (.ref a0), .val (.ref b1)] [(.ref t4)])) st7 ?_
  refine Go.st (S' := T7.setTop (mkF m 16 #[.val (.ref a0), .val (.ref b1)] [(.int (0 : Int32)), (.ref t4)])) (fun _ kk => XS.iconst X7.here hx rfl (hb hby d1_15) kk) ?_
  refine Go.st (S' := T7.setTop (mkF m 17 #[.val (.ref a0), .val (.ref b1)] [(.ref a0), (.int (0 : Int32)), (.ref t4)])) (fun _ kk => XS.aloadN X7.here hx rfl (hb hby d1_16) rfl rfl kk) ?_
  obtain ⟨cl8, Ar8, q8, S8, Ng8, H8, G8⟩ := (id V4)
  have hin8 : ¬ ((0 : Int32) < 0 ∨ cl8.slots.size ≤ ((0 : Int32)).toNatClampNeg) := inb_of S8 ⟨by decide, by decide⟩
  obtain ⟨T8, h8, X8, e8, W8, st8⟩ := stR X7 hx hZ e7 Ar8 (j := (0 : Int32)) hin8 rfl (Sto.ofVA Ar8 q8 O4 (Ins.self E_a0)) (g := (mkF m 17 #[.val (.ref a0), .val (.ref b1)] [(.ref a0), (.int (0 : Int32)), (.ref t4)])) rfl rfl (hb hby d1_17)
  have V4 : Arv Z h8 t4 kk4 (.array .byte) (1 : Int32) [(.ref a0)] .null := Arv.set Ar8 q8 S8 Ng8 H8 G8 rfl W8 0 rfl (Nat.le_of_ble_eq_true rfl)
  have N8 := Fr.snoc X8 N4 g_t4
  have E_a0 := E_a0.wr W8
  have V_a0 := V_a0.other W8 ne_a0_t4
  have E_b1 := E_b1.wr W8
  have Fc4_pieces := Fc4_pieces.other W8 (Or.inl ne_b1_t4)
  have Fc4_shift := Fc4_shift.other W8 (Or.inl ne_b1_t4)
  have Fc4_mask := Fc4_mask.other W8 (Or.inl ne_b1_t4)
  have Fc4_offset := Fc4_offset.other W8 (Or.inl ne_b1_t4)
  have Fc4_slice := Fc4_slice.other W8 (Or.inl ne_b1_t4)
  have Fc4_count := Fc4_count.other W8 (Or.inl ne_b1_t4)
  have Fc4_length := Fc4_length.other W8 (Or.inl ne_b1_t4)
  have Zs9 := Nat.le_trans Zs5 (Keep.of_wr W8).1
  have Kp10 := Kp6.wr W8 (Or.inr szz_t4)
  refine Go.st (S' := T8.setTop (mkF m 18 #[.val (.ref a0), .val (.ref b1)] [])) st8 ?_
  refine Go.st (S' := T8.setTop (mkF m 19 #[.val (.ref a0), .val (.ref b1)] [(.ref b1)])) (fun _ kk => XS.aloadN X8.here hx rfl (hb hby d1_18) rfl rfl kk) ?_
  refine Go.st (S' := T8.setTop (mkF m 20 #[.val (.ref a0), .val (.ref b1)] [(.int (1 : Int32)), (.ref b1)])) (fun _ kk => XS.iconst X8.here hx rfl (hb hby d1_19) kk) ?_
  obtain ⟨T11, h11, X11, e11, W11, st11⟩ := putF X8 hx hZ hown (host := "") (Or.inl (hw _ (List.mem_of_getElem? (i := 26) rfl))) Via.refl e8 Fc4_count E_b1 (Or.inl (hw _ (List.mem_of_getElem? (i := 27) rfl))) (hw _ (List.mem_of_getElem? (i := 6) rfl)) (ty := .int) (by decide) rfl rfl (g := (mkF m 20 #[.val (.ref a0), .val (.ref b1)] [(.int (1 : Int32)), (.ref b1)])) rfl rfl (hb hby d1_20)
  have N11 := Fr.snoc X11 N8 g_b1
  have Fc4_count := Fc4_count.same W11
  have E_a0 := E_a0.wr W11
  have V_a0 := V_a0.other W11 ne_a0_b1
  have E_b1 := E_b1.wr W11
  have Fc4_pieces := Fc4_pieces.other W11 (Or.inr (slot_ne (Or.inl (hw _ (List.mem_of_getElem? (i := 16) rfl))) (Or.inl (hw _ (List.mem_of_getElem? (i := 27) rfl))) (by decide) (t := (.array (.array .byte))) (t' := .int) (by decide) (by decide)))
  have Fc4_shift := Fc4_shift.other W11 (Or.inr (slot_ne (Or.inr (hw _ (List.mem_of_getElem? (i := 18) rfl))) (Or.inl (hw _ (List.mem_of_getElem? (i := 27) rfl))) (by decide) (t := .int) (t' := .int) (by decide) (by decide)))
  have Fc4_mask := Fc4_mask.other W11 (Or.inr (slot_ne (Or.inr (hw _ (List.mem_of_getElem? (i := 20) rfl))) (Or.inl (hw _ (List.mem_of_getElem? (i := 27) rfl))) (by decide) (t := .int) (t' := .int) (by decide) (by decide)))
  have Fc4_offset := Fc4_offset.other W11 (Or.inr (slot_ne (Or.inr (hw _ (List.mem_of_getElem? (i := 22) rfl))) (Or.inl (hw _ (List.mem_of_getElem? (i := 27) rfl))) (by decide) (t := .int) (t' := .int) (by decide) (by decide)))
  have Fc4_slice := Fc4_slice.other W11 (Or.inr (slot_ne (Or.inr (hw _ (List.mem_of_getElem? (i := 24) rfl))) (Or.inl (hw _ (List.mem_of_getElem? (i := 27) rfl))) (by decide) (t := .boolean) (t' := .int) (by decide) (by decide)))
  have Fc4_length := Fc4_length.other W11 (Or.inr (slot_ne (Or.inl (hw _ (List.mem_of_getElem? (i := 29) rfl))) (Or.inl (hw _ (List.mem_of_getElem? (i := 27) rfl))) (by decide) (t := .int) (t' := .int) (by decide) (by decide)))
  have V4 := V4.other W11 (Ne.symm ne_b1_t4)
  have Zs12 := Nat.le_trans Zs9 (Keep.of_wr W11).1
  have Kp13 := Kp10.wr W11 (Or.inr sz_b1)
  refine Go.st (S' := T11.setTop (mkF m 23 #[.val (.ref a0), .val (.ref b1)] [])) st11 ?_
  refine Go.st (S' := T11.setTop (mkF m 24 #[.val (.ref a0), .val (.ref b1)] [(.ref b1)])) (fun _ kk => XS.aloadN X11.here hx rfl (hb hby d1_23) rfl rfl kk) ?_
  refine Go.st (S' := T11.setTop (mkF m 25 #[.val (.ref a0), .val (.ref b1)] [(.ref a0), (.ref b1)])) (fun _ kk => XS.aloadN X11.here hx rfl (hb hby d1_24) rfl rfl kk) ?_
  obtain ⟨cl14, Ar14, -, S14, Ng14, -, -⟩ := (id V_a0)
  refine Go.st (S' := T11.setTop (mkF m 26 #[.val (.ref a0), .val (.ref b1)] [(.int (8 : Int32)), (.ref b1)])) (fun _ kk => X11.arraylength hx (by rw [e11]; exact Ar14.1) (State.isArrayOf_alike hZ.alike Ar14.2.1) (g := (mkF m 25 #[.val (.ref a0), .val (.ref b1)] [(.ref a0), (.ref b1)])) rfl rfl (hb hby d1_25) _ (by rw [len_of S14 Ng14]; exact kk)) ?_
  obtain ⟨T15, h15, X15, e15, W15, st15⟩ := putF X11 hx hZ hown (host := "") (Or.inl (hw _ (List.mem_of_getElem? (i := 28) rfl))) Via.refl e11 Fc4_length E_b1 (Or.inl (hw _ (List.mem_of_getElem? (i := 29) rfl))) (hw _ (List.mem_of_getElem? (i := 6) rfl)) (ty := .int) (by decide) rfl rfl (g := (mkF m 26 #[.val (.ref a0), .val (.ref b1)] [(.int (8 : Int32)), (.ref b1)])) rfl rfl (hb hby d1_26)
  have N15 := Fr.snoc X15 N11 g_b1
  have Fc4_length := Fc4_length.same W15
  have E_a0 := E_a0.wr W15
  have V_a0 := V_a0.other W15 ne_a0_b1
  have E_b1 := E_b1.wr W15
  have Fc4_pieces := Fc4_pieces.other W15 (Or.inr (slot_ne (Or.inl (hw _ (List.mem_of_getElem? (i := 16) rfl))) (Or.inl (hw _ (List.mem_of_getElem? (i := 29) rfl))) (by decide) (t := (.array (.array .byte))) (t' := .int) (by decide) (by decide)))
  have Fc4_shift := Fc4_shift.other W15 (Or.inr (slot_ne (Or.inr (hw _ (List.mem_of_getElem? (i := 18) rfl))) (Or.inl (hw _ (List.mem_of_getElem? (i := 29) rfl))) (by decide) (t := .int) (t' := .int) (by decide) (by decide)))
  have Fc4_mask := Fc4_mask.other W15 (Or.inr (slot_ne (Or.inr (hw _ (List.mem_of_getElem? (i := 20) rfl))) (Or.inl (hw _ (List.mem_of_getElem? (i := 29) rfl))) (by decide) (t := .int) (t' := .int) (by decide) (by decide)))
  have Fc4_offset := Fc4_offset.other W15 (Or.inr (slot_ne (Or.inr (hw _ (List.mem_of_getElem? (i := 22) rfl))) (Or.inl (hw _ (List.mem_of_getElem? (i := 29) rfl))) (by decide) (t := .int) (t' := .int) (by decide) (by decide)))
  have Fc4_slice := Fc4_slice.other W15 (Or.inr (slot_ne (Or.inr (hw _ (List.mem_of_getElem? (i := 24) rfl))) (Or.inl (hw _ (List.mem_of_getElem? (i := 29) rfl))) (by decide) (t := .boolean) (t' := .int) (by decide) (by decide)))
  have Fc4_count := Fc4_count.other W15 (Or.inr (slot_ne (Or.inl (hw _ (List.mem_of_getElem? (i := 27) rfl))) (Or.inl (hw _ (List.mem_of_getElem? (i := 29) rfl))) (by decide) (t := .int) (t' := .int) (by decide) (by decide)))
  have V4 := V4.other W15 (Ne.symm ne_b1_t4)
  have Zs16 := Nat.le_trans Zs12 (Keep.of_wr W15).1
  have Kp17 := Kp13.wr W15 (Or.inr sz_b1)
  refine Go.st (S' := T15.setTop (mkF m 29 #[.val (.ref a0), .val (.ref b1)] [])) st15 ?_
  refine Go.st (S' := T15.setTop (mkF m 30 #[.val (.ref a0), .val (.ref b1)] [(.ref b1)])) (fun _ kk => XS.aloadN X15.here hx rfl (hb hby d1_29) rfl rfl kk) ?_
  exact Go.retA X15 hx hlk Bd.returns rfl rfl (hb hby d1_30) (by rw [e15]; exact ⟨_, _, _, rfl, N15, Kp17, E_b1, sz_b1, szz_t4, V4, Fc4_pieces, Fc4_shift, Fc4_mask, Fc4_offset, Fc4_slice, Fc4_count, Fc4_length⟩) (by decide) (by decide)
def Q_rmN2 (Z : State) (a0 : Addr) (p2 p3 : Int32) (t : Addr) (sh mk of sl ct le : Int32) (h0 : Heap) (n0 : Nat) (v : Option Value) (h : Heap) (L : List Loc) : Prop := v = none ∧ Fr n0 L ∧ Keep h0 h [a0] ∧ Exa Z h a0 "com/example/call_bundler/callbundler/http/Content" ∧ Fld Z h a0 "com/example/call_bundler/callbundler/http/Content" "pieces" "[[B" (.ref t) ∧ Fld Z h a0 "com/example/call_bundler/callbundler/http/Content" "shift" "I" (.int sh) ∧ Fld Z h a0 "com/example/call_bundler/callbundler/http/Content" "mask" "I" (.int mk) ∧ Fld Z h a0 "com/example/call_bundler/callbundler/http/Content" "offset" "I" (.int (of + p2)) ∧ Fld Z h a0 "com/example/call_bundler/callbundler/http/Content" "slice" "Z" (.int (nar .boolean (1 : Int32))) ∧ Fld Z h a0 "com/example/call_bundler/callbundler/http/Content" "count" "I" (.int ct) ∧ Fld Z h a0 "com/example/call_bundler/callbundler/http/Content" "length" "I" (.int (p3 - p2))
theorem d5_0 : decode prog_14_method_2_code 0 = .ok (.aload_n 0, 1) := by decide +kernel
theorem d5_1 : decode prog_14_method_2_code 1 = .ok (.invokespecial 1, 3) := by decide +kernel
theorem d5_4 : decode prog_14_method_2_code 4 = .ok (.aload_n 0, 1) := by decide +kernel
theorem d5_5 : decode prog_14_method_2_code 5 = .ok (.iconst 1, 1) := by decide +kernel
theorem d5_6 : decode prog_14_method_2_code 6 = .ok (.anewarray 7, 3) := by decide +kernel
theorem d5_9 : decode prog_14_method_2_code 9 = .ok (.putfield 9, 3) := by decide +kernel
theorem d5_12 : decode prog_14_method_2_code 12 = .ok (.aload_n 0, 1) := by decide +kernel
theorem d5_13 : decode prog_14_method_2_code 13 = .ok (.aload_n 1, 1) := by decide +kernel
theorem d5_14 : decode prog_14_method_2_code 14 = .ok (.getfield 15, 3) := by decide +kernel
theorem d5_17 : decode prog_14_method_2_code 17 = .ok (.putfield 15, 3) := by decide +kernel
theorem d5_20 : decode prog_14_method_2_code 20 = .ok (.aload_n 0, 1) := by decide +kernel
theorem d5_21 : decode prog_14_method_2_code 21 = .ok (.aload_n 1, 1) := by decide +kernel
theorem d5_22 : decode prog_14_method_2_code 22 = .ok (.getfield 19, 3) := by decide +kernel
theorem d5_25 : decode prog_14_method_2_code 25 = .ok (.putfield 19, 3) := by decide +kernel
theorem d5_28 : decode prog_14_method_2_code 28 = .ok (.aload_n 0, 1) := by decide +kernel
theorem d5_29 : decode prog_14_method_2_code 29 = .ok (.aload_n 1, 1) := by decide +kernel
theorem d5_30 : decode prog_14_method_2_code 30 = .ok (.getfield 22, 3) := by decide +kernel
theorem d5_33 : decode prog_14_method_2_code 33 = .ok (.iload_n 2, 1) := by decide +kernel
theorem d5_34 : decode prog_14_method_2_code 34 = .ok (.iadd, 1) := by decide +kernel
theorem d5_35 : decode prog_14_method_2_code 35 = .ok (.putfield 22, 3) := by decide +kernel
theorem d5_38 : decode prog_14_method_2_code 38 = .ok (.aload_n 0, 1) := by decide +kernel
theorem d5_39 : decode prog_14_method_2_code 39 = .ok (.iconst 1, 1) := by decide +kernel
theorem d5_40 : decode prog_14_method_2_code 40 = .ok (.putfield 25, 3) := by decide +kernel
theorem d5_43 : decode prog_14_method_2_code 43 = .ok (.aload_n 0, 1) := by decide +kernel
theorem d5_44 : decode prog_14_method_2_code 44 = .ok (.aload_n 1, 1) := by decide +kernel
theorem d5_45 : decode prog_14_method_2_code 45 = .ok (.getfield 9, 3) := by decide +kernel
theorem d5_48 : decode prog_14_method_2_code 48 = .ok (.putfield 9, 3) := by decide +kernel
theorem d5_51 : decode prog_14_method_2_code 51 = .ok (.aload_n 0, 1) := by decide +kernel
theorem d5_52 : decode prog_14_method_2_code 52 = .ok (.aload_n 1, 1) := by decide +kernel
theorem d5_53 : decode prog_14_method_2_code 53 = .ok (.getfield 29, 3) := by decide +kernel
theorem d5_56 : decode prog_14_method_2_code 56 = .ok (.putfield 29, 3) := by decide +kernel
theorem d5_59 : decode prog_14_method_2_code 59 = .ok (.aload_n 0, 1) := by decide +kernel
theorem d5_60 : decode prog_14_method_2_code 60 = .ok (.iload_n 3, 1) := by decide +kernel
theorem d5_61 : decode prog_14_method_2_code 61 = .ok (.iload_n 2, 1) := by decide +kernel
theorem d5_62 : decode prog_14_method_2_code 62 = .ok (.isub, 1) := by decide +kernel
theorem d5_63 : decode prog_14_method_2_code 63 = .ok (.putfield 32, 3) := by decide +kernel
theorem d5_66 : decode prog_14_method_2_code 66 = .ok (.return_, 1) := by decide +kernel
theorem ef_5 (m : MethodId) (a0 : Addr) (a1 : Addr) (p2 : Int32) (p3 : Int32) : entryFrame m #[(.ref a0), (.ref a1), (.int p2), (.int p3)] 4 = mkF m 0 #[.val (.ref a0), .val (.ref a1), .val (.int p2), .val (.int p3)] [] := by first | (simp [entryFrame, mkF, argsToLocals, Value.category]; done) | rfl
set_option maxRecDepth 65536 in
set_option maxHeartbeats 40000000 in
theorem rmN2 (l : Launch) (Z : State) (az : Array Value) (hw : ∀ d ∈ tables_1, d.before az Z = true) (ws : List Jvm.Cond) (a0 : Addr) (a1 : Addr) (p2 : Int32) (p3 : Int32) (t : Addr) (sh mk of sl ct le : Int32) (h0 : Heap) (n0 : Nat) (Z0 : n0 ≤ h0.size) (E_a0 : Exa Z h0 a0 "com/example/call_bundler/callbundler/http/Content") (F_a0_pieces : Fld Z h0 a0 "com/example/call_bundler/callbundler/http/Content" "pieces" "[[B" .null) (F_a0_shift : Fld Z h0 a0 "com/example/call_bundler/callbundler/http/Content" "shift" "I" (.int (0 : Int32))) (F_a0_mask : Fld Z h0 a0 "com/example/call_bundler/callbundler/http/Content" "mask" "I" (.int (0 : Int32))) (F_a0_offset : Fld Z h0 a0 "com/example/call_bundler/callbundler/http/Content" "offset" "I" (.int (0 : Int32))) (F_a0_slice : Fld Z h0 a0 "com/example/call_bundler/callbundler/http/Content" "slice" "Z" (.int (0 : Int32))) (F_a0_count : Fld Z h0 a0 "com/example/call_bundler/callbundler/http/Content" "count" "I" (.int (0 : Int32))) (F_a0_length : Fld Z h0 a0 "com/example/call_bundler/callbundler/http/Content" "length" "I" (.int (0 : Int32))) (g_a0 : n0 ≤ a0) (E_a1 : Exa Z h0 a1 "com/example/call_bundler/callbundler/http/Content") (F_a1_pieces : Fld Z h0 a1 "com/example/call_bundler/callbundler/http/Content" "pieces" "[[B" (.ref t)) (F_a1_shift : Fld Z h0 a1 "com/example/call_bundler/callbundler/http/Content" "shift" "I" (.int sh)) (F_a1_mask : Fld Z h0 a1 "com/example/call_bundler/callbundler/http/Content" "mask" "I" (.int mk)) (F_a1_offset : Fld Z h0 a1 "com/example/call_bundler/callbundler/http/Content" "offset" "I" (.int of)) (F_a1_slice : Fld Z h0 a1 "com/example/call_bundler/callbundler/http/Content" "slice" "Z" (.int sl)) (F_a1_count : Fld Z h0 a1 "com/example/call_bundler/callbundler/http/Content" "count" "I" (.int ct)) (F_a1_length : Fld Z h0 a1 "com/example/call_bundler/callbundler/http/Content" "length" "I" (.int le)) (ne01 : a0 ≠ a1) :
    MetFree l (⟨"com/example/call_bundler/callbundler/http/Content", "<init>", "(Lcom/example/call_bundler/callbundler/http/Content;II)V"⟩ : MethodName) (head1 (Jvm.Cond.code (⟨"com/example/call_bundler/callbundler/http/Content", "<init>", "(Lcom/example/call_bundler/callbundler/http/Content;II)V"⟩ : MethodName) prog_14_method_2_code 4 none :: ws) ({ frames := 1, cells := 1, slots := 1, locals := 20 } : Room)) (fun a U => a = #[(.ref a0), (.ref a1), (.int p2), (.int p3)] ∧ Z.Warmed39 U.vm ∧ U.heap = h0) (fun _ _ _ _ _ => True) (fun _ U o U' => ∃ v L, o = .returned v ∧ (Q_rmN2 Z a0 p2 p3 t sh mk of sl ct le h0 n0) v U'.heap L ∧ FrameEnd U o U' L ({ frames := 1, cells := 1, slots := 1, locals := 20 } : Room).cells ({ frames := 1, cells := 1, slots := 1, locals := 20 } : Room).slots) := by
  refine MetFree.of_bodySF (plainFor_of_name pn_0) hisR ?_
  intro p e s m args below meth c s₁ Bd hml0 hP hK
  obtain ⟨rfl, hZ, hh⟩ := hP
  have hx := Bd.exec
  have hby := Bd.bytes
  have hlk : meth.locks = false := Bd.notSynchronized
  have hml : c.maxLocals = 4 := hml0
  have hown : s.vm.findClass "com/example/call_bundler/callbundler/http/Content" = some m.cls := findClass_of_methodNamed Bd.named
  have hnm := (name_of_methodNamed Bd.named Bd.method).1
  have X0 : Stand p l e ({ frames := 1, cells := 1, slots := 1, locals := 20 } : Room) s m #[(.ref a0), (.ref a1), (.int p2), (.int p3)] below meth c s₁ [] 0 0 := Stand.of_body Bd
  have e0 : s₁.heap = h0 := by rw [← hh, Bd.state]; rfl
  have N0 := Fr.nil n0
  show Go p e below s ((Q_rmN2 Z a0 p2 p3 t sh mk of sl ct le h0 n0)) ({ frames := 1, cells := 1, slots := 1, locals := 20 } : Room).cells ({ frames := 1, cells := 1, slots := 1, locals := 20 } : Room).slots (s₁.setTop (entryFrame m #[(.ref a0), (.ref a1), (.int p2), (.int p3)] 4))
  rw [ef_5 m a0 a1 p2 p3]
  refine Go.st (S' := s₁.setTop (mkF m 1 #[.val (.ref a0), .val (.ref a1), .val (.int p2), .val (.int p3)] [(.ref a0)])) (fun _ kk => XS.aloadN X0.here hx rfl (hb hby d5_0) rfl rfl kk) ?_
  obtain ⟨T1, X1, e1, st1⟩ := initO X0 hx hZ hown (hw _ (List.mem_of_getElem? (i := 10) rfl)) (hw _ (List.mem_of_getElem? (i := 11) rfl)) (hw _ (List.mem_of_getElem? (i := 12) rfl)) e0 (g := (mkF m 1 #[.val (.ref a0), .val (.ref a1), .val (.int p2), .val (.int p3)] [(.ref a0)])) rfl (by rw [hml]; rfl) rfl (hb hby d5_1) (by decide) (W := 0) (by show 2 * 0 + _ ≤ _; exact Nat.le_of_eq rfl) (by decide)
  refine Go.st (S' := T1.setTop (mkF m 4 #[.val (.ref a0), .val (.ref a1), .val (.int p2), .val (.int p3)] [])) st1 ?_
  refine Go.st (S' := T1.setTop (mkF m 5 #[.val (.ref a0), .val (.ref a1), .val (.int p2), .val (.int p3)] [(.ref a0)])) (fun _ kk => XS.aloadN X1.here hx rfl (hb hby d5_4) rfl rfl kk) ?_
  refine Go.st (S' := T1.setTop (mkF m 6 #[.val (.ref a0), .val (.ref a1), .val (.int p2), .val (.int p3)] [(.int (1 : Int32)), (.ref a0)])) (fun _ kk => XS.iconst X1.here hx rfl (hb hby d5_5) kk) ?_
  obtain ⟨T2, h2, k2, X2, e2, E2, A2, E_b2, O2, st2⟩ := newRA X1 hx hZ (C := "[B") (ty := .byte) hown rfl (hw _ (List.mem_of_getElem? (i := 13) rfl)) (hw _ (List.mem_of_getElem? (i := 14) rfl)) e1 (g := (mkF m 6 #[.val (.ref a0), .val (.ref a1), .val (.int p2), .val (.int p3)] [(.int (1 : Int32)), (.ref a0)])) rfl (hb hby d5_6) rfl (by decide) (cap := 1) (by decide) (by decide) (by decide : 0 + 1 ≤ _) (by decide : 0 + 1 ≤ _) (ad := "[[B") rfl
  obtain ⟨b2, g2⟩ : ∃ z, z = h0.size := ⟨_, rfl⟩
  rw [← g2] at A2 E_b2 st2
  have ne_a0_b2 : a0 ≠ b2 := Nat.ne_of_lt (Nat.lt_of_lt_of_le E_a0.lt (Nat.le_of_eq g2.symm))
  have ne_a1_b2 : a1 ≠ b2 := Nat.ne_of_lt (Nat.lt_of_lt_of_le E_a1.lt (Nat.le_of_eq g2.symm))
  have g_b2 : n0 ≤ b2 := Nat.le_trans Z0 (Nat.le_of_eq g2.symm)
  have sz_b2 : h0.size ≤ b2 := Nat.le_trans (Keep.refl h0 [a0]).1 (Nat.le_of_eq g2.symm)
  have E_a0 := E_a0.ext E2
  have F_a0_pieces := F_a0_pieces.ext E2
  have F_a0_shift := F_a0_shift.ext E2
  have F_a0_mask := F_a0_mask.ext E2
  have F_a0_offset := F_a0_offset.ext E2
  have F_a0_slice := F_a0_slice.ext E2
  have F_a0_count := F_a0_count.ext E2
  have F_a0_length := F_a0_length.ext E2
  have E_a1 := E_a1.ext E2
  have F_a1_pieces := F_a1_pieces.ext E2
  have F_a1_shift := F_a1_shift.ext E2
  have F_a1_mask := F_a1_mask.ext E2
  have F_a1_offset := F_a1_offset.ext E2
  have F_a1_slice := F_a1_slice.ext E2
  have F_a1_count := F_a1_count.ext E2
  have F_a1_length := F_a1_length.ext E2
  have Zs3 := Nat.le_trans Z0 E2.1
  have Kp4 := (Keep.refl h0 [a0]).ext E2
  have V_b2 : Arv Z h2 b2 k2 (.array .byte) (1 : Int32) [.null] .null := (Arv.new A2 (by decide)).pad (pad_rep [] .null 1)
  refine Go.st (S' := T2.setTop (mkF m 9 #[.val (.ref a0), .val (.ref a1), .val (.int p2), .val (.int p3)] [(.ref b2), (.ref a0)])) st2 ?_
  obtain ⟨T5, h5, X5, e5, W5, st5⟩ := putF X2 hx hZ hown (host := "") (Or.inl (hw _ (List.mem_of_getElem? (i := 15) rfl))) Via.refl e2 F_a0_pieces E_a0 (Or.inl (hw _ (List.mem_of_getElem? (i := 16) rfl))) (hw _ (List.mem_of_getElem? (i := 6) rfl)) (ty := (.array (.array .byte))) (by decide) rfl rfl (g := (mkF m 9 #[.val (.ref a0), .val (.ref a1), .val (.int p2), .val (.int p3)] [(.ref b2), (.ref a0)])) rfl rfl (hb hby d5_9)
  have N5 := Fr.snoc X5 N0 g_a0
  have F_a0_pieces := F_a0_pieces.same W5
  have E_a0 := E_a0.wr W5
  have F_a0_shift := F_a0_shift.other W5 (Or.inr (slot_ne (Or.inr (hw _ (List.mem_of_getElem? (i := 18) rfl))) (Or.inl (hw _ (List.mem_of_getElem? (i := 16) rfl))) (by decide) (t := .int) (t' := (.array (.array .byte))) (by decide) (by decide)))
  have F_a0_mask := F_a0_mask.other W5 (Or.inr (slot_ne (Or.inr (hw _ (List.mem_of_getElem? (i := 20) rfl))) (Or.inl (hw _ (List.mem_of_getElem? (i := 16) rfl))) (by decide) (t := .int) (t' := (.array (.array .byte))) (by decide) (by decide)))
  have F_a0_offset := F_a0_offset.other W5 (Or.inr (slot_ne (Or.inr (hw _ (List.mem_of_getElem? (i := 22) rfl))) (Or.inl (hw _ (List.mem_of_getElem? (i := 16) rfl))) (by decide) (t := .int) (t' := (.array (.array .byte))) (by decide) (by decide)))
  have F_a0_slice := F_a0_slice.other W5 (Or.inr (slot_ne (Or.inr (hw _ (List.mem_of_getElem? (i := 24) rfl))) (Or.inl (hw _ (List.mem_of_getElem? (i := 16) rfl))) (by decide) (t := .boolean) (t' := (.array (.array .byte))) (by decide) (by decide)))
  have F_a0_count := F_a0_count.other W5 (Or.inr (slot_ne (Or.inl (hw _ (List.mem_of_getElem? (i := 27) rfl))) (Or.inl (hw _ (List.mem_of_getElem? (i := 16) rfl))) (by decide) (t := .int) (t' := (.array (.array .byte))) (by decide) (by decide)))
  have F_a0_length := F_a0_length.other W5 (Or.inr (slot_ne (Or.inl (hw _ (List.mem_of_getElem? (i := 29) rfl))) (Or.inl (hw _ (List.mem_of_getElem? (i := 16) rfl))) (by decide) (t := .int) (t' := (.array (.array .byte))) (by decide) (by decide)))
  have E_a1 := E_a1.wr W5
  have F_a1_pieces := F_a1_pieces.other W5 (Or.inl (Ne.symm ne01))
  have F_a1_shift := F_a1_shift.other W5 (Or.inl (Ne.symm ne01))
  have F_a1_mask := F_a1_mask.other W5 (Or.inl (Ne.symm ne01))
  have F_a1_offset := F_a1_offset.other W5 (Or.inl (Ne.symm ne01))
  have F_a1_slice := F_a1_slice.other W5 (Or.inl (Ne.symm ne01))
  have F_a1_count := F_a1_count.other W5 (Or.inl (Ne.symm ne01))
  have F_a1_length := F_a1_length.other W5 (Or.inl (Ne.symm ne01))
  have E_b2 := E_b2.wr W5
  have V_b2 := V_b2.other W5 (Ne.symm ne_a0_b2)
  have Zs6 := Nat.le_trans Zs3 (Keep.of_wr W5).1
  have Kp7 := Kp4.wr W5 (Or.inl (List.mem_of_getElem? (i := 0) rfl))
  refine Go.st (S' := T5.setTop (mkF m 12 #[.val (.ref a0), .val (.ref a1), .val (.int p2), .val (.int p3)] [])) st5 ?_
  refine Go.st (S' := T5.setTop (mkF m 13 #[.val (.ref a0), .val (.ref a1), .val (.int p2), .val (.int p3)] [(.ref a0)])) (fun _ kk => XS.aloadN X5.here hx rfl (hb hby d5_12) rfl rfl kk) ?_
  refine Go.st (S' := T5.setTop (mkF m 14 #[.val (.ref a0), .val (.ref a1), .val (.int p2), .val (.int p3)] [(.ref a1), (.ref a0)])) (fun _ kk => XS.aloadN X5.here hx rfl (hb hby d5_13) rfl rfl kk) ?_
  obtain ⟨T8, X8, e8, st8⟩ := getF X5 hx hZ hown (host := "") (Or.inl (hw _ (List.mem_of_getElem? (i := 17) rfl))) Via.refl e5 F_a1_shift (g := (mkF m 14 #[.val (.ref a0), .val (.ref a1), .val (.int p2), .val (.int p3)] [(.ref a1), (.ref a0)])) rfl rfl (hb hby d5_14)
  refine Go.st (S' := T8.setTop (mkF m 17 #[.val (.ref a0), .val (.ref a1), .val (.int p2), .val (.int p3)] [(.int sh), (.ref a0)])) st8 ?_
  obtain ⟨T9, h9, X9, e9, W9, st9⟩ := putF X8 hx hZ hown (host := "") (Or.inl (hw _ (List.mem_of_getElem? (i := 17) rfl))) Via.refl e8 F_a0_shift E_a0 (Or.inr ⟨(hw _ (List.mem_of_getElem? (i := 18) rfl)), rfl, hnm⟩) (hw _ (List.mem_of_getElem? (i := 6) rfl)) (ty := .int) (by decide) rfl rfl (g := (mkF m 17 #[.val (.ref a0), .val (.ref a1), .val (.int p2), .val (.int p3)] [(.int sh), (.ref a0)])) rfl rfl (hb hby d5_17)
  have N9 := Fr.snoc X9 N5 g_a0
  have F_a0_shift := F_a0_shift.same W9
  have E_a0 := E_a0.wr W9
  have F_a0_pieces := F_a0_pieces.other W9 (Or.inr (slot_ne (Or.inl (hw _ (List.mem_of_getElem? (i := 16) rfl))) (Or.inr (hw _ (List.mem_of_getElem? (i := 18) rfl))) (by decide) (t := (.array (.array .byte))) (t' := .int) (by decide) (by decide)))
  have F_a0_mask := F_a0_mask.other W9 (Or.inr (slot_ne (Or.inr (hw _ (List.mem_of_getElem? (i := 20) rfl))) (Or.inr (hw _ (List.mem_of_getElem? (i := 18) rfl))) (by decide) (t := .int) (t' := .int) (by decide) (by decide)))
  have F_a0_offset := F_a0_offset.other W9 (Or.inr (slot_ne (Or.inr (hw _ (List.mem_of_getElem? (i := 22) rfl))) (Or.inr (hw _ (List.mem_of_getElem? (i := 18) rfl))) (by decide) (t := .int) (t' := .int) (by decide) (by decide)))
  have F_a0_slice := F_a0_slice.other W9 (Or.inr (slot_ne (Or.inr (hw _ (List.mem_of_getElem? (i := 24) rfl))) (Or.inr (hw _ (List.mem_of_getElem? (i := 18) rfl))) (by decide) (t := .boolean) (t' := .int) (by decide) (by decide)))
  have F_a0_count := F_a0_count.other W9 (Or.inr (slot_ne (Or.inl (hw _ (List.mem_of_getElem? (i := 27) rfl))) (Or.inr (hw _ (List.mem_of_getElem? (i := 18) rfl))) (by decide) (t := .int) (t' := .int) (by decide) (by decide)))
  have F_a0_length := F_a0_length.other W9 (Or.inr (slot_ne (Or.inl (hw _ (List.mem_of_getElem? (i := 29) rfl))) (Or.inr (hw _ (List.mem_of_getElem? (i := 18) rfl))) (by decide) (t := .int) (t' := .int) (by decide) (by decide)))
  have E_a1 := E_a1.wr W9
  have F_a1_pieces := F_a1_pieces.other W9 (Or.inl (Ne.symm ne01))
  have F_a1_shift := F_a1_shift.other W9 (Or.inl (Ne.symm ne01))
  have F_a1_mask := F_a1_mask.other W9 (Or.inl (Ne.symm ne01))
  have F_a1_offset := F_a1_offset.other W9 (Or.inl (Ne.symm ne01))
  have F_a1_slice := F_a1_slice.other W9 (Or.inl (Ne.symm ne01))
  have F_a1_count := F_a1_count.other W9 (Or.inl (Ne.symm ne01))
  have F_a1_length := F_a1_length.other W9 (Or.inl (Ne.symm ne01))
  have E_b2 := E_b2.wr W9
  have V_b2 := V_b2.other W9 (Ne.symm ne_a0_b2)
  have Zs10 := Nat.le_trans Zs6 (Keep.of_wr W9).1
  have Kp11 := Kp7.wr W9 (Or.inl (List.mem_of_getElem? (i := 0) rfl))
  refine Go.st (S' := T9.setTop (mkF m 20 #[.val (.ref a0), .val (.ref a1), .val (.int p2), .val (.int p3)] [])) st9 ?_
  refine Go.st (S' := T9.setTop (mkF m 21 #[.val (.ref a0), .val (.ref a1), .val (.int p2), .val (.int p3)] [(.ref a0)])) (fun _ kk => XS.aloadN X9.here hx rfl (hb hby d5_20) rfl rfl kk) ?_
  refine Go.st (S' := T9.setTop (mkF m 22 #[.val (.ref a0), .val (.ref a1), .val (.int p2), .val (.int p3)] [(.ref a1), (.ref a0)])) (fun _ kk => XS.aloadN X9.here hx rfl (hb hby d5_21) rfl rfl kk) ?_
  obtain ⟨T12, X12, e12, st12⟩ := getF X9 hx hZ hown (host := "") (Or.inl (hw _ (List.mem_of_getElem? (i := 19) rfl))) Via.refl e9 F_a1_mask (g := (mkF m 22 #[.val (.ref a0), .val (.ref a1), .val (.int p2), .val (.int p3)] [(.ref a1), (.ref a0)])) rfl rfl (hb hby d5_22)
  refine Go.st (S' := T12.setTop (mkF m 25 #[.val (.ref a0), .val (.ref a1), .val (.int p2), .val (.int p3)] [(.int mk), (.ref a0)])) st12 ?_
  obtain ⟨T13, h13, X13, e13, W13, st13⟩ := putF X12 hx hZ hown (host := "") (Or.inl (hw _ (List.mem_of_getElem? (i := 19) rfl))) Via.refl e12 F_a0_mask E_a0 (Or.inr ⟨(hw _ (List.mem_of_getElem? (i := 20) rfl)), rfl, hnm⟩) (hw _ (List.mem_of_getElem? (i := 6) rfl)) (ty := .int) (by decide) rfl rfl (g := (mkF m 25 #[.val (.ref a0), .val (.ref a1), .val (.int p2), .val (.int p3)] [(.int mk), (.ref a0)])) rfl rfl (hb hby d5_25)
  have N13 := Fr.snoc X13 N9 g_a0
  have F_a0_mask := F_a0_mask.same W13
  have E_a0 := E_a0.wr W13
  have F_a0_pieces := F_a0_pieces.other W13 (Or.inr (slot_ne (Or.inl (hw _ (List.mem_of_getElem? (i := 16) rfl))) (Or.inr (hw _ (List.mem_of_getElem? (i := 20) rfl))) (by decide) (t := (.array (.array .byte))) (t' := .int) (by decide) (by decide)))
  have F_a0_shift := F_a0_shift.other W13 (Or.inr (slot_ne (Or.inr (hw _ (List.mem_of_getElem? (i := 18) rfl))) (Or.inr (hw _ (List.mem_of_getElem? (i := 20) rfl))) (by decide) (t := .int) (t' := .int) (by decide) (by decide)))
  have F_a0_offset := F_a0_offset.other W13 (Or.inr (slot_ne (Or.inr (hw _ (List.mem_of_getElem? (i := 22) rfl))) (Or.inr (hw _ (List.mem_of_getElem? (i := 20) rfl))) (by decide) (t := .int) (t' := .int) (by decide) (by decide)))
  have F_a0_slice := F_a0_slice.other W13 (Or.inr (slot_ne (Or.inr (hw _ (List.mem_of_getElem? (i := 24) rfl))) (Or.inr (hw _ (List.mem_of_getElem? (i := 20) rfl))) (by decide) (t := .boolean) (t' := .int) (by decide) (by decide)))
  have F_a0_count := F_a0_count.other W13 (Or.inr (slot_ne (Or.inl (hw _ (List.mem_of_getElem? (i := 27) rfl))) (Or.inr (hw _ (List.mem_of_getElem? (i := 20) rfl))) (by decide) (t := .int) (t' := .int) (by decide) (by decide)))
  have F_a0_length := F_a0_length.other W13 (Or.inr (slot_ne (Or.inl (hw _ (List.mem_of_getElem? (i := 29) rfl))) (Or.inr (hw _ (List.mem_of_getElem? (i := 20) rfl))) (by decide) (t := .int) (t' := .int) (by decide) (by decide)))
  have E_a1 := E_a1.wr W13
  have F_a1_pieces := F_a1_pieces.other W13 (Or.inl (Ne.symm ne01))
  have F_a1_shift := F_a1_shift.other W13 (Or.inl (Ne.symm ne01))
  have F_a1_mask := F_a1_mask.other W13 (Or.inl (Ne.symm ne01))
  have F_a1_offset := F_a1_offset.other W13 (Or.inl (Ne.symm ne01))
  have F_a1_slice := F_a1_slice.other W13 (Or.inl (Ne.symm ne01))
  have F_a1_count := F_a1_count.other W13 (Or.inl (Ne.symm ne01))
  have F_a1_length := F_a1_length.other W13 (Or.inl (Ne.symm ne01))
  have E_b2 := E_b2.wr W13
  have V_b2 := V_b2.other W13 (Ne.symm ne_a0_b2)
  have Zs14 := Nat.le_trans Zs10 (Keep.of_wr W13).1
  have Kp15 := Kp11.wr W13 (Or.inl (List.mem_of_getElem? (i := 0) rfl))
  refine Go.st (S' := T13.setTop (mkF m 28 #[.val (.ref a0), .val (.ref a1), .val (.int p2), .val (.int p3)] [])) st13 ?_
  refine Go.st (S' := T13.setTop (mkF m 29 #[.val (.ref a0), .val (.ref a1), .val (.int p2), .val (.int p3)] [(.ref a0)])) (fun _ kk => XS.aloadN X13.here hx rfl (hb hby d5_28) rfl rfl kk) ?_
  refine Go.st (S' := T13.setTop (mkF m 30 #[.val (.ref a0), .val (.ref a1), .val (.int p2), .val (.int p3)] [(.ref a1), (.ref a0)])) (fun _ kk => XS.aloadN X13.here hx rfl (hb hby d5_29) rfl rfl kk) ?_
  obtain ⟨T16, X16, e16, st16⟩ := getF X13 hx hZ hown (host := "") (Or.inl (hw _ (List.mem_of_getElem? (i := 21) rfl))) Via.refl e13 F_a1_offset (g := (mkF m 30 #[.val (.ref a0), .val (.ref a1), .val (.int p2), .val (.int p3)] [(.ref a1), (.ref a0)])) rfl rfl (hb hby d5_30)
  refine Go.st (S' := T16.setTop (mkF m 33 #[.val (.ref a0), .val (.ref a1), .val (.int p2), .val (.int p3)] [(.int of), (.ref a0)])) st16 ?_
  refine Go.st (S' := T16.setTop (mkF m 34 #[.val (.ref a0), .val (.ref a1), .val (.int p2), .val (.int p3)] [(.int p2), (.int of), (.ref a0)])) (fun _ kk => XS.iloadN X16.here hx rfl (hb hby d5_33) rfl kk) ?_
  refine Go.st (S' := T16.setTop (mkF m 35 #[.val (.ref a0), .val (.ref a1), .val (.int p2), .val (.int p3)] [(.int (of + p2)), (.ref a0)])) (fun _ kk => XS.iadd X16.here hx rfl (hb hby d5_34) rfl kk) ?_
  obtain ⟨T17, h17, X17, e17, W17, st17⟩ := putF X16 hx hZ hown (host := "") (Or.inl (hw _ (List.mem_of_getElem? (i := 21) rfl))) Via.refl e16 F_a0_offset E_a0 (Or.inr ⟨(hw _ (List.mem_of_getElem? (i := 22) rfl)), rfl, hnm⟩) (hw _ (List.mem_of_getElem? (i := 6) rfl)) (ty := .int) (by decide) rfl rfl (g := (mkF m 35 #[.val (.ref a0), .val (.ref a1), .val (.int p2), .val (.int p3)] [(.int (of + p2)), (.ref a0)])) rfl rfl (hb hby d5_35)
  have N17 := Fr.snoc X17 N13 g_a0
  have F_a0_offset := F_a0_offset.same W17
  have E_a0 := E_a0.wr W17
  have F_a0_pieces := F_a0_pieces.other W17 (Or.inr (slot_ne (Or.inl (hw _ (List.mem_of_getElem? (i := 16) rfl))) (Or.inr (hw _ (List.mem_of_getElem? (i := 22) rfl))) (by decide) (t := (.array (.array .byte))) (t' := .int) (by decide) (by decide)))
  have F_a0_shift := F_a0_shift.other W17 (Or.inr (slot_ne (Or.inr (hw _ (List.mem_of_getElem? (i := 18) rfl))) (Or.inr (hw _ (List.mem_of_getElem? (i := 22) rfl))) (by decide) (t := .int) (t' := .int) (by decide) (by decide)))
  have F_a0_mask := F_a0_mask.other W17 (Or.inr (slot_ne (Or.inr (hw _ (List.mem_of_getElem? (i := 20) rfl))) (Or.inr (hw _ (List.mem_of_getElem? (i := 22) rfl))) (by decide) (t := .int) (t' := .int) (by decide) (by decide)))
  have F_a0_slice := F_a0_slice.other W17 (Or.inr (slot_ne (Or.inr (hw _ (List.mem_of_getElem? (i := 24) rfl))) (Or.inr (hw _ (List.mem_of_getElem? (i := 22) rfl))) (by decide) (t := .boolean) (t' := .int) (by decide) (by decide)))
  have F_a0_count := F_a0_count.other W17 (Or.inr (slot_ne (Or.inl (hw _ (List.mem_of_getElem? (i := 27) rfl))) (Or.inr (hw _ (List.mem_of_getElem? (i := 22) rfl))) (by decide) (t := .int) (t' := .int) (by decide) (by decide)))
  have F_a0_length := F_a0_length.other W17 (Or.inr (slot_ne (Or.inl (hw _ (List.mem_of_getElem? (i := 29) rfl))) (Or.inr (hw _ (List.mem_of_getElem? (i := 22) rfl))) (by decide) (t := .int) (t' := .int) (by decide) (by decide)))
  have E_a1 := E_a1.wr W17
  have F_a1_pieces := F_a1_pieces.other W17 (Or.inl (Ne.symm ne01))
  have F_a1_shift := F_a1_shift.other W17 (Or.inl (Ne.symm ne01))
  have F_a1_mask := F_a1_mask.other W17 (Or.inl (Ne.symm ne01))
  have F_a1_offset := F_a1_offset.other W17 (Or.inl (Ne.symm ne01))
  have F_a1_slice := F_a1_slice.other W17 (Or.inl (Ne.symm ne01))
  have F_a1_count := F_a1_count.other W17 (Or.inl (Ne.symm ne01))
  have F_a1_length := F_a1_length.other W17 (Or.inl (Ne.symm ne01))
  have E_b2 := E_b2.wr W17
  have V_b2 := V_b2.other W17 (Ne.symm ne_a0_b2)
  have Zs18 := Nat.le_trans Zs14 (Keep.of_wr W17).1
  have Kp19 := Kp15.wr W17 (Or.inl (List.mem_of_getElem? (i := 0) rfl))
  refine Go.st (S' := T17.setTop (mkF m 38 #[.val (.ref a0), .val (.ref a1), .val (.int p2), .val (.int p3)] [])) st17 ?_
  refine Go.st (S' := T17.setTop (mkF m 39 #[.val (.ref a0), .val (.ref a1), .val (.int p2), .val (.int p3)] [(.ref a0)])) (fun _ kk => XS.aloadN X17.here hx rfl (hb hby d5_38) rfl rfl kk) ?_
  refine Go.st (S' := T17.setTop (mkF m 40 #[.val (.ref a0), .val (.ref a1), .val (.int p2), .val (.int p3)] [(.int (1 : Int32)), (.ref a0)])) (fun _ kk => XS.iconst X17.here hx rfl (hb hby d5_39) kk) ?_
  obtain ⟨T20, h20, X20, e20, W20, st20⟩ := putFN X17 hx hZ hown (hw _ (List.mem_of_getElem? (i := 23) rfl)) Via.refl e17 F_a0_slice E_a0 (Or.inr ⟨(hw _ (List.mem_of_getElem? (i := 24) rfl)), rfl, hnm⟩) (hw _ (List.mem_of_getElem? (i := 6) rfl)) (ty := .boolean) (v' := .int (nar .boolean (1 : Int32))) (by decide) rfl (fits_nar_bool _) (g := (mkF m 40 #[.val (.ref a0), .val (.ref a1), .val (.int p2), .val (.int p3)] [(.int (1 : Int32)), (.ref a0)])) rfl rfl (hb hby d5_40)
  have N20 := Fr.snoc X20 N17 g_a0
  have F_a0_slice := F_a0_slice.same W20
  have E_a0 := E_a0.wr W20
  have F_a0_pieces := F_a0_pieces.other W20 (Or.inr (slot_ne (Or.inl (hw _ (List.mem_of_getElem? (i := 16) rfl))) (Or.inr (hw _ (List.mem_of_getElem? (i := 24) rfl))) (by decide) (t := (.array (.array .byte))) (t' := .boolean) (by decide) (by decide)))
  have F_a0_shift := F_a0_shift.other W20 (Or.inr (slot_ne (Or.inr (hw _ (List.mem_of_getElem? (i := 18) rfl))) (Or.inr (hw _ (List.mem_of_getElem? (i := 24) rfl))) (by decide) (t := .int) (t' := .boolean) (by decide) (by decide)))
  have F_a0_mask := F_a0_mask.other W20 (Or.inr (slot_ne (Or.inr (hw _ (List.mem_of_getElem? (i := 20) rfl))) (Or.inr (hw _ (List.mem_of_getElem? (i := 24) rfl))) (by decide) (t := .int) (t' := .boolean) (by decide) (by decide)))
  have F_a0_offset := F_a0_offset.other W20 (Or.inr (slot_ne (Or.inr (hw _ (List.mem_of_getElem? (i := 22) rfl))) (Or.inr (hw _ (List.mem_of_getElem? (i := 24) rfl))) (by decide) (t := .int) (t' := .boolean) (by decide) (by decide)))
  have F_a0_count := F_a0_count.other W20 (Or.inr (slot_ne (Or.inl (hw _ (List.mem_of_getElem? (i := 27) rfl))) (Or.inr (hw _ (List.mem_of_getElem? (i := 24) rfl))) (by decide) (t := .int) (t' := .boolean) (by decide) (by decide)))
  have F_a0_length := F_a0_length.other W20 (Or.inr (slot_ne (Or.inl (hw _ (List.mem_of_getElem? (i := 29) rfl))) (Or.inr (hw _ (List.mem_of_getElem? (i := 24) rfl))) (by decide) (t := .int) (t' := .boolean) (by decide) (by decide)))
  have E_a1 := E_a1.wr W20
  have F_a1_pieces := F_a1_pieces.other W20 (Or.inl (Ne.symm ne01))
  have F_a1_shift := F_a1_shift.other W20 (Or.inl (Ne.symm ne01))
  have F_a1_mask := F_a1_mask.other W20 (Or.inl (Ne.symm ne01))
  have F_a1_offset := F_a1_offset.other W20 (Or.inl (Ne.symm ne01))
  have F_a1_slice := F_a1_slice.other W20 (Or.inl (Ne.symm ne01))
  have F_a1_count := F_a1_count.other W20 (Or.inl (Ne.symm ne01))
  have F_a1_length := F_a1_length.other W20 (Or.inl (Ne.symm ne01))
  have E_b2 := E_b2.wr W20
  have V_b2 := V_b2.other W20 (Ne.symm ne_a0_b2)
  have Zs21 := Nat.le_trans Zs18 (Keep.of_wr W20).1
  have Kp22 := Kp19.wr W20 (Or.inl (List.mem_of_getElem? (i := 0) rfl))
  refine Go.st (S' := T20.setTop (mkF m 43 #[.val (.ref a0), .val (.ref a1), .val (.int p2), .val (.int p3)] [])) st20 ?_
  refine Go.st (S' := T20.setTop (mkF m 44 #[.val (.ref a0), .val (.ref a1), .val (.int p2), .val (.int p3)] [(.ref a0)])) (fun _ kk => XS.aloadN X20.here hx rfl (hb hby d5_43) rfl rfl kk) ?_
  refine Go.st (S' := T20.setTop (mkF m 45 #[.val (.ref a0), .val (.ref a1), .val (.int p2), .val (.int p3)] [(.ref a1), (.ref a0)])) (fun _ kk => XS.aloadN X20.here hx rfl (hb hby d5_44) rfl rfl kk) ?_
  obtain ⟨T23, X23, e23, st23⟩ := getF X20 hx hZ hown (host := "") (Or.inl (hw _ (List.mem_of_getElem? (i := 15) rfl))) Via.refl e20 F_a1_pieces (g := (mkF m 45 #[.val (.ref a0), .val (.ref a1), .val (.int p2), .val (.int p3)] [(.ref a1), (.ref a0)])) rfl rfl (hb hby d5_45)
  refine Go.st (S' := T23.setTop (mkF m 48 #[.val (.ref a0), .val (.ref a1), .val (.int p2), .val (.int p3)] [(.ref t), (.ref a0)])) st23 ?_
  obtain ⟨T24, h24, X24, e24, W24, st24⟩ := putF X23 hx hZ hown (host := "") (Or.inl (hw _ (List.mem_of_getElem? (i := 15) rfl))) Via.refl e23 F_a0_pieces E_a0 (Or.inl (hw _ (List.mem_of_getElem? (i := 16) rfl))) (hw _ (List.mem_of_getElem? (i := 6) rfl)) (ty := (.array (.array .byte))) (by decide) rfl rfl (g := (mkF m 48 #[.val (.ref a0), .val (.ref a1), .val (.int p2), .val (.int p3)] [(.ref t), (.ref a0)])) rfl rfl (hb hby d5_48)
  have N24 := Fr.snoc X24 N20 g_a0
  have F_a0_pieces := F_a0_pieces.same W24
  have E_a0 := E_a0.wr W24
  have F_a0_shift := F_a0_shift.other W24 (Or.inr (slot_ne (Or.inr (hw _ (List.mem_of_getElem? (i := 18) rfl))) (Or.inl (hw _ (List.mem_of_getElem? (i := 16) rfl))) (by decide) (t := .int) (t' := (.array (.array .byte))) (by decide) (by decide)))
  have F_a0_mask := F_a0_mask.other W24 (Or.inr (slot_ne (Or.inr (hw _ (List.mem_of_getElem? (i := 20) rfl))) (Or.inl (hw _ (List.mem_of_getElem? (i := 16) rfl))) (by decide) (t := .int) (t' := (.array (.array .byte))) (by decide) (by decide)))
  have F_a0_offset := F_a0_offset.other W24 (Or.inr (slot_ne (Or.inr (hw _ (List.mem_of_getElem? (i := 22) rfl))) (Or.inl (hw _ (List.mem_of_getElem? (i := 16) rfl))) (by decide) (t := .int) (t' := (.array (.array .byte))) (by decide) (by decide)))
  have F_a0_slice := F_a0_slice.other W24 (Or.inr (slot_ne (Or.inr (hw _ (List.mem_of_getElem? (i := 24) rfl))) (Or.inl (hw _ (List.mem_of_getElem? (i := 16) rfl))) (by decide) (t := .boolean) (t' := (.array (.array .byte))) (by decide) (by decide)))
  have F_a0_count := F_a0_count.other W24 (Or.inr (slot_ne (Or.inl (hw _ (List.mem_of_getElem? (i := 27) rfl))) (Or.inl (hw _ (List.mem_of_getElem? (i := 16) rfl))) (by decide) (t := .int) (t' := (.array (.array .byte))) (by decide) (by decide)))
  have F_a0_length := F_a0_length.other W24 (Or.inr (slot_ne (Or.inl (hw _ (List.mem_of_getElem? (i := 29) rfl))) (Or.inl (hw _ (List.mem_of_getElem? (i := 16) rfl))) (by decide) (t := .int) (t' := (.array (.array .byte))) (by decide) (by decide)))
  have E_a1 := E_a1.wr W24
  have F_a1_pieces := F_a1_pieces.other W24 (Or.inl (Ne.symm ne01))
  have F_a1_shift := F_a1_shift.other W24 (Or.inl (Ne.symm ne01))
  have F_a1_mask := F_a1_mask.other W24 (Or.inl (Ne.symm ne01))
  have F_a1_offset := F_a1_offset.other W24 (Or.inl (Ne.symm ne01))
  have F_a1_slice := F_a1_slice.other W24 (Or.inl (Ne.symm ne01))
  have F_a1_count := F_a1_count.other W24 (Or.inl (Ne.symm ne01))
  have F_a1_length := F_a1_length.other W24 (Or.inl (Ne.symm ne01))
  have E_b2 := E_b2.wr W24
  have V_b2 := V_b2.other W24 (Ne.symm ne_a0_b2)
  have Zs25 := Nat.le_trans Zs21 (Keep.of_wr W24).1
  have Kp26 := Kp22.wr W24 (Or.inl (List.mem_of_getElem? (i := 0) rfl))
  refine Go.st (S' := T24.setTop (mkF m 51 #[.val (.ref a0), .val (.ref a1), .val (.int p2), .val (.int p3)] [])) st24 ?_
  refine Go.st (S' := T24.setTop (mkF m 52 #[.val (.ref a0), .val (.ref a1), .val (.int p2), .val (.int p3)] [(.ref a0)])) (fun _ kk => XS.aloadN X24.here hx rfl (hb hby d5_51) rfl rfl kk) ?_
  refine Go.st (S' := T24.setTop (mkF m 53 #[.val (.ref a0), .val (.ref a1), .val (.int p2), .val (.int p3)] [(.ref a1), (.ref a0)])) (fun _ kk => XS.aloadN X24.here hx rfl (hb hby d5_52) rfl rfl kk) ?_
  obtain ⟨T27, X27, e27, st27⟩ := getF X24 hx hZ hown (host := "") (Or.inl (hw _ (List.mem_of_getElem? (i := 26) rfl))) Via.refl e24 F_a1_count (g := (mkF m 53 #[.val (.ref a0), .val (.ref a1), .val (.int p2), .val (.int p3)] [(.ref a1), (.ref a0)])) rfl rfl (hb hby d5_53)
  refine Go.st (S' := T27.setTop (mkF m 56 #[.val (.ref a0), .val (.ref a1), .val (.int p2), .val (.int p3)] [(.int ct), (.ref a0)])) st27 ?_
  obtain ⟨T28, h28, X28, e28, W28, st28⟩ := putF X27 hx hZ hown (host := "") (Or.inl (hw _ (List.mem_of_getElem? (i := 26) rfl))) Via.refl e27 F_a0_count E_a0 (Or.inl (hw _ (List.mem_of_getElem? (i := 27) rfl))) (hw _ (List.mem_of_getElem? (i := 6) rfl)) (ty := .int) (by decide) rfl rfl (g := (mkF m 56 #[.val (.ref a0), .val (.ref a1), .val (.int p2), .val (.int p3)] [(.int ct), (.ref a0)])) rfl rfl (hb hby d5_56)
  have N28 := Fr.snoc X28 N24 g_a0
  have F_a0_count := F_a0_count.same W28
  have E_a0 := E_a0.wr W28
  have F_a0_pieces := F_a0_pieces.other W28 (Or.inr (slot_ne (Or.inl (hw _ (List.mem_of_getElem? (i := 16) rfl))) (Or.inl (hw _ (List.mem_of_getElem? (i := 27) rfl))) (by decide) (t := (.array (.array .byte))) (t' := .int) (by decide) (by decide)))
  have F_a0_shift := F_a0_shift.other W28 (Or.inr (slot_ne (Or.inr (hw _ (List.mem_of_getElem? (i := 18) rfl))) (Or.inl (hw _ (List.mem_of_getElem? (i := 27) rfl))) (by decide) (t := .int) (t' := .int) (by decide) (by decide)))
  have F_a0_mask := F_a0_mask.other W28 (Or.inr (slot_ne (Or.inr (hw _ (List.mem_of_getElem? (i := 20) rfl))) (Or.inl (hw _ (List.mem_of_getElem? (i := 27) rfl))) (by decide) (t := .int) (t' := .int) (by decide) (by decide)))
  have F_a0_offset := F_a0_offset.other W28 (Or.inr (slot_ne (Or.inr (hw _ (List.mem_of_getElem? (i := 22) rfl))) (Or.inl (hw _ (List.mem_of_getElem? (i := 27) rfl))) (by decide) (t := .int) (t' := .int) (by decide) (by decide)))
  have F_a0_slice := F_a0_slice.other W28 (Or.inr (slot_ne (Or.inr (hw _ (List.mem_of_getElem? (i := 24) rfl))) (Or.inl (hw _ (List.mem_of_getElem? (i := 27) rfl))) (by decide) (t := .boolean) (t' := .int) (by decide) (by decide)))
  have F_a0_length := F_a0_length.other W28 (Or.inr (slot_ne (Or.inl (hw _ (List.mem_of_getElem? (i := 29) rfl))) (Or.inl (hw _ (List.mem_of_getElem? (i := 27) rfl))) (by decide) (t := .int) (t' := .int) (by decide) (by decide)))
  have E_a1 := E_a1.wr W28
  have F_a1_pieces := F_a1_pieces.other W28 (Or.inl (Ne.symm ne01))
  have F_a1_shift := F_a1_shift.other W28 (Or.inl (Ne.symm ne01))
  have F_a1_mask := F_a1_mask.other W28 (Or.inl (Ne.symm ne01))
  have F_a1_offset := F_a1_offset.other W28 (Or.inl (Ne.symm ne01))
  have F_a1_slice := F_a1_slice.other W28 (Or.inl (Ne.symm ne01))
  have F_a1_count := F_a1_count.other W28 (Or.inl (Ne.symm ne01))
  have F_a1_length := F_a1_length.other W28 (Or.inl (Ne.symm ne01))
  have E_b2 := E_b2.wr W28
  have V_b2 := V_b2.other W28 (Ne.symm ne_a0_b2)
  have Zs29 := Nat.le_trans Zs25 (Keep.of_wr W28).1
  have Kp30 := Kp26.wr W28 (Or.inl (List.mem_of_getElem? (i := 0) rfl))
  refine Go.st (S' := T28.setTop (mkF m 59 #[.val (.ref a0), .val (.ref a1), .val (.int p2), .val (.int p3)] [])) st28 ?_
  refine Go.st (S' := T28.setTop (mkF m 60 #[.val (.ref a0), .val (.ref a1), .val (.int p2), .val (.int p3)] [(.ref a0)])) (fun _ kk => XS.aloadN X28.here hx rfl (hb hby d5_59) rfl rfl kk) ?_
  refine Go.st (S' := T28.setTop (mkF m 61 #[.val (.ref a0), .val (.ref a1), .val (.int p2), .val (.int p3)] [(.int p3), (.ref a0)])) (fun _ kk => XS.iloadN X28.here hx rfl (hb hby d5_60) rfl kk) ?_
  refine Go.st (S' := T28.setTop (mkF m 62 #[.val (.ref a0), .val (.ref a1), .val (.int p2), .val (.int p3)] [(.int p2), (.int p3), (.ref a0)])) (fun _ kk => XS.iloadN X28.here hx rfl (hb hby d5_61) rfl kk) ?_
  refine Go.st (S' := T28.setTop (mkF m 63 #[.val (.ref a0), .val (.ref a1), .val (.int p2), .val (.int p3)] [(.int (p3 - p2)), (.ref a0)])) (fun _ kk => XS.isub X28.here hx rfl (hb hby d5_62) rfl kk) ?_
  obtain ⟨T31, h31, X31, e31, W31, st31⟩ := putF X28 hx hZ hown (host := "") (Or.inl (hw _ (List.mem_of_getElem? (i := 28) rfl))) Via.refl e28 F_a0_length E_a0 (Or.inl (hw _ (List.mem_of_getElem? (i := 29) rfl))) (hw _ (List.mem_of_getElem? (i := 6) rfl)) (ty := .int) (by decide) rfl rfl (g := (mkF m 63 #[.val (.ref a0), .val (.ref a1), .val (.int p2), .val (.int p3)] [(.int (p3 - p2)), (.ref a0)])) rfl rfl (hb hby d5_63)
  have N31 := Fr.snoc X31 N28 g_a0
  have F_a0_length := F_a0_length.same W31
  have E_a0 := E_a0.wr W31
  have F_a0_pieces := F_a0_pieces.other W31 (Or.inr (slot_ne (Or.inl (hw _ (List.mem_of_getElem? (i := 16) rfl))) (Or.inl (hw _ (List.mem_of_getElem? (i := 29) rfl))) (by decide) (t := (.array (.array .byte))) (t' := .int) (by decide) (by decide)))
  have F_a0_shift := F_a0_shift.other W31 (Or.inr (slot_ne (Or.inr (hw _ (List.mem_of_getElem? (i := 18) rfl))) (Or.inl (hw _ (List.mem_of_getElem? (i := 29) rfl))) (by decide) (t := .int) (t' := .int) (by decide) (by decide)))
  have F_a0_mask := F_a0_mask.other W31 (Or.inr (slot_ne (Or.inr (hw _ (List.mem_of_getElem? (i := 20) rfl))) (Or.inl (hw _ (List.mem_of_getElem? (i := 29) rfl))) (by decide) (t := .int) (t' := .int) (by decide) (by decide)))
  have F_a0_offset := F_a0_offset.other W31 (Or.inr (slot_ne (Or.inr (hw _ (List.mem_of_getElem? (i := 22) rfl))) (Or.inl (hw _ (List.mem_of_getElem? (i := 29) rfl))) (by decide) (t := .int) (t' := .int) (by decide) (by decide)))
  have F_a0_slice := F_a0_slice.other W31 (Or.inr (slot_ne (Or.inr (hw _ (List.mem_of_getElem? (i := 24) rfl))) (Or.inl (hw _ (List.mem_of_getElem? (i := 29) rfl))) (by decide) (t := .boolean) (t' := .int) (by decide) (by decide)))
  have F_a0_count := F_a0_count.other W31 (Or.inr (slot_ne (Or.inl (hw _ (List.mem_of_getElem? (i := 27) rfl))) (Or.inl (hw _ (List.mem_of_getElem? (i := 29) rfl))) (by decide) (t := .int) (t' := .int) (by decide) (by decide)))
  have E_a1 := E_a1.wr W31
  have F_a1_pieces := F_a1_pieces.other W31 (Or.inl (Ne.symm ne01))
  have F_a1_shift := F_a1_shift.other W31 (Or.inl (Ne.symm ne01))
  have F_a1_mask := F_a1_mask.other W31 (Or.inl (Ne.symm ne01))
  have F_a1_offset := F_a1_offset.other W31 (Or.inl (Ne.symm ne01))
  have F_a1_slice := F_a1_slice.other W31 (Or.inl (Ne.symm ne01))
  have F_a1_count := F_a1_count.other W31 (Or.inl (Ne.symm ne01))
  have F_a1_length := F_a1_length.other W31 (Or.inl (Ne.symm ne01))
  have E_b2 := E_b2.wr W31
  have V_b2 := V_b2.other W31 (Ne.symm ne_a0_b2)
  have Zs32 := Nat.le_trans Zs29 (Keep.of_wr W31).1
  have Kp33 := Kp30.wr W31 (Or.inl (List.mem_of_getElem? (i := 0) rfl))
  refine Go.st (S' := T31.setTop (mkF m 66 #[.val (.ref a0), .val (.ref a1), .val (.int p2), .val (.int p3)] [])) st31 ?_
  exact Go.ret0 X31 hx hlk Bd.returns (hb hby d5_66) (by rw [e31]; exact ⟨rfl, N31, Kp33, E_a0, F_a0_pieces, F_a0_shift, F_a0_mask, F_a0_offset, F_a0_slice, F_a0_count, F_a0_length⟩) (by decide) (by decide)
def Q_rmSl (Z : State) (p1 p2 : Int32) (t : Addr) (sh mk of sl ct le : Int32) (h0 : Heap) (n0 : Nat) (v : Option Value) (h : Heap) (L : List Loc) : Prop := ∃ r : Addr, v = some (.ref r) ∧ Fr n0 L ∧ Keep h0 h [] ∧ Exa Z h r "com/example/call_bundler/callbundler/http/Content" ∧ h0.size ≤ r ∧ Fld Z h r "com/example/call_bundler/callbundler/http/Content" "pieces" "[[B" (.ref t) ∧ Fld Z h r "com/example/call_bundler/callbundler/http/Content" "shift" "I" (.int sh) ∧ Fld Z h r "com/example/call_bundler/callbundler/http/Content" "mask" "I" (.int mk) ∧ Fld Z h r "com/example/call_bundler/callbundler/http/Content" "offset" "I" (.int (of + p1)) ∧ Fld Z h r "com/example/call_bundler/callbundler/http/Content" "slice" "Z" (.int (nar .boolean (1 : Int32))) ∧ Fld Z h r "com/example/call_bundler/callbundler/http/Content" "count" "I" (.int ct) ∧ Fld Z h r "com/example/call_bundler/callbundler/http/Content" "length" "I" (.int (p2 - p1))
theorem d4_0 : decode prog_14_method_5_code 0 = .ok (.new 10, 3) := by decide +kernel
theorem d4_3 : decode prog_14_method_5_code 3 = .ok (.dup, 1) := by decide +kernel
theorem d4_4 : decode prog_14_method_5_code 4 = .ok (.aload_n 0, 1) := by decide +kernel
theorem d4_5 : decode prog_14_method_5_code 5 = .ok (.iload_n 1, 1) := by decide +kernel
theorem d4_6 : decode prog_14_method_5_code 6 = .ok (.iload_n 2, 1) := by decide +kernel
theorem d4_7 : decode prog_14_method_5_code 7 = .ok (.invokespecial 38, 3) := by decide +kernel
theorem d4_10 : decode prog_14_method_5_code 10 = .ok (.areturn, 1) := by decide +kernel
theorem ef_4 (m : MethodId) (a0 : Addr) (p1 : Int32) (p2 : Int32) : entryFrame m #[(.ref a0), (.int p1), (.int p2)] 3 = mkF m 0 #[.val (.ref a0), .val (.int p1), .val (.int p2)] [] := by first | (simp [entryFrame, mkF, argsToLocals, Value.category]; done) | rfl
set_option maxRecDepth 65536 in
set_option maxHeartbeats 40000000 in
theorem rmSl (l : Launch) (Z : State) (az : Array Value) (hw : ∀ d ∈ tables_1, d.before az Z = true) (ws : List Jvm.Cond) (a0 : Addr) (p1 : Int32) (p2 : Int32) (t : Addr) (sh mk of sl ct le : Int32) (h0 : Heap) (n0 : Nat) (Z0 : n0 ≤ h0.size) (E_a0 : Exa Z h0 a0 "com/example/call_bundler/callbundler/http/Content") (F_a0_pieces : Fld Z h0 a0 "com/example/call_bundler/callbundler/http/Content" "pieces" "[[B" (.ref t)) (F_a0_shift : Fld Z h0 a0 "com/example/call_bundler/callbundler/http/Content" "shift" "I" (.int sh)) (F_a0_mask : Fld Z h0 a0 "com/example/call_bundler/callbundler/http/Content" "mask" "I" (.int mk)) (F_a0_offset : Fld Z h0 a0 "com/example/call_bundler/callbundler/http/Content" "offset" "I" (.int of)) (F_a0_slice : Fld Z h0 a0 "com/example/call_bundler/callbundler/http/Content" "slice" "Z" (.int sl)) (F_a0_count : Fld Z h0 a0 "com/example/call_bundler/callbundler/http/Content" "count" "I" (.int ct)) (F_a0_length : Fld Z h0 a0 "com/example/call_bundler/callbundler/http/Content" "length" "I" (.int le)) :
    MetFree l (⟨"com/example/call_bundler/callbundler/http/Content", "slice", "(II)Lcom/example/call_bundler/callbundler/http/Content;"⟩ : MethodName) (head1 (Jvm.Cond.code (⟨"com/example/call_bundler/callbundler/http/Content", "slice", "(II)Lcom/example/call_bundler/callbundler/http/Content;"⟩ : MethodName) prog_14_method_5_code 3 (some (.object "com/example/call_bundler/callbundler/http/Content")) :: ws) ({ frames := 2, cells := 2, slots := 8, locals := 40 } : Room)) (fun a U => a = #[(.ref a0), (.int p1), (.int p2)] ∧ Z.Warmed39 U.vm ∧ U.heap = h0) (fun _ _ _ _ _ => True) (fun _ U o U' => ∃ v L, o = .returned v ∧ (Q_rmSl Z p1 p2 t sh mk of sl ct le h0 n0) v U'.heap L ∧ FrameEnd U o U' L ({ frames := 2, cells := 2, slots := 8, locals := 40 } : Room).cells ({ frames := 2, cells := 2, slots := 8, locals := 40 } : Room).slots) := by
  refine MetFree.of_bodySF (plainFor_of_name pn_0) hisR ?_
  intro p e s m args below meth c s₁ Bd hml0 hP hK
  obtain ⟨rfl, hZ, hh⟩ := hP
  have hx := Bd.exec
  have hby := Bd.bytes
  have hlk : meth.locks = false := Bd.notSynchronized
  have hml : c.maxLocals = 3 := hml0
  have hown : s.vm.findClass "com/example/call_bundler/callbundler/http/Content" = some m.cls := findClass_of_methodNamed Bd.named
  have hnm := (name_of_methodNamed Bd.named Bd.method).1
  have X0 : Stand p l e ({ frames := 2, cells := 2, slots := 8, locals := 40 } : Room) s m #[(.ref a0), (.int p1), (.int p2)] below meth c s₁ [] 0 0 := Stand.of_body Bd
  have e0 : s₁.heap = h0 := by rw [← hh, Bd.state]; rfl
  have N0 := Fr.nil n0
  show Go p e below s ((Q_rmSl Z p1 p2 t sh mk of sl ct le h0 n0)) ({ frames := 2, cells := 2, slots := 8, locals := 40 } : Room).cells ({ frames := 2, cells := 2, slots := 8, locals := 40 } : Room).slots (s₁.setTop (entryFrame m #[(.ref a0), (.int p1), (.int p2)] 3))
  rw [ef_4 m a0 p1 p2]
  obtain ⟨T1, h1, X1, e1, E1, A1, D1, -, st1⟩ := newO X0 hx hZ hown (hw _ (List.mem_of_getElem? (i := 5) rfl)) (hw _ (List.mem_of_getElem? (i := 6) rfl)) (hw _ (List.mem_of_getElem? (i := 3) rfl)) e0 (g := (mkF m 0 #[.val (.ref a0), .val (.int p1), .val (.int p2)] [])) rfl (hb hby d4_0) (by decide : 0 + 1 ≤ _) (by decide : 0 + 7 ≤ _)
  obtain ⟨b1, g1⟩ : ∃ z, z = h0.size := ⟨_, rfl⟩
  rw [← g1] at A1 D1 st1
  have ne_a0_b1 : a0 ≠ b1 := Nat.ne_of_lt (Nat.lt_of_lt_of_le E_a0.lt (Nat.le_of_eq g1.symm))
  have g_b1 : n0 ≤ b1 := Nat.le_trans Z0 (Nat.le_of_eq g1.symm)
  have sz_b1 : h0.size ≤ b1 := Nat.le_trans (Keep.refl h0 []).1 (Nat.le_of_eq g1.symm)
  have E_a0 := E_a0.ext E1
  have F_a0_pieces := F_a0_pieces.ext E1
  have F_a0_shift := F_a0_shift.ext E1
  have F_a0_mask := F_a0_mask.ext E1
  have F_a0_offset := F_a0_offset.ext E1
  have F_a0_slice := F_a0_slice.ext E1
  have F_a0_count := F_a0_count.ext E1
  have F_a0_length := F_a0_length.ext E1
  have Zs2 := Nat.le_trans Z0 E1.1
  have Kp3 := (Keep.refl h0 []).ext E1
  have E_b1 := A1
  have F_pieces_b1 : Fld Z h1 b1 "com/example/call_bundler/callbundler/http/Content" "pieces" "[[B" .null := D1 (Or.inl (hw _ (List.mem_of_getElem? (i := 16) rfl))) (ty := (.array (.array .byte))) (by decide)
  have F_shift_b1 : Fld Z h1 b1 "com/example/call_bundler/callbundler/http/Content" "shift" "I" (.int (0 : Int32)) := D1 (Or.inr (hw _ (List.mem_of_getElem? (i := 18) rfl))) (ty := .int) (by decide)
  have F_mask_b1 : Fld Z h1 b1 "com/example/call_bundler/callbundler/http/Content" "mask" "I" (.int (0 : Int32)) := D1 (Or.inr (hw _ (List.mem_of_getElem? (i := 20) rfl))) (ty := .int) (by decide)
  have F_offset_b1 : Fld Z h1 b1 "com/example/call_bundler/callbundler/http/Content" "offset" "I" (.int (0 : Int32)) := D1 (Or.inr (hw _ (List.mem_of_getElem? (i := 22) rfl))) (ty := .int) (by decide)
  have F_slice_b1 : Fld Z h1 b1 "com/example/call_bundler/callbundler/http/Content" "slice" "Z" (.int (0 : Int32)) := D1 (Or.inr (hw _ (List.mem_of_getElem? (i := 24) rfl))) (ty := .boolean) (by decide)
  have F_count_b1 : Fld Z h1 b1 "com/example/call_bundler/callbundler/http/Content" "count" "I" (.int (0 : Int32)) := D1 (Or.inl (hw _ (List.mem_of_getElem? (i := 27) rfl))) (ty := .int) (by decide)
  have F_length_b1 : Fld Z h1 b1 "com/example/call_bundler/callbundler/http/Content" "length" "I" (.int (0 : Int32)) := D1 (Or.inl (hw _ (List.mem_of_getElem? (i := 29) rfl))) (ty := .int) (by decide)
  refine Go.st (S' := T1.setTop (mkF m 3 #[.val (.ref a0), .val (.int p1), .val (.int p2)] [(.ref b1)])) st1 ?_
  refine Go.st (S' := T1.setTop (mkF m 4 #[.val (.ref a0), .val (.int p1), .val (.int p2)] [(.ref b1), (.ref b1)])) (fun _ kk => XS.dup X1.here hx rfl (hb hby d4_3) rfl rfl kk) ?_
  refine Go.st (S' := T1.setTop (mkF m 5 #[.val (.ref a0), .val (.int p1), .val (.int p2)] [(.ref a0), (.ref b1), (.ref b1)])) (fun _ kk => XS.aloadN X1.here hx rfl (hb hby d4_4) rfl rfl kk) ?_
  refine Go.st (S' := T1.setTop (mkF m 6 #[.val (.ref a0), .val (.int p1), .val (.int p2)] [(.int p1), (.ref a0), (.ref b1), (.ref b1)])) (fun _ kk => XS.iloadN X1.here hx rfl (hb hby d4_5) rfl kk) ?_
  refine Go.st (S' := T1.setTop (mkF m 7 #[.val (.ref a0), .val (.int p1), .val (.int p2)] [(.int p2), (.int p1), (.ref a0), (.ref b1), (.ref b1)])) (fun _ kk => XS.iloadN X1.here hx rfl (hb hby d4_6) rfl kk) ?_
  obtain ⟨_, _, ⟨T4, L4, k4, n4⟩, -, X4, ⟨Lc4, hQ4, l4, y4, z4⟩, st4⟩ := X1.specialBack hx (y := (⟨"com/example/call_bundler/callbundler/http/Content", "<init>", "(Lcom/example/call_bundler/callbundler/http/Content;II)V"⟩ : MethodName)) rfl hown (mvT hZ (hw _ (List.mem_of_getElem? (i := 36) rfl))) (mvT hZ (hw _ (List.mem_of_getElem? (i := 37) rfl))) (mvT hZ (hw _ (List.mem_of_getElem? (i := 38) rfl))) (by decide) (backOf (W := 1) (rmN2 l Z az hw [] b1 a0 p1 p2 t sh mk of sl ct le h1 n0 Zs2 E_b1 F_pieces_b1 F_shift_b1 F_mask_b1 F_offset_b1 F_slice_b1 F_count_b1 F_length_b1 g_b1 E_a0 F_a0_pieces F_a0_shift F_a0_mask F_a0_offset F_a0_slice F_a0_count F_a0_length (Ne.symm ne_a0_b1)) hZ (hw _ (List.mem_of_getElem? (i := 38) rfl)) (hw _ (List.mem_of_getElem? (i := 3) rfl)) (by decide) (by decide)) (g := (mkF m 7 #[.val (.ref a0), .val (.int p1), .val (.int p2)] [(.int p2), (.int p1), (.ref a0), (.ref b1), (.ref b1)])) rfl (by rw [hml]; rfl) (Steps.refl _) (a := b1) (argsL := [(.ref a0), (.int p1), (.int p2)]) (rest := [(.ref b1)]) (lenOf pd_4 rfl) rfl (by show 2 * 0 + _ ≤ _; exact Nat.le_of_eq rfl) (hb hby d4_7) (fun _ _ => ⟨rfl, e1, (by decide : 1 + 1 ≤ _), (by decide : 7 + 1 ≤ _)⟩)
  dsimp only [Pt.U, Pt.locs, Pt.cells, Pt.slots] at X4 l4 y4 z4 st4 hQ4
  subst l4 y4 z4
  obtain ⟨rfl, N4q, K4, Ec4, Fc4_pieces, Fc4_shift, Fc4_mask, Fc4_offset, Fc4_slice, Fc4_count, Fc4_length⟩ := hQ4
  have N4 := Fr.app N0 N4q
  have E_a0 := E_a0.keep K4
  have F_a0_pieces := F_a0_pieces.keep K4 (ninS ne_a0_b1 nin0)
  have F_a0_shift := F_a0_shift.keep K4 (ninS ne_a0_b1 nin0)
  have F_a0_mask := F_a0_mask.keep K4 (ninS ne_a0_b1 nin0)
  have F_a0_offset := F_a0_offset.keep K4 (ninS ne_a0_b1 nin0)
  have F_a0_slice := F_a0_slice.keep K4 (ninS ne_a0_b1 nin0)
  have F_a0_count := F_a0_count.keep K4 (ninS ne_a0_b1 nin0)
  have F_a0_length := F_a0_length.keep K4 (ninS ne_a0_b1 nin0)
  have E_b1 := E_b1.keep K4
  have Zs5 := Nat.le_trans Zs2 K4.1
  have Kp6 := Kp3.trans K4 (allS (Or.inr sz_b1) all0)
  refine Go.tr (S' := T4.setTop (mkF m 10 #[.val (.ref a0), .val (.int p1), .val (.int p2)] [(.ref b1)])) st4 ?_
  exact Go.retA X4 hx hlk Bd.returns rfl rfl (hb hby d4_10) (⟨_, rfl, N4, Kp6, E_b1, sz_b1, Fc4_pieces, Fc4_shift, Fc4_mask, Fc4_offset, Fc4_slice, Fc4_count, Fc4_length⟩) (by decide) (by decide)
theorem own_m31 : ((((1 : Int64) <<< ((31 : Int32) &&& 0x3f).toInt64) - (1 : Int64)).toInt32) = (2147483647 : Int32) := by decide
theorem own_sh31 {x : Int32} (h : ¬ x < (0 : Int32) ∧ x < (8 : Int32)) : ((x.toUInt32 >>> ((31 : Int32) &&& 31).toUInt32).toInt32) = (0 : Int32) := by
  have q := c_iushr x 31 31 (by decide) (by decide)
  simp only [Int32.lt_iff_toInt_lt, Int32.reduceToInt] at h
  apply Int32.toInt_inj.mp
  rw [q]
  simp only [Int32.reduceToInt]
  omega
theorem own_and31 {x : Int32} (h : ¬ x < (0 : Int32) ∧ x < (8 : Int32)) : (x &&& (2147483647 : Int32)) = x := by
  have q := c_mask x 2147483647 31 (by decide) (by decide)
  simp only [Int32.lt_iff_toInt_lt, Int32.reduceToInt] at h
  apply Int32.toInt_inj.mp
  rw [q]
  omega
theorem d6_0 : decode prog_14_method_6_code 0 = .ok (.aload_n 0, 1) := by decide +kernel
theorem d6_1 : decode prog_14_method_6_code 1 = .ok (.getfield 22, 3) := by decide +kernel
theorem d6_4 : decode prog_14_method_6_code 4 = .ok (.iload_n 1, 1) := by decide +kernel
theorem d6_5 : decode prog_14_method_6_code 5 = .ok (.iadd, 1) := by decide +kernel
theorem d6_6 : decode prog_14_method_6_code 6 = .ok (.istore_n 2, 1) := by decide +kernel
theorem d6_7 : decode prog_14_method_6_code 7 = .ok (.aload_n 0, 1) := by decide +kernel
theorem d6_8 : decode prog_14_method_6_code 8 = .ok (.getfield 9, 3) := by decide +kernel
theorem d6_11 : decode prog_14_method_6_code 11 = .ok (.iload_n 2, 1) := by decide +kernel
theorem d6_12 : decode prog_14_method_6_code 12 = .ok (.aload_n 0, 1) := by decide +kernel
theorem d6_13 : decode prog_14_method_6_code 13 = .ok (.getfield 15, 3) := by decide +kernel
theorem d6_16 : decode prog_14_method_6_code 16 = .ok (.iushr, 1) := by decide +kernel
theorem d6_17 : decode prog_14_method_6_code 17 = .ok (.aaload, 1) := by decide +kernel
theorem d6_18 : decode prog_14_method_6_code 18 = .ok (.iload_n 2, 1) := by decide +kernel
theorem d6_19 : decode prog_14_method_6_code 19 = .ok (.aload_n 0, 1) := by decide +kernel
theorem d6_20 : decode prog_14_method_6_code 20 = .ok (.getfield 19, 3) := by decide +kernel
theorem d6_23 : decode prog_14_method_6_code 23 = .ok (.iand, 1) := by decide +kernel
theorem d6_24 : decode prog_14_method_6_code 24 = .ok (.baload, 1) := by decide +kernel
theorem d6_25 : decode prog_14_method_6_code 25 = .ok (.ireturn, 1) := by decide +kernel
theorem ef_6 (m : MethodId) (a0 : Addr) (p1 : Int32) : entryFrame m #[(.ref a0), (.int p1)] 3 = mkF m 0 #[.val (.ref a0), .val (.int p1), .unset] [] := by first | (simp [entryFrame, mkF, argsToLocals, Value.category]; done) | rfl
set_option maxRecDepth 65536 in
set_option maxHeartbeats 40000000 in
theorem rmB (l : Launch) (Z : State) (az : Array Value) (hw : ∀ d ∈ tables_1, d.before az Z = true) (ws : List Jvm.Cond) (a0 : Addr) (p1 : Int32) (t y : Addr) (kk ka : ClassId) (bs : List Int32) (of : Int32) (h0 : Heap) (n0 : Nat) (Z0 : n0 ≤ h0.size) (F_pieces : Fld Z h0 a0 "com/example/call_bundler/callbundler/http/Content" "pieces" "[[B" (.ref t)) (F_shift : Fld Z h0 a0 "com/example/call_bundler/callbundler/http/Content" "shift" "I" (.int (31 : Int32))) (F_mask : Fld Z h0 a0 "com/example/call_bundler/callbundler/http/Content" "mask" "I" (.int (2147483647 : Int32))) (F_offset : Fld Z h0 a0 "com/example/call_bundler/callbundler/http/Content" "offset" "I" (.int of)) (V_t : Arv Z h0 t kk (.array .byte) (1 : Int32) [.ref y] .null) (V_y : Arv Z h0 y ka .byte (8 : Int32) (bs.map .int) (.int 0)) (hin : ¬ (of + p1) < (0 : Int32) ∧ (of + p1) < (8 : Int32)) :
    MetFree l (⟨"com/example/call_bundler/callbundler/http/Content", "byteAt", "(I)B"⟩ : MethodName) (head1 (Jvm.Cond.code (⟨"com/example/call_bundler/callbundler/http/Content", "byteAt", "(I)B"⟩ : MethodName) prog_14_method_6_code 3 (some .byte) :: ws) ({ frames := 0, cells := 0, slots := 0, locals := 0 } : Room)) (fun a U => a = #[(.ref a0), (.int p1)] ∧ Z.Warmed39 U.vm ∧ U.heap = h0) (fun _ _ _ _ _ => True) (fun _ U o U' => ∃ v L, o = .returned v ∧ (PQ (.int (nar .byte (bt bs (of + p1)))) n0 h0) v U'.heap L ∧ FrameEnd U o U' L ({ frames := 0, cells := 0, slots := 0, locals := 0 } : Room).cells ({ frames := 0, cells := 0, slots := 0, locals := 0 } : Room).slots) := by
  refine MetFree.of_bodySF (plainFor_of_name pn_0) hisR ?_
  intro p e s m args below meth c s₁ Bd hml0 hP hK
  obtain ⟨rfl, hZ, hh⟩ := hP
  have hx := Bd.exec
  have hby := Bd.bytes
  have hlk : meth.locks = false := Bd.notSynchronized
  have hml : c.maxLocals = 3 := hml0
  have hown : s.vm.findClass "com/example/call_bundler/callbundler/http/Content" = some m.cls := findClass_of_methodNamed Bd.named
  have hnm := (name_of_methodNamed Bd.named Bd.method).1
  have X0 : Stand p l e ({ frames := 0, cells := 0, slots := 0, locals := 0 } : Room) s m #[(.ref a0), (.int p1)] below meth c s₁ [] 0 0 := Stand.of_body Bd
  have e0 : s₁.heap = h0 := by rw [← hh, Bd.state]; rfl
  have N0 := Fr.nil n0
  show Go p e below s ((PQ (.int (nar .byte (bt bs (of + p1)))) n0 h0)) ({ frames := 0, cells := 0, slots := 0, locals := 0 } : Room).cells ({ frames := 0, cells := 0, slots := 0, locals := 0 } : Room).slots (s₁.setTop (entryFrame m #[(.ref a0), (.int p1)] 3))
  rw [ef_6 m a0 p1]
  refine Go.st (S' := s₁.setTop (mkF m 1 #[.val (.ref a0), .val (.int p1), .unset] [(.ref a0)])) (fun _ kk => XS.aloadN X0.here hx rfl (hb hby d6_0) rfl rfl kk) ?_
  obtain ⟨T1, X1, e1, st1⟩ := getF X0 hx hZ hown (host := "") (Or.inl (hw _ (List.mem_of_getElem? (i := 21) rfl))) Via.refl e0 F_offset (g := (mkF m 1 #[.val (.ref a0), .val (.int p1), .unset] [(.ref a0)])) rfl rfl (hb hby d6_1)
  refine Go.st (S' := T1.setTop (mkF m 4 #[.val (.ref a0), .val (.int p1), .unset] [(.int of)])) st1 ?_
  refine Go.st (S' := T1.setTop (mkF m 5 #[.val (.ref a0), .val (.int p1), .unset] [(.int p1), (.int of)])) (fun _ kk => XS.iloadN X1.here hx rfl (hb hby d6_4) rfl kk) ?_
  refine Go.st (S' := T1.setTop (mkF m 6 #[.val (.ref a0), .val (.int p1), .unset] [(.int (of + p1))])) (fun _ kk => XS.iadd X1.here hx rfl (hb hby d6_5) rfl kk) ?_
  refine Go.st (S' := T1.setTop (mkF m 7 #[.val (.ref a0), .val (.int p1), .val (.int (of + p1))] [])) (fun _ kk => XS.istoreN X1.here hx rfl (hb hby d6_6) rfl (l' := #[.val (.ref a0), .val (.int p1), .val (.int (of + p1))]) rfl kk) ?_
  refine Go.st (S' := T1.setTop (mkF m 8 #[.val (.ref a0), .val (.int p1), .val (.int (of + p1))] [(.ref a0)])) (fun _ kk => XS.aloadN X1.here hx rfl (hb hby d6_7) rfl rfl kk) ?_
  obtain ⟨T2, X2, e2, st2⟩ := getF X1 hx hZ hown (host := "") (Or.inl (hw _ (List.mem_of_getElem? (i := 15) rfl))) Via.refl e1 F_pieces (g := (mkF m 8 #[.val (.ref a0), .val (.int p1), .val (.int (of + p1))] [(.ref a0)])) rfl rfl (hb hby d6_8)
  refine Go.st (S' := T2.setTop (mkF m 11 #[.val (.ref a0), .val (.int p1), .val (.int (of + p1))] [(.ref t)])) st2 ?_
  refine Go.st (S' := T2.setTop (mkF m 12 #[.val (.ref a0), .val (.int p1), .val (.int (of + p1))] [(.int (of + p1)), (.ref t)])) (fun _ kk => XS.iloadN X2.here hx rfl (hb hby d6_11) rfl kk) ?_
  refine Go.st (S' := T2.setTop (mkF m 13 #[.val (.ref a0), .val (.int p1), .val (.int (of + p1))] [(.ref a0), (.int (of + p1)), (.ref t)])) (fun _ kk => XS.aloadN X2.here hx rfl (hb hby d6_12) rfl rfl kk) ?_
  obtain ⟨T3, X3, e3, st3⟩ := getF X2 hx hZ hown (host := "") (Or.inl (hw _ (List.mem_of_getElem? (i := 17) rfl))) Via.refl e2 F_shift (g := (mkF m 13 #[.val (.ref a0), .val (.int p1), .val (.int (of + p1))] [(.ref a0), (.int (of + p1)), (.ref t)])) rfl rfl (hb hby d6_13)
  refine Go.st (S' := T3.setTop (mkF m 16 #[.val (.ref a0), .val (.int p1), .val (.int (of + p1))] [(.int (31 : Int32)), (.int (of + p1)), (.ref t)])) st3 ?_
  refine Go.st (S' := T3.setTop (mkF m 17 #[.val (.ref a0), .val (.int p1), .val (.int (of + p1))] [(.int (((of + p1).toUInt32 >>> ((31 : Int32) &&& 31).toUInt32).toInt32)), (.ref t)])) (fun _ kk => XS.iushr X3.here hx rfl (hb hby d6_16) rfl kk) ?_
  rw [show (((of + p1).toUInt32 >>> ((31 : Int32) &&& 31).toUInt32).toInt32) = (0 : Int32) from own_sh31 hin]
  obtain ⟨cl4, Ar4, q4, S4, Ng4, H4, G4⟩ := (id V_t)
  have hin4 : ¬ ((0 : Int32) < 0 ∨ cl4.slots.size ≤ ((0 : Int32)).toNatClampNeg) := inb_of S4 ⟨by decide, by decide⟩
  have hat4 : cl4.slots[((0 : Int32)).toNatClampNeg]? = some (.ref y) := Has.at H4 hin4 rfl
  refine Go.st (S' := T3.setTop (mkF m 18 #[.val (.ref a0), .val (.int p1), .val (.int (of + p1))] [(.ref y)])) (fun _ kk => X3.aaload hx (j := (0 : Int32)) (v := (.ref y)) (by rw [e3]; exact Ar4.1) (State.isArrayOf_alike hZ.alike Ar4.2.1) rfl Ar4.2.2 hin4 hat4 (g := (mkF m 17 #[.val (.ref a0), .val (.int p1), .val (.int (of + p1))] [(.int (0 : Int32)), (.ref t)])) rfl rfl (hb hby d6_17) _ kk) ?_
  refine Go.st (S' := T3.setTop (mkF m 19 #[.val (.ref a0), .val (.int p1), .val (.int (of + p1))] [(.int (of + p1)), (.ref y)])) (fun _ kk => XS.iloadN X3.here hx rfl (hb hby d6_18) rfl kk) ?_
  refine Go.st (S' := T3.setTop (mkF m 20 #[.val (.ref a0), .val (.int p1), .val (.int (of + p1))] [(.ref a0), (.int (of + p1)), (.ref y)])) (fun _ kk => XS.aloadN X3.here hx rfl (hb hby d6_19) rfl rfl kk) ?_
  obtain ⟨T5, X5, e5, st5⟩ := getF X3 hx hZ hown (host := "") (Or.inl (hw _ (List.mem_of_getElem? (i := 19) rfl))) Via.refl e3 F_mask (g := (mkF m 20 #[.val (.ref a0), .val (.int p1), .val (.int (of + p1))] [(.ref a0), (.int (of + p1)), (.ref y)])) rfl rfl (hb hby d6_20)
  refine Go.st (S' := T5.setTop (mkF m 23 #[.val (.ref a0), .val (.int p1), .val (.int (of + p1))] [(.int (2147483647 : Int32)), (.int (of + p1)), (.ref y)])) st5 ?_
  refine Go.st (S' := T5.setTop (mkF m 24 #[.val (.ref a0), .val (.int p1), .val (.int (of + p1))] [(.int ((of + p1) &&& (2147483647 : Int32))), (.ref y)])) (fun _ kk => XS.iand X5.here hx rfl (hb hby d6_23) rfl kk) ?_
  rw [show ((of + p1) &&& (2147483647 : Int32)) = (of + p1) from own_and31 hin]
  obtain ⟨cl6, Ar6, q6, S6, Ng6, H6, G6⟩ := (id V_y)
  have hin6 : ¬ ((of + p1) < 0 ∨ cl6.slots.size ≤ ((of + p1)).toNatClampNeg) := inb_of S6 hin
  have hat6 : cl6.slots[((of + p1)).toNatClampNeg]? = some (.int (bt bs (of + p1))) := own_at H6 hin6
  refine Go.st (S' := T5.setTop (mkF m 25 #[.val (.ref a0), .val (.int p1), .val (.int (of + p1))] [(.int (bt bs (of + p1)))])) (fun _ kk => X5.baloadBytes hx (j := (of + p1)) (v := (.int (bt bs (of + p1)))) (by rw [e5]; exact Ar6.1) (State.isArrayOf_alike hZ.alike Ar6.2.1) Ar6.2.2 hin6 hat6 (g := (mkF m 24 #[.val (.ref a0), .val (.int p1), .val (.int (of + p1))] [(.int (of + p1)), (.ref y)])) rfl rfl (hb hby d6_24) _ kk) ?_
  exact Go.retN X5 hx hlk (t := .byte) Bd.returns (by simp) (hb hby d6_25) (⟨rfl, N0, e5⟩) (by decide) (by decide)
theorem own_nb {bs : List Int32} (h : ∀ b ∈ bs, nar .byte b = b) (j : Int32) : nar .byte (bt bs j) = bt bs j := by
  unfold bt
  rw [List.getD_eq_getElem?_getD]
  cases q : bs[j.toNatClampNeg]? with
  | none => rfl
  | some b => exact h b (List.mem_of_getElem? q)
theorem own_b8 (x : Int32) : nar .byte x.toInt8.toInt32 = x.toInt8.toInt32 := by
  show x.toInt8.toInt32.toInt8.toInt32 = x.toInt8.toInt32
  rw [Int8.toInt8_toInt32]
theorem own_rem8 (x : Int32) : 0 ≤ ((x &&& (2147483647 : Int32)) % (8 : Int32)).toInt ∧ ((x &&& (2147483647 : Int32)) % (8 : Int32)).toInt < 8 := by
  have h := (c_and x 2147483647 (by decide)).1
  have q := (c_irem (x &&& 2147483647) 8 8 (by decide)).1 h
  omega
theorem own_d8 {f : Int32} (h : 0 ≤ f.toInt ∧ f.toInt < 8) : ((8 : Int32) - f).toInt = 8 - f.toInt := XT.sub32 ⟨by simp only [Int32.reduceToInt]; omega, by simp only [Int32.reduceToInt]; omega⟩
theorem own_remP (x : Int32) {d : Int32} (h : 0 < d.toInt) : 0 ≤ ((x &&& (2147483647 : Int32)) % d).toInt ∧ ((x &&& (2147483647 : Int32)) % d).toInt < d.toInt := by
  have h1 := (c_and x 2147483647 (by decide)).1
  have q := (c_iremV (x &&& 2147483647) d).1 h1 h
  omega
theorem own_nz {d : Int32} (h : 0 < d.toInt) : d ≠ 0 := fun q => by subst q; exact absurd h (by decide)
theorem own_t {f r : Int32} (h : 0 ≤ f.toInt ∧ f.toInt < 8) (h2 : 0 ≤ r.toInt ∧ r.toInt < 8 - f.toInt) : ((f + (1 : Int32)) + r).toInt = f.toInt + 1 + r.toInt := by
  have a : (f + (1 : Int32)).toInt = f.toInt + 1 := XT.add32 ⟨by simp only [Int32.reduceToInt]; omega, by simp only [Int32.reduceToInt]; omega⟩
  rw [XT.add32 ⟨by omega, by omega⟩, a]
theorem own_sub {t f : Int32} (h : 0 ≤ f.toInt ∧ f.toInt < 8) (h2 : 0 ≤ t.toInt ∧ t.toInt ≤ 8) : (t - f).toInt = t.toInt - f.toInt := XT.sub32 ⟨by omega, by omega⟩
theorem own_in8 {x : Int32} (h : 0 ≤ x.toInt ∧ x.toInt < 8) : ¬ x < (0 : Int32) ∧ x < (8 : Int32) := by simp only [Int32.lt_iff_toInt_lt, Int32.reduceToInt]; omega
theorem own_add {f j : Int32} (h : 0 ≤ f.toInt) (h1 : 0 ≤ j.toInt) (h2 : f.toInt + j.toInt < 8) : (f + j).toInt = f.toInt + j.toInt := XT.add32 ⟨by omega, by omega⟩
theorem pn_1 : plainName "com/example/call_bundler/callbundler/http/ContentByteAtPinLaw" = true := by first | (simp [plainName, overriddenIn]; done) | decide +kernel
theorem ef_0 (m : MethodId) (q0 : Int64) (p1 : Int32) (p2 : Int32) (p3 : Int32) (p4 : Int32) : entryFrame m #[(.long q0), (.int p1), (.int p2), (.int p3), (.int p4)] maxLocals = mkF m 0 #[.val (.long q0), .second, .val (.int p1), .val (.int p2), .val (.int p3), .val (.int p4), .unset, .unset, .unset, .unset, .unset, .unset, .unset, .unset, .unset, .unset] [] := by first | (simp [entryFrame, mkF, argsToLocals, Value.category, maxLocals]; done) | rfl
set_option maxRecDepth 65536 in
set_option maxHeartbeats 40000000 in
theorem rm0 (l : Launch) (Z : State) (az : Array Value) (hw : ∀ d ∈ tables_1, d.before az Z = true) (ws : List Jvm.Cond) (q0 : Int64) (p1 : Int32) (p2 : Int32) (p3 : Int32) (p4 : Int32)  (h0 : Heap) (n0 : Nat) (Z0 : n0 ≤ h0.size)  :
    MetFree l x (head1 (Jvm.Cond.code x code maxLocals ret :: ws) room_1) (fun a U => a = #[(.long q0), (.int p1), (.int p2), (.int p3), (.int p4)] ∧ Z.Warmed39 U.vm ∧ U.heap = h0) (fun _ _ _ _ _ => True) (fun _ U o U' => ∃ v L, o = .returned v ∧ (LQ n0) v U'.heap L ∧ FrameEnd U o U' L room_1.cells room_1.slots) := by
  refine MetFree.of_bodySF (plainFor_of_name pn_1) hisR ?_
  intro p e s m args below meth c s₁ Bd hml0 hP hK
  obtain ⟨rfl, hZ, hh⟩ := hP
  have hx := Bd.exec
  have hby := Bd.bytes
  have hlk : meth.locks = false := Bd.notSynchronized
  have hml : c.maxLocals = 16 := hml0
  have hown : s.vm.findClass "com/example/call_bundler/callbundler/http/ContentByteAtPinLaw" = some m.cls := findClass_of_methodNamed Bd.named
  have hnm := (name_of_methodNamed Bd.named Bd.method).1
  have X0 : Stand p l e room_1 s m #[(.long q0), (.int p1), (.int p2), (.int p3), (.int p4)] below meth c s₁ [] 0 0 := Stand.of_body Bd
  have e0 : s₁.heap = h0 := by rw [← hh, Bd.state]; rfl
  have N0 := Fr.nil n0
  show Go p e below s ((LQ n0)) room_1.cells room_1.slots (s₁.setTop (entryFrame m #[(.long q0), (.int p1), (.int p2), (.int p3), (.int p4)] maxLocals))
  rw [ef_0 m q0 p1 p2 p3 p4]
  refine Go.st (S' := s₁.setTop (mkF m 2 #[.val (.long q0), .second, .val (.int p1), .val (.int p2), .val (.int p3), .val (.int p4), .unset, .unset, .unset, .unset, .unset, .unset, .unset, .unset, .unset, .unset] [(.int (8 : Int32))])) (fun _ kk => XS.bipush X0.here hx rfl (hb hby at_0) kk) ?_
  obtain ⟨T1, h1, k1, X1, e1, E1, A1, E_b1, st1⟩ := newPE X0 hx hZ (hw _ (List.mem_of_getElem? (i := 0) rfl)) e0 (g := (mkF m 2 #[.val (.long q0), .second, .val (.int p1), .val (.int p2), .val (.int p3), .val (.int p4), .unset, .unset, .unset, .unset, .unset, .unset, .unset, .unset, .unset, .unset] [(.int (8 : Int32))])) rfl (hb hby at_2) rfl (by decide) (cap := 8) (by decide) (by decide) (by decide : 0 + 1 ≤ _) (by decide : 0 + 8 ≤ _) (ad := "[B") rfl
  obtain ⟨b1, g1⟩ : ∃ z, z = h0.size := ⟨_, rfl⟩
  rw [← g1] at A1 E_b1 st1
  have g_b1 : n0 ≤ b1 := Nat.le_trans Z0 (Nat.le_of_eq g1.symm)
  have Zs2 := Nat.le_trans Z0 E1.1
  have V_b1 : Arv Z h1 b1 k1 .byte (8 : Int32) [(.int (0 : Int32)), (.int (0 : Int32)), (.int (0 : Int32)), (.int (0 : Int32)), (.int (0 : Int32)), (.int (0 : Int32)), (.int (0 : Int32)), (.int (0 : Int32))] (.int (0 : Int32)) := (Arv.new A1 (by decide)).pad (pad_rep [] (.int (0 : Int32)) 8)
  refine Go.st (S' := T1.setTop (mkF m 4 #[.val (.long q0), .second, .val (.int p1), .val (.int p2), .val (.int p3), .val (.int p4), .unset, .unset, .unset, .unset, .unset, .unset, .unset, .unset, .unset, .unset] [(.ref b1)])) st1 ?_
  refine Go.st (S' := T1.setTop (mkF m 6 #[.val (.long q0), .second, .val (.int p1), .val (.int p2), .val (.int p3), .val (.int p4), .val (.ref b1), .unset, .unset, .unset, .unset, .unset, .unset, .unset, .unset, .unset] [])) (fun _ kk => XS.astore X1.here hx rfl (hb hby at_4) rfl rfl (l' := #[.val (.long q0), .second, .val (.int p1), .val (.int p2), .val (.int p3), .val (.int p4), .val (.ref b1), .unset, .unset, .unset, .unset, .unset, .unset, .unset, .unset, .unset]) rfl kk) ?_
  refine Go.st (S' := T1.setTop (mkF m 8 #[.val (.long q0), .second, .val (.int p1), .val (.int p2), .val (.int p3), .val (.int p4), .val (.ref b1), .unset, .unset, .unset, .unset, .unset, .unset, .unset, .unset, .unset] [(.ref b1)])) (fun _ kk => XS.aload X1.here hx rfl (hb hby at_6) rfl rfl kk) ?_
  refine Go.st (S' := T1.setTop (mkF m 9 #[.val (.long q0), .second, .val (.int p1), .val (.int p2), .val (.int p3), .val (.int p4), .val (.ref b1), .unset, .unset, .unset, .unset, .unset, .unset, .unset, .unset, .unset] [(.int (0 : Int32)), (.ref b1)])) (fun _ kk => XS.iconst X1.here hx rfl (hb hby at_8) kk) ?_
  refine Go.st (S' := T1.setTop (mkF m 10 #[.val (.long q0), .second, .val (.int p1), .val (.int p2), .val (.int p3), .val (.int p4), .val (.ref b1), .unset, .unset, .unset, .unset, .unset, .unset, .unset, .unset, .unset] [(.long q0), (.int (0 : Int32)), (.ref b1)])) (fun _ kk => XS.lloadN X1.here hx rfl (hb hby at_9) rfl kk) ?_
  refine Go.st (S' := T1.setTop (mkF m 11 #[.val (.long q0), .second, .val (.int p1), .val (.int p2), .val (.int p3), .val (.int p4), .val (.ref b1), .unset, .unset, .unset, .unset, .unset, .unset, .unset, .unset, .unset] [(.int (q0.toInt32)), (.int (0 : Int32)), (.ref b1)])) (fun _ kk => XS.l2i X1.here hx rfl (hb hby at_10) rfl kk) ?_
  refine Go.st (S' := T1.setTop (mkF m 12 #[.val (.long q0), .second, .val (.int p1), .val (.int p2), .val (.int p3), .val (.int p4), .val (.ref b1), .unset, .unset, .unset, .unset, .unset, .unset, .unset, .unset, .unset] [(.int ((q0.toInt32).toInt8.toInt32)), (.int (0 : Int32)), (.ref b1)])) (fun _ kk => XS.i2b X1.here hx rfl (hb hby at_11) rfl kk) ?_
  obtain ⟨v0, h_v0⟩ : ∃ z : Int32, z = ((q0.toInt32).toInt8.toInt32) := ⟨_, rfl⟩
  rw [← h_v0]
  obtain ⟨cl3, Ar3, q3, S3, Ng3, H3, G3⟩ := (id V_b1)
  have hin3 : ¬ ((0 : Int32) < 0 ∨ cl3.slots.size ≤ ((0 : Int32)).toNatClampNeg) := inb_of S3 ⟨by decide, by decide⟩
  obtain ⟨T3, h3, X3, e3, W3, st3⟩ := stB X1 hx hZ e1 Ar3 (j := (0 : Int32)) hin3 (g := (mkF m 12 #[.val (.long q0), .second, .val (.int p1), .val (.int p2), .val (.int p3), .val (.int p4), .val (.ref b1), .unset, .unset, .unset, .unset, .unset, .unset, .unset, .unset, .unset] [(.int v0), (.int (0 : Int32)), (.ref b1)])) rfl rfl (hb hby at_12)
  have V_b1 : Arv Z h3 b1 k1 .byte (8 : Int32) [(.int (v0.toInt8.toInt32)), (.int (0 : Int32)), (.int (0 : Int32)), (.int (0 : Int32)), (.int (0 : Int32)), (.int (0 : Int32)), (.int (0 : Int32)), (.int (0 : Int32))] (.int (0 : Int32)) := Arv.set Ar3 q3 S3 Ng3 H3 G3 (fits_nar_byte _) W3 0 rfl (Nat.le_of_ble_eq_true rfl)
  have N3 := Fr.snoc X3 N0 g_b1
  have E_b1 := E_b1.wr W3
  have Zs4 := Nat.le_trans Zs2 (Keep.of_wr W3).1
  refine Go.st (S' := T3.setTop (mkF m 13 #[.val (.long q0), .second, .val (.int p1), .val (.int p2), .val (.int p3), .val (.int p4), .val (.ref b1), .unset, .unset, .unset, .unset, .unset, .unset, .unset, .unset, .unset] [])) st3 ?_
  refine Go.st (S' := T3.setTop (mkF m 15 #[.val (.long q0), .second, .val (.int p1), .val (.int p2), .val (.int p3), .val (.int p4), .val (.ref b1), .unset, .unset, .unset, .unset, .unset, .unset, .unset, .unset, .unset] [(.ref b1)])) (fun _ kk => XS.aload X3.here hx rfl (hb hby at_13) rfl rfl kk) ?_
  refine Go.st (S' := T3.setTop (mkF m 16 #[.val (.long q0), .second, .val (.int p1), .val (.int p2), .val (.int p3), .val (.int p4), .val (.ref b1), .unset, .unset, .unset, .unset, .unset, .unset, .unset, .unset, .unset] [(.int (1 : Int32)), (.ref b1)])) (fun _ kk => XS.iconst X3.here hx rfl (hb hby at_15) kk) ?_
  refine Go.st (S' := T3.setTop (mkF m 17 #[.val (.long q0), .second, .val (.int p1), .val (.int p2), .val (.int p3), .val (.int p4), .val (.ref b1), .unset, .unset, .unset, .unset, .unset, .unset, .unset, .unset, .unset] [(.long q0), (.int (1 : Int32)), (.ref b1)])) (fun _ kk => XS.lloadN X3.here hx rfl (hb hby at_16) rfl kk) ?_
  refine Go.st (S' := T3.setTop (mkF m 19 #[.val (.long q0), .second, .val (.int p1), .val (.int p2), .val (.int p3), .val (.int p4), .val (.ref b1), .unset, .unset, .unset, .unset, .unset, .unset, .unset, .unset, .unset] [(.int (8 : Int32)), (.long q0), (.int (1 : Int32)), (.ref b1)])) (fun _ kk => XS.bipush X3.here hx rfl (hb hby at_17) kk) ?_
  refine Go.st (S' := T3.setTop (mkF m 20 #[.val (.long q0), .second, .val (.int p1), .val (.int p2), .val (.int p3), .val (.int p4), .val (.ref b1), .unset, .unset, .unset, .unset, .unset, .unset, .unset, .unset, .unset] [(.long ((q0.toUInt64 >>> ((8 : Int32) &&& 0x3f).toInt64.toUInt64).toInt64)), (.int (1 : Int32)), (.ref b1)])) (fun _ kk => XS.lushr X3.here hx rfl (hb hby at_19) rfl kk) ?_
  refine Go.st (S' := T3.setTop (mkF m 21 #[.val (.long q0), .second, .val (.int p1), .val (.int p2), .val (.int p3), .val (.int p4), .val (.ref b1), .unset, .unset, .unset, .unset, .unset, .unset, .unset, .unset, .unset] [(.int (((q0.toUInt64 >>> ((8 : Int32) &&& 0x3f).toInt64.toUInt64).toInt64).toInt32)), (.int (1 : Int32)), (.ref b1)])) (fun _ kk => XS.l2i X3.here hx rfl (hb hby at_20) rfl kk) ?_
  refine Go.st (S' := T3.setTop (mkF m 22 #[.val (.long q0), .second, .val (.int p1), .val (.int p2), .val (.int p3), .val (.int p4), .val (.ref b1), .unset, .unset, .unset, .unset, .unset, .unset, .unset, .unset, .unset] [(.int ((((q0.toUInt64 >>> ((8 : Int32) &&& 0x3f).toInt64.toUInt64).toInt64).toInt32).toInt8.toInt32)), (.int (1 : Int32)), (.ref b1)])) (fun _ kk => XS.i2b X3.here hx rfl (hb hby at_21) rfl kk) ?_
  obtain ⟨v1, h_v1⟩ : ∃ z : Int32, z = ((((q0.toUInt64 >>> ((8 : Int32) &&& 0x3f).toInt64.toUInt64).toInt64).toInt32).toInt8.toInt32) := ⟨_, rfl⟩
  rw [← h_v1]
  obtain ⟨cl5, Ar5, q5, S5, Ng5, H5, G5⟩ := (id V_b1)
  have hin5 : ¬ ((1 : Int32) < 0 ∨ cl5.slots.size ≤ ((1 : Int32)).toNatClampNeg) := inb_of S5 ⟨by decide, by decide⟩
  obtain ⟨T5, h5, X5, e5, W5, st5⟩ := stB X3 hx hZ e3 Ar5 (j := (1 : Int32)) hin5 (g := (mkF m 22 #[.val (.long q0), .second, .val (.int p1), .val (.int p2), .val (.int p3), .val (.int p4), .val (.ref b1), .unset, .unset, .unset, .unset, .unset, .unset, .unset, .unset, .unset] [(.int v1), (.int (1 : Int32)), (.ref b1)])) rfl rfl (hb hby at_22)
  have V_b1 : Arv Z h5 b1 k1 .byte (8 : Int32) [(.int (v0.toInt8.toInt32)), (.int (v1.toInt8.toInt32)), (.int (0 : Int32)), (.int (0 : Int32)), (.int (0 : Int32)), (.int (0 : Int32)), (.int (0 : Int32)), (.int (0 : Int32))] (.int (0 : Int32)) := Arv.set Ar5 q5 S5 Ng5 H5 G5 (fits_nar_byte _) W5 1 rfl (Nat.le_of_ble_eq_true rfl)
  have N5 := Fr.snoc X5 N3 g_b1
  have E_b1 := E_b1.wr W5
  have Zs6 := Nat.le_trans Zs4 (Keep.of_wr W5).1
  refine Go.st (S' := T5.setTop (mkF m 23 #[.val (.long q0), .second, .val (.int p1), .val (.int p2), .val (.int p3), .val (.int p4), .val (.ref b1), .unset, .unset, .unset, .unset, .unset, .unset, .unset, .unset, .unset] [])) st5 ?_
  refine Go.st (S' := T5.setTop (mkF m 25 #[.val (.long q0), .second, .val (.int p1), .val (.int p2), .val (.int p3), .val (.int p4), .val (.ref b1), .unset, .unset, .unset, .unset, .unset, .unset, .unset, .unset, .unset] [(.ref b1)])) (fun _ kk => XS.aload X5.here hx rfl (hb hby at_23) rfl rfl kk) ?_
  refine Go.st (S' := T5.setTop (mkF m 26 #[.val (.long q0), .second, .val (.int p1), .val (.int p2), .val (.int p3), .val (.int p4), .val (.ref b1), .unset, .unset, .unset, .unset, .unset, .unset, .unset, .unset, .unset] [(.int (2 : Int32)), (.ref b1)])) (fun _ kk => XS.iconst X5.here hx rfl (hb hby at_25) kk) ?_
  refine Go.st (S' := T5.setTop (mkF m 27 #[.val (.long q0), .second, .val (.int p1), .val (.int p2), .val (.int p3), .val (.int p4), .val (.ref b1), .unset, .unset, .unset, .unset, .unset, .unset, .unset, .unset, .unset] [(.long q0), (.int (2 : Int32)), (.ref b1)])) (fun _ kk => XS.lloadN X5.here hx rfl (hb hby at_26) rfl kk) ?_
  refine Go.st (S' := T5.setTop (mkF m 29 #[.val (.long q0), .second, .val (.int p1), .val (.int p2), .val (.int p3), .val (.int p4), .val (.ref b1), .unset, .unset, .unset, .unset, .unset, .unset, .unset, .unset, .unset] [(.int (16 : Int32)), (.long q0), (.int (2 : Int32)), (.ref b1)])) (fun _ kk => XS.bipush X5.here hx rfl (hb hby at_27) kk) ?_
  refine Go.st (S' := T5.setTop (mkF m 30 #[.val (.long q0), .second, .val (.int p1), .val (.int p2), .val (.int p3), .val (.int p4), .val (.ref b1), .unset, .unset, .unset, .unset, .unset, .unset, .unset, .unset, .unset] [(.long ((q0.toUInt64 >>> ((16 : Int32) &&& 0x3f).toInt64.toUInt64).toInt64)), (.int (2 : Int32)), (.ref b1)])) (fun _ kk => XS.lushr X5.here hx rfl (hb hby at_29) rfl kk) ?_
  refine Go.st (S' := T5.setTop (mkF m 31 #[.val (.long q0), .second, .val (.int p1), .val (.int p2), .val (.int p3), .val (.int p4), .val (.ref b1), .unset, .unset, .unset, .unset, .unset, .unset, .unset, .unset, .unset] [(.int (((q0.toUInt64 >>> ((16 : Int32) &&& 0x3f).toInt64.toUInt64).toInt64).toInt32)), (.int (2 : Int32)), (.ref b1)])) (fun _ kk => XS.l2i X5.here hx rfl (hb hby at_30) rfl kk) ?_
  refine Go.st (S' := T5.setTop (mkF m 32 #[.val (.long q0), .second, .val (.int p1), .val (.int p2), .val (.int p3), .val (.int p4), .val (.ref b1), .unset, .unset, .unset, .unset, .unset, .unset, .unset, .unset, .unset] [(.int ((((q0.toUInt64 >>> ((16 : Int32) &&& 0x3f).toInt64.toUInt64).toInt64).toInt32).toInt8.toInt32)), (.int (2 : Int32)), (.ref b1)])) (fun _ kk => XS.i2b X5.here hx rfl (hb hby at_31) rfl kk) ?_
  obtain ⟨v2, h_v2⟩ : ∃ z : Int32, z = ((((q0.toUInt64 >>> ((16 : Int32) &&& 0x3f).toInt64.toUInt64).toInt64).toInt32).toInt8.toInt32) := ⟨_, rfl⟩
  rw [← h_v2]
  obtain ⟨cl7, Ar7, q7, S7, Ng7, H7, G7⟩ := (id V_b1)
  have hin7 : ¬ ((2 : Int32) < 0 ∨ cl7.slots.size ≤ ((2 : Int32)).toNatClampNeg) := inb_of S7 ⟨by decide, by decide⟩
  obtain ⟨T7, h7, X7, e7, W7, st7⟩ := stB X5 hx hZ e5 Ar7 (j := (2 : Int32)) hin7 (g := (mkF m 32 #[.val (.long q0), .second, .val (.int p1), .val (.int p2), .val (.int p3), .val (.int p4), .val (.ref b1), .unset, .unset, .unset, .unset, .unset, .unset, .unset, .unset, .unset] [(.int v2), (.int (2 : Int32)), (.ref b1)])) rfl rfl (hb hby at_32)
  have V_b1 : Arv Z h7 b1 k1 .byte (8 : Int32) [(.int (v0.toInt8.toInt32)), (.int (v1.toInt8.toInt32)), (.int (v2.toInt8.toInt32)), (.int (0 : Int32)), (.int (0 : Int32)), (.int (0 : Int32)), (.int (0 : Int32)), (.int (0 : Int32))] (.int (0 : Int32)) := Arv.set Ar7 q7 S7 Ng7 H7 G7 (fits_nar_byte _) W7 2 rfl (Nat.le_of_ble_eq_true rfl)
  have N7 := Fr.snoc X7 N5 g_b1
  have E_b1 := E_b1.wr W7
  have Zs8 := Nat.le_trans Zs6 (Keep.of_wr W7).1
  refine Go.st (S' := T7.setTop (mkF m 33 #[.val (.long q0), .second, .val (.int p1), .val (.int p2), .val (.int p3), .val (.int p4), .val (.ref b1), .unset, .unset, .unset, .unset, .unset, .unset, .unset, .unset, .unset] [])) st7 ?_
  refine Go.st (S' := T7.setTop (mkF m 35 #[.val (.long q0), .second, .val (.int p1), .val (.int p2), .val (.int p3), .val (.int p4), .val (.ref b1), .unset, .unset, .unset, .unset, .unset, .unset, .unset, .unset, .unset] [(.ref b1)])) (fun _ kk => XS.aload X7.here hx rfl (hb hby at_33) rfl rfl kk) ?_
  refine Go.st (S' := T7.setTop (mkF m 36 #[.val (.long q0), .second, .val (.int p1), .val (.int p2), .val (.int p3), .val (.int p4), .val (.ref b1), .unset, .unset, .unset, .unset, .unset, .unset, .unset, .unset, .unset] [(.int (3 : Int32)), (.ref b1)])) (fun _ kk => XS.iconst X7.here hx rfl (hb hby at_35) kk) ?_
  refine Go.st (S' := T7.setTop (mkF m 37 #[.val (.long q0), .second, .val (.int p1), .val (.int p2), .val (.int p3), .val (.int p4), .val (.ref b1), .unset, .unset, .unset, .unset, .unset, .unset, .unset, .unset, .unset] [(.long q0), (.int (3 : Int32)), (.ref b1)])) (fun _ kk => XS.lloadN X7.here hx rfl (hb hby at_36) rfl kk) ?_
  refine Go.st (S' := T7.setTop (mkF m 39 #[.val (.long q0), .second, .val (.int p1), .val (.int p2), .val (.int p3), .val (.int p4), .val (.ref b1), .unset, .unset, .unset, .unset, .unset, .unset, .unset, .unset, .unset] [(.int (24 : Int32)), (.long q0), (.int (3 : Int32)), (.ref b1)])) (fun _ kk => XS.bipush X7.here hx rfl (hb hby at_37) kk) ?_
  refine Go.st (S' := T7.setTop (mkF m 40 #[.val (.long q0), .second, .val (.int p1), .val (.int p2), .val (.int p3), .val (.int p4), .val (.ref b1), .unset, .unset, .unset, .unset, .unset, .unset, .unset, .unset, .unset] [(.long ((q0.toUInt64 >>> ((24 : Int32) &&& 0x3f).toInt64.toUInt64).toInt64)), (.int (3 : Int32)), (.ref b1)])) (fun _ kk => XS.lushr X7.here hx rfl (hb hby at_39) rfl kk) ?_
  refine Go.st (S' := T7.setTop (mkF m 41 #[.val (.long q0), .second, .val (.int p1), .val (.int p2), .val (.int p3), .val (.int p4), .val (.ref b1), .unset, .unset, .unset, .unset, .unset, .unset, .unset, .unset, .unset] [(.int (((q0.toUInt64 >>> ((24 : Int32) &&& 0x3f).toInt64.toUInt64).toInt64).toInt32)), (.int (3 : Int32)), (.ref b1)])) (fun _ kk => XS.l2i X7.here hx rfl (hb hby at_40) rfl kk) ?_
  refine Go.st (S' := T7.setTop (mkF m 42 #[.val (.long q0), .second, .val (.int p1), .val (.int p2), .val (.int p3), .val (.int p4), .val (.ref b1), .unset, .unset, .unset, .unset, .unset, .unset, .unset, .unset, .unset] [(.int ((((q0.toUInt64 >>> ((24 : Int32) &&& 0x3f).toInt64.toUInt64).toInt64).toInt32).toInt8.toInt32)), (.int (3 : Int32)), (.ref b1)])) (fun _ kk => XS.i2b X7.here hx rfl (hb hby at_41) rfl kk) ?_
  obtain ⟨v3, h_v3⟩ : ∃ z : Int32, z = ((((q0.toUInt64 >>> ((24 : Int32) &&& 0x3f).toInt64.toUInt64).toInt64).toInt32).toInt8.toInt32) := ⟨_, rfl⟩
  rw [← h_v3]
  obtain ⟨cl9, Ar9, q9, S9, Ng9, H9, G9⟩ := (id V_b1)
  have hin9 : ¬ ((3 : Int32) < 0 ∨ cl9.slots.size ≤ ((3 : Int32)).toNatClampNeg) := inb_of S9 ⟨by decide, by decide⟩
  obtain ⟨T9, h9, X9, e9, W9, st9⟩ := stB X7 hx hZ e7 Ar9 (j := (3 : Int32)) hin9 (g := (mkF m 42 #[.val (.long q0), .second, .val (.int p1), .val (.int p2), .val (.int p3), .val (.int p4), .val (.ref b1), .unset, .unset, .unset, .unset, .unset, .unset, .unset, .unset, .unset] [(.int v3), (.int (3 : Int32)), (.ref b1)])) rfl rfl (hb hby at_42)
  have V_b1 : Arv Z h9 b1 k1 .byte (8 : Int32) [(.int (v0.toInt8.toInt32)), (.int (v1.toInt8.toInt32)), (.int (v2.toInt8.toInt32)), (.int (v3.toInt8.toInt32)), (.int (0 : Int32)), (.int (0 : Int32)), (.int (0 : Int32)), (.int (0 : Int32))] (.int (0 : Int32)) := Arv.set Ar9 q9 S9 Ng9 H9 G9 (fits_nar_byte _) W9 3 rfl (Nat.le_of_ble_eq_true rfl)
  have N9 := Fr.snoc X9 N7 g_b1
  have E_b1 := E_b1.wr W9
  have Zs10 := Nat.le_trans Zs8 (Keep.of_wr W9).1
  refine Go.st (S' := T9.setTop (mkF m 43 #[.val (.long q0), .second, .val (.int p1), .val (.int p2), .val (.int p3), .val (.int p4), .val (.ref b1), .unset, .unset, .unset, .unset, .unset, .unset, .unset, .unset, .unset] [])) st9 ?_
  refine Go.st (S' := T9.setTop (mkF m 45 #[.val (.long q0), .second, .val (.int p1), .val (.int p2), .val (.int p3), .val (.int p4), .val (.ref b1), .unset, .unset, .unset, .unset, .unset, .unset, .unset, .unset, .unset] [(.ref b1)])) (fun _ kk => XS.aload X9.here hx rfl (hb hby at_43) rfl rfl kk) ?_
  refine Go.st (S' := T9.setTop (mkF m 46 #[.val (.long q0), .second, .val (.int p1), .val (.int p2), .val (.int p3), .val (.int p4), .val (.ref b1), .unset, .unset, .unset, .unset, .unset, .unset, .unset, .unset, .unset] [(.int (4 : Int32)), (.ref b1)])) (fun _ kk => XS.iconst X9.here hx rfl (hb hby at_45) kk) ?_
  refine Go.st (S' := T9.setTop (mkF m 47 #[.val (.long q0), .second, .val (.int p1), .val (.int p2), .val (.int p3), .val (.int p4), .val (.ref b1), .unset, .unset, .unset, .unset, .unset, .unset, .unset, .unset, .unset] [(.long q0), (.int (4 : Int32)), (.ref b1)])) (fun _ kk => XS.lloadN X9.here hx rfl (hb hby at_46) rfl kk) ?_
  refine Go.st (S' := T9.setTop (mkF m 49 #[.val (.long q0), .second, .val (.int p1), .val (.int p2), .val (.int p3), .val (.int p4), .val (.ref b1), .unset, .unset, .unset, .unset, .unset, .unset, .unset, .unset, .unset] [(.int (32 : Int32)), (.long q0), (.int (4 : Int32)), (.ref b1)])) (fun _ kk => XS.bipush X9.here hx rfl (hb hby at_47) kk) ?_
  refine Go.st (S' := T9.setTop (mkF m 50 #[.val (.long q0), .second, .val (.int p1), .val (.int p2), .val (.int p3), .val (.int p4), .val (.ref b1), .unset, .unset, .unset, .unset, .unset, .unset, .unset, .unset, .unset] [(.long ((q0.toUInt64 >>> ((32 : Int32) &&& 0x3f).toInt64.toUInt64).toInt64)), (.int (4 : Int32)), (.ref b1)])) (fun _ kk => XS.lushr X9.here hx rfl (hb hby at_49) rfl kk) ?_
  refine Go.st (S' := T9.setTop (mkF m 51 #[.val (.long q0), .second, .val (.int p1), .val (.int p2), .val (.int p3), .val (.int p4), .val (.ref b1), .unset, .unset, .unset, .unset, .unset, .unset, .unset, .unset, .unset] [(.int (((q0.toUInt64 >>> ((32 : Int32) &&& 0x3f).toInt64.toUInt64).toInt64).toInt32)), (.int (4 : Int32)), (.ref b1)])) (fun _ kk => XS.l2i X9.here hx rfl (hb hby at_50) rfl kk) ?_
  refine Go.st (S' := T9.setTop (mkF m 52 #[.val (.long q0), .second, .val (.int p1), .val (.int p2), .val (.int p3), .val (.int p4), .val (.ref b1), .unset, .unset, .unset, .unset, .unset, .unset, .unset, .unset, .unset] [(.int ((((q0.toUInt64 >>> ((32 : Int32) &&& 0x3f).toInt64.toUInt64).toInt64).toInt32).toInt8.toInt32)), (.int (4 : Int32)), (.ref b1)])) (fun _ kk => XS.i2b X9.here hx rfl (hb hby at_51) rfl kk) ?_
  obtain ⟨v4, h_v4⟩ : ∃ z : Int32, z = ((((q0.toUInt64 >>> ((32 : Int32) &&& 0x3f).toInt64.toUInt64).toInt64).toInt32).toInt8.toInt32) := ⟨_, rfl⟩
  rw [← h_v4]
  obtain ⟨cl11, Ar11, q11, S11, Ng11, H11, G11⟩ := (id V_b1)
  have hin11 : ¬ ((4 : Int32) < 0 ∨ cl11.slots.size ≤ ((4 : Int32)).toNatClampNeg) := inb_of S11 ⟨by decide, by decide⟩
  obtain ⟨T11, h11, X11, e11, W11, st11⟩ := stB X9 hx hZ e9 Ar11 (j := (4 : Int32)) hin11 (g := (mkF m 52 #[.val (.long q0), .second, .val (.int p1), .val (.int p2), .val (.int p3), .val (.int p4), .val (.ref b1), .unset, .unset, .unset, .unset, .unset, .unset, .unset, .unset, .unset] [(.int v4), (.int (4 : Int32)), (.ref b1)])) rfl rfl (hb hby at_52)
  have V_b1 : Arv Z h11 b1 k1 .byte (8 : Int32) [(.int (v0.toInt8.toInt32)), (.int (v1.toInt8.toInt32)), (.int (v2.toInt8.toInt32)), (.int (v3.toInt8.toInt32)), (.int (v4.toInt8.toInt32)), (.int (0 : Int32)), (.int (0 : Int32)), (.int (0 : Int32))] (.int (0 : Int32)) := Arv.set Ar11 q11 S11 Ng11 H11 G11 (fits_nar_byte _) W11 4 rfl (Nat.le_of_ble_eq_true rfl)
  have N11 := Fr.snoc X11 N9 g_b1
  have E_b1 := E_b1.wr W11
  have Zs12 := Nat.le_trans Zs10 (Keep.of_wr W11).1
  refine Go.st (S' := T11.setTop (mkF m 53 #[.val (.long q0), .second, .val (.int p1), .val (.int p2), .val (.int p3), .val (.int p4), .val (.ref b1), .unset, .unset, .unset, .unset, .unset, .unset, .unset, .unset, .unset] [])) st11 ?_
  refine Go.st (S' := T11.setTop (mkF m 55 #[.val (.long q0), .second, .val (.int p1), .val (.int p2), .val (.int p3), .val (.int p4), .val (.ref b1), .unset, .unset, .unset, .unset, .unset, .unset, .unset, .unset, .unset] [(.ref b1)])) (fun _ kk => XS.aload X11.here hx rfl (hb hby at_53) rfl rfl kk) ?_
  refine Go.st (S' := T11.setTop (mkF m 56 #[.val (.long q0), .second, .val (.int p1), .val (.int p2), .val (.int p3), .val (.int p4), .val (.ref b1), .unset, .unset, .unset, .unset, .unset, .unset, .unset, .unset, .unset] [(.int (5 : Int32)), (.ref b1)])) (fun _ kk => XS.iconst X11.here hx rfl (hb hby at_55) kk) ?_
  refine Go.st (S' := T11.setTop (mkF m 57 #[.val (.long q0), .second, .val (.int p1), .val (.int p2), .val (.int p3), .val (.int p4), .val (.ref b1), .unset, .unset, .unset, .unset, .unset, .unset, .unset, .unset, .unset] [(.long q0), (.int (5 : Int32)), (.ref b1)])) (fun _ kk => XS.lloadN X11.here hx rfl (hb hby at_56) rfl kk) ?_
  refine Go.st (S' := T11.setTop (mkF m 59 #[.val (.long q0), .second, .val (.int p1), .val (.int p2), .val (.int p3), .val (.int p4), .val (.ref b1), .unset, .unset, .unset, .unset, .unset, .unset, .unset, .unset, .unset] [(.int (40 : Int32)), (.long q0), (.int (5 : Int32)), (.ref b1)])) (fun _ kk => XS.bipush X11.here hx rfl (hb hby at_57) kk) ?_
  refine Go.st (S' := T11.setTop (mkF m 60 #[.val (.long q0), .second, .val (.int p1), .val (.int p2), .val (.int p3), .val (.int p4), .val (.ref b1), .unset, .unset, .unset, .unset, .unset, .unset, .unset, .unset, .unset] [(.long ((q0.toUInt64 >>> ((40 : Int32) &&& 0x3f).toInt64.toUInt64).toInt64)), (.int (5 : Int32)), (.ref b1)])) (fun _ kk => XS.lushr X11.here hx rfl (hb hby at_59) rfl kk) ?_
  refine Go.st (S' := T11.setTop (mkF m 61 #[.val (.long q0), .second, .val (.int p1), .val (.int p2), .val (.int p3), .val (.int p4), .val (.ref b1), .unset, .unset, .unset, .unset, .unset, .unset, .unset, .unset, .unset] [(.int (((q0.toUInt64 >>> ((40 : Int32) &&& 0x3f).toInt64.toUInt64).toInt64).toInt32)), (.int (5 : Int32)), (.ref b1)])) (fun _ kk => XS.l2i X11.here hx rfl (hb hby at_60) rfl kk) ?_
  refine Go.st (S' := T11.setTop (mkF m 62 #[.val (.long q0), .second, .val (.int p1), .val (.int p2), .val (.int p3), .val (.int p4), .val (.ref b1), .unset, .unset, .unset, .unset, .unset, .unset, .unset, .unset, .unset] [(.int ((((q0.toUInt64 >>> ((40 : Int32) &&& 0x3f).toInt64.toUInt64).toInt64).toInt32).toInt8.toInt32)), (.int (5 : Int32)), (.ref b1)])) (fun _ kk => XS.i2b X11.here hx rfl (hb hby at_61) rfl kk) ?_
  obtain ⟨v5, h_v5⟩ : ∃ z : Int32, z = ((((q0.toUInt64 >>> ((40 : Int32) &&& 0x3f).toInt64.toUInt64).toInt64).toInt32).toInt8.toInt32) := ⟨_, rfl⟩
  rw [← h_v5]
  obtain ⟨cl13, Ar13, q13, S13, Ng13, H13, G13⟩ := (id V_b1)
  have hin13 : ¬ ((5 : Int32) < 0 ∨ cl13.slots.size ≤ ((5 : Int32)).toNatClampNeg) := inb_of S13 ⟨by decide, by decide⟩
  obtain ⟨T13, h13, X13, e13, W13, st13⟩ := stB X11 hx hZ e11 Ar13 (j := (5 : Int32)) hin13 (g := (mkF m 62 #[.val (.long q0), .second, .val (.int p1), .val (.int p2), .val (.int p3), .val (.int p4), .val (.ref b1), .unset, .unset, .unset, .unset, .unset, .unset, .unset, .unset, .unset] [(.int v5), (.int (5 : Int32)), (.ref b1)])) rfl rfl (hb hby at_62)
  have V_b1 : Arv Z h13 b1 k1 .byte (8 : Int32) [(.int (v0.toInt8.toInt32)), (.int (v1.toInt8.toInt32)), (.int (v2.toInt8.toInt32)), (.int (v3.toInt8.toInt32)), (.int (v4.toInt8.toInt32)), (.int (v5.toInt8.toInt32)), (.int (0 : Int32)), (.int (0 : Int32))] (.int (0 : Int32)) := Arv.set Ar13 q13 S13 Ng13 H13 G13 (fits_nar_byte _) W13 5 rfl (Nat.le_of_ble_eq_true rfl)
  have N13 := Fr.snoc X13 N11 g_b1
  have E_b1 := E_b1.wr W13
  have Zs14 := Nat.le_trans Zs12 (Keep.of_wr W13).1
  refine Go.st (S' := T13.setTop (mkF m 63 #[.val (.long q0), .second, .val (.int p1), .val (.int p2), .val (.int p3), .val (.int p4), .val (.ref b1), .unset, .unset, .unset, .unset, .unset, .unset, .unset, .unset, .unset] [])) st13 ?_
  refine Go.st (S' := T13.setTop (mkF m 65 #[.val (.long q0), .second, .val (.int p1), .val (.int p2), .val (.int p3), .val (.int p4), .val (.ref b1), .unset, .unset, .unset, .unset, .unset, .unset, .unset, .unset, .unset] [(.ref b1)])) (fun _ kk => XS.aload X13.here hx rfl (hb hby at_63) rfl rfl kk) ?_
  refine Go.st (S' := T13.setTop (mkF m 67 #[.val (.long q0), .second, .val (.int p1), .val (.int p2), .val (.int p3), .val (.int p4), .val (.ref b1), .unset, .unset, .unset, .unset, .unset, .unset, .unset, .unset, .unset] [(.int (6 : Int32)), (.ref b1)])) (fun _ kk => XS.bipush X13.here hx rfl (hb hby at_65) kk) ?_
  refine Go.st (S' := T13.setTop (mkF m 68 #[.val (.long q0), .second, .val (.int p1), .val (.int p2), .val (.int p3), .val (.int p4), .val (.ref b1), .unset, .unset, .unset, .unset, .unset, .unset, .unset, .unset, .unset] [(.long q0), (.int (6 : Int32)), (.ref b1)])) (fun _ kk => XS.lloadN X13.here hx rfl (hb hby at_67) rfl kk) ?_
  refine Go.st (S' := T13.setTop (mkF m 70 #[.val (.long q0), .second, .val (.int p1), .val (.int p2), .val (.int p3), .val (.int p4), .val (.ref b1), .unset, .unset, .unset, .unset, .unset, .unset, .unset, .unset, .unset] [(.int (48 : Int32)), (.long q0), (.int (6 : Int32)), (.ref b1)])) (fun _ kk => XS.bipush X13.here hx rfl (hb hby at_68) kk) ?_
  refine Go.st (S' := T13.setTop (mkF m 71 #[.val (.long q0), .second, .val (.int p1), .val (.int p2), .val (.int p3), .val (.int p4), .val (.ref b1), .unset, .unset, .unset, .unset, .unset, .unset, .unset, .unset, .unset] [(.long ((q0.toUInt64 >>> ((48 : Int32) &&& 0x3f).toInt64.toUInt64).toInt64)), (.int (6 : Int32)), (.ref b1)])) (fun _ kk => XS.lushr X13.here hx rfl (hb hby at_70) rfl kk) ?_
  refine Go.st (S' := T13.setTop (mkF m 72 #[.val (.long q0), .second, .val (.int p1), .val (.int p2), .val (.int p3), .val (.int p4), .val (.ref b1), .unset, .unset, .unset, .unset, .unset, .unset, .unset, .unset, .unset] [(.int (((q0.toUInt64 >>> ((48 : Int32) &&& 0x3f).toInt64.toUInt64).toInt64).toInt32)), (.int (6 : Int32)), (.ref b1)])) (fun _ kk => XS.l2i X13.here hx rfl (hb hby at_71) rfl kk) ?_
  refine Go.st (S' := T13.setTop (mkF m 73 #[.val (.long q0), .second, .val (.int p1), .val (.int p2), .val (.int p3), .val (.int p4), .val (.ref b1), .unset, .unset, .unset, .unset, .unset, .unset, .unset, .unset, .unset] [(.int ((((q0.toUInt64 >>> ((48 : Int32) &&& 0x3f).toInt64.toUInt64).toInt64).toInt32).toInt8.toInt32)), (.int (6 : Int32)), (.ref b1)])) (fun _ kk => XS.i2b X13.here hx rfl (hb hby at_72) rfl kk) ?_
  obtain ⟨v6, h_v6⟩ : ∃ z : Int32, z = ((((q0.toUInt64 >>> ((48 : Int32) &&& 0x3f).toInt64.toUInt64).toInt64).toInt32).toInt8.toInt32) := ⟨_, rfl⟩
  rw [← h_v6]
  obtain ⟨cl15, Ar15, q15, S15, Ng15, H15, G15⟩ := (id V_b1)
  have hin15 : ¬ ((6 : Int32) < 0 ∨ cl15.slots.size ≤ ((6 : Int32)).toNatClampNeg) := inb_of S15 ⟨by decide, by decide⟩
  obtain ⟨T15, h15, X15, e15, W15, st15⟩ := stB X13 hx hZ e13 Ar15 (j := (6 : Int32)) hin15 (g := (mkF m 73 #[.val (.long q0), .second, .val (.int p1), .val (.int p2), .val (.int p3), .val (.int p4), .val (.ref b1), .unset, .unset, .unset, .unset, .unset, .unset, .unset, .unset, .unset] [(.int v6), (.int (6 : Int32)), (.ref b1)])) rfl rfl (hb hby at_73)
  have V_b1 : Arv Z h15 b1 k1 .byte (8 : Int32) [(.int (v0.toInt8.toInt32)), (.int (v1.toInt8.toInt32)), (.int (v2.toInt8.toInt32)), (.int (v3.toInt8.toInt32)), (.int (v4.toInt8.toInt32)), (.int (v5.toInt8.toInt32)), (.int (v6.toInt8.toInt32)), (.int (0 : Int32))] (.int (0 : Int32)) := Arv.set Ar15 q15 S15 Ng15 H15 G15 (fits_nar_byte _) W15 6 rfl (Nat.le_of_ble_eq_true rfl)
  have N15 := Fr.snoc X15 N13 g_b1
  have E_b1 := E_b1.wr W15
  have Zs16 := Nat.le_trans Zs14 (Keep.of_wr W15).1
  refine Go.st (S' := T15.setTop (mkF m 74 #[.val (.long q0), .second, .val (.int p1), .val (.int p2), .val (.int p3), .val (.int p4), .val (.ref b1), .unset, .unset, .unset, .unset, .unset, .unset, .unset, .unset, .unset] [])) st15 ?_
  refine Go.st (S' := T15.setTop (mkF m 76 #[.val (.long q0), .second, .val (.int p1), .val (.int p2), .val (.int p3), .val (.int p4), .val (.ref b1), .unset, .unset, .unset, .unset, .unset, .unset, .unset, .unset, .unset] [(.ref b1)])) (fun _ kk => XS.aload X15.here hx rfl (hb hby at_74) rfl rfl kk) ?_
  refine Go.st (S' := T15.setTop (mkF m 78 #[.val (.long q0), .second, .val (.int p1), .val (.int p2), .val (.int p3), .val (.int p4), .val (.ref b1), .unset, .unset, .unset, .unset, .unset, .unset, .unset, .unset, .unset] [(.int (7 : Int32)), (.ref b1)])) (fun _ kk => XS.bipush X15.here hx rfl (hb hby at_76) kk) ?_
  refine Go.st (S' := T15.setTop (mkF m 79 #[.val (.long q0), .second, .val (.int p1), .val (.int p2), .val (.int p3), .val (.int p4), .val (.ref b1), .unset, .unset, .unset, .unset, .unset, .unset, .unset, .unset, .unset] [(.long q0), (.int (7 : Int32)), (.ref b1)])) (fun _ kk => XS.lloadN X15.here hx rfl (hb hby at_78) rfl kk) ?_
  refine Go.st (S' := T15.setTop (mkF m 81 #[.val (.long q0), .second, .val (.int p1), .val (.int p2), .val (.int p3), .val (.int p4), .val (.ref b1), .unset, .unset, .unset, .unset, .unset, .unset, .unset, .unset, .unset] [(.int (56 : Int32)), (.long q0), (.int (7 : Int32)), (.ref b1)])) (fun _ kk => XS.bipush X15.here hx rfl (hb hby at_79) kk) ?_
  refine Go.st (S' := T15.setTop (mkF m 82 #[.val (.long q0), .second, .val (.int p1), .val (.int p2), .val (.int p3), .val (.int p4), .val (.ref b1), .unset, .unset, .unset, .unset, .unset, .unset, .unset, .unset, .unset] [(.long ((q0.toUInt64 >>> ((56 : Int32) &&& 0x3f).toInt64.toUInt64).toInt64)), (.int (7 : Int32)), (.ref b1)])) (fun _ kk => XS.lushr X15.here hx rfl (hb hby at_81) rfl kk) ?_
  refine Go.st (S' := T15.setTop (mkF m 83 #[.val (.long q0), .second, .val (.int p1), .val (.int p2), .val (.int p3), .val (.int p4), .val (.ref b1), .unset, .unset, .unset, .unset, .unset, .unset, .unset, .unset, .unset] [(.int (((q0.toUInt64 >>> ((56 : Int32) &&& 0x3f).toInt64.toUInt64).toInt64).toInt32)), (.int (7 : Int32)), (.ref b1)])) (fun _ kk => XS.l2i X15.here hx rfl (hb hby at_82) rfl kk) ?_
  refine Go.st (S' := T15.setTop (mkF m 84 #[.val (.long q0), .second, .val (.int p1), .val (.int p2), .val (.int p3), .val (.int p4), .val (.ref b1), .unset, .unset, .unset, .unset, .unset, .unset, .unset, .unset, .unset] [(.int ((((q0.toUInt64 >>> ((56 : Int32) &&& 0x3f).toInt64.toUInt64).toInt64).toInt32).toInt8.toInt32)), (.int (7 : Int32)), (.ref b1)])) (fun _ kk => XS.i2b X15.here hx rfl (hb hby at_83) rfl kk) ?_
  obtain ⟨v7, h_v7⟩ : ∃ z : Int32, z = ((((q0.toUInt64 >>> ((56 : Int32) &&& 0x3f).toInt64.toUInt64).toInt64).toInt32).toInt8.toInt32) := ⟨_, rfl⟩
  rw [← h_v7]
  obtain ⟨cl17, Ar17, q17, S17, Ng17, H17, G17⟩ := (id V_b1)
  have hin17 : ¬ ((7 : Int32) < 0 ∨ cl17.slots.size ≤ ((7 : Int32)).toNatClampNeg) := inb_of S17 ⟨by decide, by decide⟩
  obtain ⟨T17, h17, X17, e17, W17, st17⟩ := stB X15 hx hZ e15 Ar17 (j := (7 : Int32)) hin17 (g := (mkF m 84 #[.val (.long q0), .second, .val (.int p1), .val (.int p2), .val (.int p3), .val (.int p4), .val (.ref b1), .unset, .unset, .unset, .unset, .unset, .unset, .unset, .unset, .unset] [(.int v7), (.int (7 : Int32)), (.ref b1)])) rfl rfl (hb hby at_84)
  have V_b1 : Arv Z h17 b1 k1 .byte (8 : Int32) [(.int (v0.toInt8.toInt32)), (.int (v1.toInt8.toInt32)), (.int (v2.toInt8.toInt32)), (.int (v3.toInt8.toInt32)), (.int (v4.toInt8.toInt32)), (.int (v5.toInt8.toInt32)), (.int (v6.toInt8.toInt32)), (.int (v7.toInt8.toInt32))] (.int (0 : Int32)) := Arv.set Ar17 q17 S17 Ng17 H17 G17 (fits_nar_byte _) W17 7 rfl (Nat.le_of_ble_eq_true rfl)
  have N17 := Fr.snoc X17 N15 g_b1
  have E_b1 := E_b1.wr W17
  have Zs18 := Nat.le_trans Zs16 (Keep.of_wr W17).1
  refine Go.st (S' := T17.setTop (mkF m 85 #[.val (.long q0), .second, .val (.int p1), .val (.int p2), .val (.int p3), .val (.int p4), .val (.ref b1), .unset, .unset, .unset, .unset, .unset, .unset, .unset, .unset, .unset] [])) st17 ?_
  refine Go.st (S' := T17.setTop (mkF m 87 #[.val (.long q0), .second, .val (.int p1), .val (.int p2), .val (.int p3), .val (.int p4), .val (.ref b1), .unset, .unset, .unset, .unset, .unset, .unset, .unset, .unset, .unset] [(.int (8 : Int32))])) (fun _ kk => XS.bipush X17.here hx rfl (hb hby at_85) kk) ?_
  obtain ⟨T19, h19, k19, X19, e19, E19, A19, E_b19, st19⟩ := newPE X17 hx hZ (hw _ (List.mem_of_getElem? (i := 0) rfl)) e17 (g := (mkF m 87 #[.val (.long q0), .second, .val (.int p1), .val (.int p2), .val (.int p3), .val (.int p4), .val (.ref b1), .unset, .unset, .unset, .unset, .unset, .unset, .unset, .unset, .unset] [(.int (8 : Int32))])) rfl (hb hby at_87) rfl (by decide) (cap := 8) (by decide) (by decide) (by decide : 1 + 1 ≤ _) (by decide : 8 + 8 ≤ _) (ad := "[B") rfl
  obtain ⟨b19, g19⟩ : ∃ z, z = h17.size := ⟨_, rfl⟩
  rw [← g19] at A19 E_b19 st19
  have ne_b1_b19 : b1 ≠ b19 := Nat.ne_of_lt (Nat.lt_of_lt_of_le E_b1.lt (Nat.le_of_eq g19.symm))
  have g_b19 : n0 ≤ b19 := Nat.le_trans Zs18 (Nat.le_of_eq g19.symm)
  have E_b1 := E_b1.ext E19
  have V_b1 := V_b1.ext E19
  have Zs20 := Nat.le_trans Zs18 E19.1
  have V_b19 : Arv Z h19 b19 k19 .byte (8 : Int32) [(.int (0 : Int32)), (.int (0 : Int32)), (.int (0 : Int32)), (.int (0 : Int32)), (.int (0 : Int32)), (.int (0 : Int32)), (.int (0 : Int32)), (.int (0 : Int32))] (.int (0 : Int32)) := (Arv.new A19 (by decide)).pad (pad_rep [] (.int (0 : Int32)) 8)
  refine Go.st (S' := T19.setTop (mkF m 89 #[.val (.long q0), .second, .val (.int p1), .val (.int p2), .val (.int p3), .val (.int p4), .val (.ref b1), .unset, .unset, .unset, .unset, .unset, .unset, .unset, .unset, .unset] [(.ref b19)])) st19 ?_
  refine Go.st (S' := T19.setTop (mkF m 91 #[.val (.long q0), .second, .val (.int p1), .val (.int p2), .val (.int p3), .val (.int p4), .val (.ref b1), .val (.ref b19), .unset, .unset, .unset, .unset, .unset, .unset, .unset, .unset] [])) (fun _ kk => XS.astore X19.here hx rfl (hb hby at_89) rfl rfl (l' := #[.val (.long q0), .second, .val (.int p1), .val (.int p2), .val (.int p3), .val (.int p4), .val (.ref b1), .val (.ref b19), .unset, .unset, .unset, .unset, .unset, .unset, .unset, .unset]) rfl kk) ?_
  refine Go.st (S' := T19.setTop (mkF m 93 #[.val (.long q0), .second, .val (.int p1), .val (.int p2), .val (.int p3), .val (.int p4), .val (.ref b1), .val (.ref b19), .unset, .unset, .unset, .unset, .unset, .unset, .unset, .unset] [(.ref b19)])) (fun _ kk => XS.aload X19.here hx rfl (hb hby at_91) rfl rfl kk) ?_
  refine Go.st (S' := T19.setTop (mkF m 94 #[.val (.long q0), .second, .val (.int p1), .val (.int p2), .val (.int p3), .val (.int p4), .val (.ref b1), .val (.ref b19), .unset, .unset, .unset, .unset, .unset, .unset, .unset, .unset] [(.int (0 : Int32)), (.ref b19)])) (fun _ kk => XS.iconst X19.here hx rfl (hb hby at_93) kk) ?_
  refine Go.st (S' := T19.setTop (mkF m 95 #[.val (.long q0), .second, .val (.int p1), .val (.int p2), .val (.int p3), .val (.int p4), .val (.ref b1), .val (.ref b19), .unset, .unset, .unset, .unset, .unset, .unset, .unset, .unset] [(.long q0), (.int (0 : Int32)), (.ref b19)])) (fun _ kk => XS.lloadN X19.here hx rfl (hb hby at_94) rfl kk) ?_
  refine Go.st (S' := T19.setTop (mkF m 96 #[.val (.long q0), .second, .val (.int p1), .val (.int p2), .val (.int p3), .val (.int p4), .val (.ref b1), .val (.ref b19), .unset, .unset, .unset, .unset, .unset, .unset, .unset, .unset] [(.int (q0.toInt32)), (.int (0 : Int32)), (.ref b19)])) (fun _ kk => XS.l2i X19.here hx rfl (hb hby at_95) rfl kk) ?_
  refine Go.st (S' := T19.setTop (mkF m 97 #[.val (.long q0), .second, .val (.int p1), .val (.int p2), .val (.int p3), .val (.int p4), .val (.ref b1), .val (.ref b19), .unset, .unset, .unset, .unset, .unset, .unset, .unset, .unset] [(.int ((q0.toInt32).toInt8.toInt32)), (.int (0 : Int32)), (.ref b19)])) (fun _ kk => XS.i2b X19.here hx rfl (hb hby at_96) rfl kk) ?_
  rw [show ((q0.toInt32).toInt8.toInt32) = v0 from h_v0.symm]
  obtain ⟨cl21, Ar21, q21, S21, Ng21, H21, G21⟩ := (id V_b19)
  have hin21 : ¬ ((0 : Int32) < 0 ∨ cl21.slots.size ≤ ((0 : Int32)).toNatClampNeg) := inb_of S21 ⟨by decide, by decide⟩
  obtain ⟨T21, h21, X21, e21, W21, st21⟩ := stB X19 hx hZ e19 Ar21 (j := (0 : Int32)) hin21 (g := (mkF m 97 #[.val (.long q0), .second, .val (.int p1), .val (.int p2), .val (.int p3), .val (.int p4), .val (.ref b1), .val (.ref b19), .unset, .unset, .unset, .unset, .unset, .unset, .unset, .unset] [(.int v0), (.int (0 : Int32)), (.ref b19)])) rfl rfl (hb hby at_97)
  have V_b19 : Arv Z h21 b19 k19 .byte (8 : Int32) [(.int (v0.toInt8.toInt32)), (.int (0 : Int32)), (.int (0 : Int32)), (.int (0 : Int32)), (.int (0 : Int32)), (.int (0 : Int32)), (.int (0 : Int32)), (.int (0 : Int32))] (.int (0 : Int32)) := Arv.set Ar21 q21 S21 Ng21 H21 G21 (fits_nar_byte _) W21 0 rfl (Nat.le_of_ble_eq_true rfl)
  have N21 := Fr.snoc X21 N17 g_b19
  have E_b1 := E_b1.wr W21
  have V_b1 := V_b1.other W21 ne_b1_b19
  have E_b19 := E_b19.wr W21
  have Zs22 := Nat.le_trans Zs20 (Keep.of_wr W21).1
  refine Go.st (S' := T21.setTop (mkF m 98 #[.val (.long q0), .second, .val (.int p1), .val (.int p2), .val (.int p3), .val (.int p4), .val (.ref b1), .val (.ref b19), .unset, .unset, .unset, .unset, .unset, .unset, .unset, .unset] [])) st21 ?_
  refine Go.st (S' := T21.setTop (mkF m 100 #[.val (.long q0), .second, .val (.int p1), .val (.int p2), .val (.int p3), .val (.int p4), .val (.ref b1), .val (.ref b19), .unset, .unset, .unset, .unset, .unset, .unset, .unset, .unset] [(.ref b19)])) (fun _ kk => XS.aload X21.here hx rfl (hb hby at_98) rfl rfl kk) ?_
  refine Go.st (S' := T21.setTop (mkF m 101 #[.val (.long q0), .second, .val (.int p1), .val (.int p2), .val (.int p3), .val (.int p4), .val (.ref b1), .val (.ref b19), .unset, .unset, .unset, .unset, .unset, .unset, .unset, .unset] [(.int (1 : Int32)), (.ref b19)])) (fun _ kk => XS.iconst X21.here hx rfl (hb hby at_100) kk) ?_
  refine Go.st (S' := T21.setTop (mkF m 102 #[.val (.long q0), .second, .val (.int p1), .val (.int p2), .val (.int p3), .val (.int p4), .val (.ref b1), .val (.ref b19), .unset, .unset, .unset, .unset, .unset, .unset, .unset, .unset] [(.long q0), (.int (1 : Int32)), (.ref b19)])) (fun _ kk => XS.lloadN X21.here hx rfl (hb hby at_101) rfl kk) ?_
  refine Go.st (S' := T21.setTop (mkF m 104 #[.val (.long q0), .second, .val (.int p1), .val (.int p2), .val (.int p3), .val (.int p4), .val (.ref b1), .val (.ref b19), .unset, .unset, .unset, .unset, .unset, .unset, .unset, .unset] [(.int (8 : Int32)), (.long q0), (.int (1 : Int32)), (.ref b19)])) (fun _ kk => XS.bipush X21.here hx rfl (hb hby at_102) kk) ?_
  refine Go.st (S' := T21.setTop (mkF m 105 #[.val (.long q0), .second, .val (.int p1), .val (.int p2), .val (.int p3), .val (.int p4), .val (.ref b1), .val (.ref b19), .unset, .unset, .unset, .unset, .unset, .unset, .unset, .unset] [(.long ((q0.toUInt64 >>> ((8 : Int32) &&& 0x3f).toInt64.toUInt64).toInt64)), (.int (1 : Int32)), (.ref b19)])) (fun _ kk => XS.lushr X21.here hx rfl (hb hby at_104) rfl kk) ?_
  refine Go.st (S' := T21.setTop (mkF m 106 #[.val (.long q0), .second, .val (.int p1), .val (.int p2), .val (.int p3), .val (.int p4), .val (.ref b1), .val (.ref b19), .unset, .unset, .unset, .unset, .unset, .unset, .unset, .unset] [(.int (((q0.toUInt64 >>> ((8 : Int32) &&& 0x3f).toInt64.toUInt64).toInt64).toInt32)), (.int (1 : Int32)), (.ref b19)])) (fun _ kk => XS.l2i X21.here hx rfl (hb hby at_105) rfl kk) ?_
  refine Go.st (S' := T21.setTop (mkF m 107 #[.val (.long q0), .second, .val (.int p1), .val (.int p2), .val (.int p3), .val (.int p4), .val (.ref b1), .val (.ref b19), .unset, .unset, .unset, .unset, .unset, .unset, .unset, .unset] [(.int ((((q0.toUInt64 >>> ((8 : Int32) &&& 0x3f).toInt64.toUInt64).toInt64).toInt32).toInt8.toInt32)), (.int (1 : Int32)), (.ref b19)])) (fun _ kk => XS.i2b X21.here hx rfl (hb hby at_106) rfl kk) ?_
  rw [show ((((q0.toUInt64 >>> ((8 : Int32) &&& 0x3f).toInt64.toUInt64).toInt64).toInt32).toInt8.toInt32) = v1 from h_v1.symm]
  obtain ⟨cl23, Ar23, q23, S23, Ng23, H23, G23⟩ := (id V_b19)
  have hin23 : ¬ ((1 : Int32) < 0 ∨ cl23.slots.size ≤ ((1 : Int32)).toNatClampNeg) := inb_of S23 ⟨by decide, by decide⟩
  obtain ⟨T23, h23, X23, e23, W23, st23⟩ := stB X21 hx hZ e21 Ar23 (j := (1 : Int32)) hin23 (g := (mkF m 107 #[.val (.long q0), .second, .val (.int p1), .val (.int p2), .val (.int p3), .val (.int p4), .val (.ref b1), .val (.ref b19), .unset, .unset, .unset, .unset, .unset, .unset, .unset, .unset] [(.int v1), (.int (1 : Int32)), (.ref b19)])) rfl rfl (hb hby at_107)
  have V_b19 : Arv Z h23 b19 k19 .byte (8 : Int32) [(.int (v0.toInt8.toInt32)), (.int (v1.toInt8.toInt32)), (.int (0 : Int32)), (.int (0 : Int32)), (.int (0 : Int32)), (.int (0 : Int32)), (.int (0 : Int32)), (.int (0 : Int32))] (.int (0 : Int32)) := Arv.set Ar23 q23 S23 Ng23 H23 G23 (fits_nar_byte _) W23 1 rfl (Nat.le_of_ble_eq_true rfl)
  have N23 := Fr.snoc X23 N21 g_b19
  have E_b1 := E_b1.wr W23
  have V_b1 := V_b1.other W23 ne_b1_b19
  have E_b19 := E_b19.wr W23
  have Zs24 := Nat.le_trans Zs22 (Keep.of_wr W23).1
  refine Go.st (S' := T23.setTop (mkF m 108 #[.val (.long q0), .second, .val (.int p1), .val (.int p2), .val (.int p3), .val (.int p4), .val (.ref b1), .val (.ref b19), .unset, .unset, .unset, .unset, .unset, .unset, .unset, .unset] [])) st23 ?_
  refine Go.st (S' := T23.setTop (mkF m 110 #[.val (.long q0), .second, .val (.int p1), .val (.int p2), .val (.int p3), .val (.int p4), .val (.ref b1), .val (.ref b19), .unset, .unset, .unset, .unset, .unset, .unset, .unset, .unset] [(.ref b19)])) (fun _ kk => XS.aload X23.here hx rfl (hb hby at_108) rfl rfl kk) ?_
  refine Go.st (S' := T23.setTop (mkF m 111 #[.val (.long q0), .second, .val (.int p1), .val (.int p2), .val (.int p3), .val (.int p4), .val (.ref b1), .val (.ref b19), .unset, .unset, .unset, .unset, .unset, .unset, .unset, .unset] [(.int (2 : Int32)), (.ref b19)])) (fun _ kk => XS.iconst X23.here hx rfl (hb hby at_110) kk) ?_
  refine Go.st (S' := T23.setTop (mkF m 112 #[.val (.long q0), .second, .val (.int p1), .val (.int p2), .val (.int p3), .val (.int p4), .val (.ref b1), .val (.ref b19), .unset, .unset, .unset, .unset, .unset, .unset, .unset, .unset] [(.long q0), (.int (2 : Int32)), (.ref b19)])) (fun _ kk => XS.lloadN X23.here hx rfl (hb hby at_111) rfl kk) ?_
  refine Go.st (S' := T23.setTop (mkF m 114 #[.val (.long q0), .second, .val (.int p1), .val (.int p2), .val (.int p3), .val (.int p4), .val (.ref b1), .val (.ref b19), .unset, .unset, .unset, .unset, .unset, .unset, .unset, .unset] [(.int (16 : Int32)), (.long q0), (.int (2 : Int32)), (.ref b19)])) (fun _ kk => XS.bipush X23.here hx rfl (hb hby at_112) kk) ?_
  refine Go.st (S' := T23.setTop (mkF m 115 #[.val (.long q0), .second, .val (.int p1), .val (.int p2), .val (.int p3), .val (.int p4), .val (.ref b1), .val (.ref b19), .unset, .unset, .unset, .unset, .unset, .unset, .unset, .unset] [(.long ((q0.toUInt64 >>> ((16 : Int32) &&& 0x3f).toInt64.toUInt64).toInt64)), (.int (2 : Int32)), (.ref b19)])) (fun _ kk => XS.lushr X23.here hx rfl (hb hby at_114) rfl kk) ?_
  refine Go.st (S' := T23.setTop (mkF m 116 #[.val (.long q0), .second, .val (.int p1), .val (.int p2), .val (.int p3), .val (.int p4), .val (.ref b1), .val (.ref b19), .unset, .unset, .unset, .unset, .unset, .unset, .unset, .unset] [(.int (((q0.toUInt64 >>> ((16 : Int32) &&& 0x3f).toInt64.toUInt64).toInt64).toInt32)), (.int (2 : Int32)), (.ref b19)])) (fun _ kk => XS.l2i X23.here hx rfl (hb hby at_115) rfl kk) ?_
  refine Go.st (S' := T23.setTop (mkF m 117 #[.val (.long q0), .second, .val (.int p1), .val (.int p2), .val (.int p3), .val (.int p4), .val (.ref b1), .val (.ref b19), .unset, .unset, .unset, .unset, .unset, .unset, .unset, .unset] [(.int ((((q0.toUInt64 >>> ((16 : Int32) &&& 0x3f).toInt64.toUInt64).toInt64).toInt32).toInt8.toInt32)), (.int (2 : Int32)), (.ref b19)])) (fun _ kk => XS.i2b X23.here hx rfl (hb hby at_116) rfl kk) ?_
  rw [show ((((q0.toUInt64 >>> ((16 : Int32) &&& 0x3f).toInt64.toUInt64).toInt64).toInt32).toInt8.toInt32) = v2 from h_v2.symm]
  obtain ⟨cl25, Ar25, q25, S25, Ng25, H25, G25⟩ := (id V_b19)
  have hin25 : ¬ ((2 : Int32) < 0 ∨ cl25.slots.size ≤ ((2 : Int32)).toNatClampNeg) := inb_of S25 ⟨by decide, by decide⟩
  obtain ⟨T25, h25, X25, e25, W25, st25⟩ := stB X23 hx hZ e23 Ar25 (j := (2 : Int32)) hin25 (g := (mkF m 117 #[.val (.long q0), .second, .val (.int p1), .val (.int p2), .val (.int p3), .val (.int p4), .val (.ref b1), .val (.ref b19), .unset, .unset, .unset, .unset, .unset, .unset, .unset, .unset] [(.int v2), (.int (2 : Int32)), (.ref b19)])) rfl rfl (hb hby at_117)
  have V_b19 : Arv Z h25 b19 k19 .byte (8 : Int32) [(.int (v0.toInt8.toInt32)), (.int (v1.toInt8.toInt32)), (.int (v2.toInt8.toInt32)), (.int (0 : Int32)), (.int (0 : Int32)), (.int (0 : Int32)), (.int (0 : Int32)), (.int (0 : Int32))] (.int (0 : Int32)) := Arv.set Ar25 q25 S25 Ng25 H25 G25 (fits_nar_byte _) W25 2 rfl (Nat.le_of_ble_eq_true rfl)
  have N25 := Fr.snoc X25 N23 g_b19
  have E_b1 := E_b1.wr W25
  have V_b1 := V_b1.other W25 ne_b1_b19
  have E_b19 := E_b19.wr W25
  have Zs26 := Nat.le_trans Zs24 (Keep.of_wr W25).1
  refine Go.st (S' := T25.setTop (mkF m 118 #[.val (.long q0), .second, .val (.int p1), .val (.int p2), .val (.int p3), .val (.int p4), .val (.ref b1), .val (.ref b19), .unset, .unset, .unset, .unset, .unset, .unset, .unset, .unset] [])) st25 ?_
  refine Go.st (S' := T25.setTop (mkF m 120 #[.val (.long q0), .second, .val (.int p1), .val (.int p2), .val (.int p3), .val (.int p4), .val (.ref b1), .val (.ref b19), .unset, .unset, .unset, .unset, .unset, .unset, .unset, .unset] [(.ref b19)])) (fun _ kk => XS.aload X25.here hx rfl (hb hby at_118) rfl rfl kk) ?_
  refine Go.st (S' := T25.setTop (mkF m 121 #[.val (.long q0), .second, .val (.int p1), .val (.int p2), .val (.int p3), .val (.int p4), .val (.ref b1), .val (.ref b19), .unset, .unset, .unset, .unset, .unset, .unset, .unset, .unset] [(.int (3 : Int32)), (.ref b19)])) (fun _ kk => XS.iconst X25.here hx rfl (hb hby at_120) kk) ?_
  refine Go.st (S' := T25.setTop (mkF m 122 #[.val (.long q0), .second, .val (.int p1), .val (.int p2), .val (.int p3), .val (.int p4), .val (.ref b1), .val (.ref b19), .unset, .unset, .unset, .unset, .unset, .unset, .unset, .unset] [(.long q0), (.int (3 : Int32)), (.ref b19)])) (fun _ kk => XS.lloadN X25.here hx rfl (hb hby at_121) rfl kk) ?_
  refine Go.st (S' := T25.setTop (mkF m 124 #[.val (.long q0), .second, .val (.int p1), .val (.int p2), .val (.int p3), .val (.int p4), .val (.ref b1), .val (.ref b19), .unset, .unset, .unset, .unset, .unset, .unset, .unset, .unset] [(.int (24 : Int32)), (.long q0), (.int (3 : Int32)), (.ref b19)])) (fun _ kk => XS.bipush X25.here hx rfl (hb hby at_122) kk) ?_
  refine Go.st (S' := T25.setTop (mkF m 125 #[.val (.long q0), .second, .val (.int p1), .val (.int p2), .val (.int p3), .val (.int p4), .val (.ref b1), .val (.ref b19), .unset, .unset, .unset, .unset, .unset, .unset, .unset, .unset] [(.long ((q0.toUInt64 >>> ((24 : Int32) &&& 0x3f).toInt64.toUInt64).toInt64)), (.int (3 : Int32)), (.ref b19)])) (fun _ kk => XS.lushr X25.here hx rfl (hb hby at_124) rfl kk) ?_
  refine Go.st (S' := T25.setTop (mkF m 126 #[.val (.long q0), .second, .val (.int p1), .val (.int p2), .val (.int p3), .val (.int p4), .val (.ref b1), .val (.ref b19), .unset, .unset, .unset, .unset, .unset, .unset, .unset, .unset] [(.int (((q0.toUInt64 >>> ((24 : Int32) &&& 0x3f).toInt64.toUInt64).toInt64).toInt32)), (.int (3 : Int32)), (.ref b19)])) (fun _ kk => XS.l2i X25.here hx rfl (hb hby at_125) rfl kk) ?_
  refine Go.st (S' := T25.setTop (mkF m 127 #[.val (.long q0), .second, .val (.int p1), .val (.int p2), .val (.int p3), .val (.int p4), .val (.ref b1), .val (.ref b19), .unset, .unset, .unset, .unset, .unset, .unset, .unset, .unset] [(.int ((((q0.toUInt64 >>> ((24 : Int32) &&& 0x3f).toInt64.toUInt64).toInt64).toInt32).toInt8.toInt32)), (.int (3 : Int32)), (.ref b19)])) (fun _ kk => XS.i2b X25.here hx rfl (hb hby at_126) rfl kk) ?_
  rw [show ((((q0.toUInt64 >>> ((24 : Int32) &&& 0x3f).toInt64.toUInt64).toInt64).toInt32).toInt8.toInt32) = v3 from h_v3.symm]
  obtain ⟨cl27, Ar27, q27, S27, Ng27, H27, G27⟩ := (id V_b19)
  have hin27 : ¬ ((3 : Int32) < 0 ∨ cl27.slots.size ≤ ((3 : Int32)).toNatClampNeg) := inb_of S27 ⟨by decide, by decide⟩
  obtain ⟨T27, h27, X27, e27, W27, st27⟩ := stB X25 hx hZ e25 Ar27 (j := (3 : Int32)) hin27 (g := (mkF m 127 #[.val (.long q0), .second, .val (.int p1), .val (.int p2), .val (.int p3), .val (.int p4), .val (.ref b1), .val (.ref b19), .unset, .unset, .unset, .unset, .unset, .unset, .unset, .unset] [(.int v3), (.int (3 : Int32)), (.ref b19)])) rfl rfl (hb hby at_127)
  have V_b19 : Arv Z h27 b19 k19 .byte (8 : Int32) [(.int (v0.toInt8.toInt32)), (.int (v1.toInt8.toInt32)), (.int (v2.toInt8.toInt32)), (.int (v3.toInt8.toInt32)), (.int (0 : Int32)), (.int (0 : Int32)), (.int (0 : Int32)), (.int (0 : Int32))] (.int (0 : Int32)) := Arv.set Ar27 q27 S27 Ng27 H27 G27 (fits_nar_byte _) W27 3 rfl (Nat.le_of_ble_eq_true rfl)
  have N27 := Fr.snoc X27 N25 g_b19
  have E_b1 := E_b1.wr W27
  have V_b1 := V_b1.other W27 ne_b1_b19
  have E_b19 := E_b19.wr W27
  have Zs28 := Nat.le_trans Zs26 (Keep.of_wr W27).1
  refine Go.st (S' := T27.setTop (mkF m 128 #[.val (.long q0), .second, .val (.int p1), .val (.int p2), .val (.int p3), .val (.int p4), .val (.ref b1), .val (.ref b19), .unset, .unset, .unset, .unset, .unset, .unset, .unset, .unset] [])) st27 ?_
  refine Go.st (S' := T27.setTop (mkF m 130 #[.val (.long q0), .second, .val (.int p1), .val (.int p2), .val (.int p3), .val (.int p4), .val (.ref b1), .val (.ref b19), .unset, .unset, .unset, .unset, .unset, .unset, .unset, .unset] [(.ref b19)])) (fun _ kk => XS.aload X27.here hx rfl (hb hby at_128) rfl rfl kk) ?_
  refine Go.st (S' := T27.setTop (mkF m 131 #[.val (.long q0), .second, .val (.int p1), .val (.int p2), .val (.int p3), .val (.int p4), .val (.ref b1), .val (.ref b19), .unset, .unset, .unset, .unset, .unset, .unset, .unset, .unset] [(.int (4 : Int32)), (.ref b19)])) (fun _ kk => XS.iconst X27.here hx rfl (hb hby at_130) kk) ?_
  refine Go.st (S' := T27.setTop (mkF m 132 #[.val (.long q0), .second, .val (.int p1), .val (.int p2), .val (.int p3), .val (.int p4), .val (.ref b1), .val (.ref b19), .unset, .unset, .unset, .unset, .unset, .unset, .unset, .unset] [(.long q0), (.int (4 : Int32)), (.ref b19)])) (fun _ kk => XS.lloadN X27.here hx rfl (hb hby at_131) rfl kk) ?_
  refine Go.st (S' := T27.setTop (mkF m 134 #[.val (.long q0), .second, .val (.int p1), .val (.int p2), .val (.int p3), .val (.int p4), .val (.ref b1), .val (.ref b19), .unset, .unset, .unset, .unset, .unset, .unset, .unset, .unset] [(.int (32 : Int32)), (.long q0), (.int (4 : Int32)), (.ref b19)])) (fun _ kk => XS.bipush X27.here hx rfl (hb hby at_132) kk) ?_
  refine Go.st (S' := T27.setTop (mkF m 135 #[.val (.long q0), .second, .val (.int p1), .val (.int p2), .val (.int p3), .val (.int p4), .val (.ref b1), .val (.ref b19), .unset, .unset, .unset, .unset, .unset, .unset, .unset, .unset] [(.long ((q0.toUInt64 >>> ((32 : Int32) &&& 0x3f).toInt64.toUInt64).toInt64)), (.int (4 : Int32)), (.ref b19)])) (fun _ kk => XS.lushr X27.here hx rfl (hb hby at_134) rfl kk) ?_
  refine Go.st (S' := T27.setTop (mkF m 136 #[.val (.long q0), .second, .val (.int p1), .val (.int p2), .val (.int p3), .val (.int p4), .val (.ref b1), .val (.ref b19), .unset, .unset, .unset, .unset, .unset, .unset, .unset, .unset] [(.int (((q0.toUInt64 >>> ((32 : Int32) &&& 0x3f).toInt64.toUInt64).toInt64).toInt32)), (.int (4 : Int32)), (.ref b19)])) (fun _ kk => XS.l2i X27.here hx rfl (hb hby at_135) rfl kk) ?_
  refine Go.st (S' := T27.setTop (mkF m 137 #[.val (.long q0), .second, .val (.int p1), .val (.int p2), .val (.int p3), .val (.int p4), .val (.ref b1), .val (.ref b19), .unset, .unset, .unset, .unset, .unset, .unset, .unset, .unset] [(.int ((((q0.toUInt64 >>> ((32 : Int32) &&& 0x3f).toInt64.toUInt64).toInt64).toInt32).toInt8.toInt32)), (.int (4 : Int32)), (.ref b19)])) (fun _ kk => XS.i2b X27.here hx rfl (hb hby at_136) rfl kk) ?_
  rw [show ((((q0.toUInt64 >>> ((32 : Int32) &&& 0x3f).toInt64.toUInt64).toInt64).toInt32).toInt8.toInt32) = v4 from h_v4.symm]
  obtain ⟨cl29, Ar29, q29, S29, Ng29, H29, G29⟩ := (id V_b19)
  have hin29 : ¬ ((4 : Int32) < 0 ∨ cl29.slots.size ≤ ((4 : Int32)).toNatClampNeg) := inb_of S29 ⟨by decide, by decide⟩
  obtain ⟨T29, h29, X29, e29, W29, st29⟩ := stB X27 hx hZ e27 Ar29 (j := (4 : Int32)) hin29 (g := (mkF m 137 #[.val (.long q0), .second, .val (.int p1), .val (.int p2), .val (.int p3), .val (.int p4), .val (.ref b1), .val (.ref b19), .unset, .unset, .unset, .unset, .unset, .unset, .unset, .unset] [(.int v4), (.int (4 : Int32)), (.ref b19)])) rfl rfl (hb hby at_137)
  have V_b19 : Arv Z h29 b19 k19 .byte (8 : Int32) [(.int (v0.toInt8.toInt32)), (.int (v1.toInt8.toInt32)), (.int (v2.toInt8.toInt32)), (.int (v3.toInt8.toInt32)), (.int (v4.toInt8.toInt32)), (.int (0 : Int32)), (.int (0 : Int32)), (.int (0 : Int32))] (.int (0 : Int32)) := Arv.set Ar29 q29 S29 Ng29 H29 G29 (fits_nar_byte _) W29 4 rfl (Nat.le_of_ble_eq_true rfl)
  have N29 := Fr.snoc X29 N27 g_b19
  have E_b1 := E_b1.wr W29
  have V_b1 := V_b1.other W29 ne_b1_b19
  have E_b19 := E_b19.wr W29
  have Zs30 := Nat.le_trans Zs28 (Keep.of_wr W29).1
  refine Go.st (S' := T29.setTop (mkF m 138 #[.val (.long q0), .second, .val (.int p1), .val (.int p2), .val (.int p3), .val (.int p4), .val (.ref b1), .val (.ref b19), .unset, .unset, .unset, .unset, .unset, .unset, .unset, .unset] [])) st29 ?_
  refine Go.st (S' := T29.setTop (mkF m 140 #[.val (.long q0), .second, .val (.int p1), .val (.int p2), .val (.int p3), .val (.int p4), .val (.ref b1), .val (.ref b19), .unset, .unset, .unset, .unset, .unset, .unset, .unset, .unset] [(.ref b19)])) (fun _ kk => XS.aload X29.here hx rfl (hb hby at_138) rfl rfl kk) ?_
  refine Go.st (S' := T29.setTop (mkF m 141 #[.val (.long q0), .second, .val (.int p1), .val (.int p2), .val (.int p3), .val (.int p4), .val (.ref b1), .val (.ref b19), .unset, .unset, .unset, .unset, .unset, .unset, .unset, .unset] [(.int (5 : Int32)), (.ref b19)])) (fun _ kk => XS.iconst X29.here hx rfl (hb hby at_140) kk) ?_
  refine Go.st (S' := T29.setTop (mkF m 142 #[.val (.long q0), .second, .val (.int p1), .val (.int p2), .val (.int p3), .val (.int p4), .val (.ref b1), .val (.ref b19), .unset, .unset, .unset, .unset, .unset, .unset, .unset, .unset] [(.long q0), (.int (5 : Int32)), (.ref b19)])) (fun _ kk => XS.lloadN X29.here hx rfl (hb hby at_141) rfl kk) ?_
  refine Go.st (S' := T29.setTop (mkF m 144 #[.val (.long q0), .second, .val (.int p1), .val (.int p2), .val (.int p3), .val (.int p4), .val (.ref b1), .val (.ref b19), .unset, .unset, .unset, .unset, .unset, .unset, .unset, .unset] [(.int (40 : Int32)), (.long q0), (.int (5 : Int32)), (.ref b19)])) (fun _ kk => XS.bipush X29.here hx rfl (hb hby at_142) kk) ?_
  refine Go.st (S' := T29.setTop (mkF m 145 #[.val (.long q0), .second, .val (.int p1), .val (.int p2), .val (.int p3), .val (.int p4), .val (.ref b1), .val (.ref b19), .unset, .unset, .unset, .unset, .unset, .unset, .unset, .unset] [(.long ((q0.toUInt64 >>> ((40 : Int32) &&& 0x3f).toInt64.toUInt64).toInt64)), (.int (5 : Int32)), (.ref b19)])) (fun _ kk => XS.lushr X29.here hx rfl (hb hby at_144) rfl kk) ?_
  refine Go.st (S' := T29.setTop (mkF m 146 #[.val (.long q0), .second, .val (.int p1), .val (.int p2), .val (.int p3), .val (.int p4), .val (.ref b1), .val (.ref b19), .unset, .unset, .unset, .unset, .unset, .unset, .unset, .unset] [(.int (((q0.toUInt64 >>> ((40 : Int32) &&& 0x3f).toInt64.toUInt64).toInt64).toInt32)), (.int (5 : Int32)), (.ref b19)])) (fun _ kk => XS.l2i X29.here hx rfl (hb hby at_145) rfl kk) ?_
  refine Go.st (S' := T29.setTop (mkF m 147 #[.val (.long q0), .second, .val (.int p1), .val (.int p2), .val (.int p3), .val (.int p4), .val (.ref b1), .val (.ref b19), .unset, .unset, .unset, .unset, .unset, .unset, .unset, .unset] [(.int ((((q0.toUInt64 >>> ((40 : Int32) &&& 0x3f).toInt64.toUInt64).toInt64).toInt32).toInt8.toInt32)), (.int (5 : Int32)), (.ref b19)])) (fun _ kk => XS.i2b X29.here hx rfl (hb hby at_146) rfl kk) ?_
  rw [show ((((q0.toUInt64 >>> ((40 : Int32) &&& 0x3f).toInt64.toUInt64).toInt64).toInt32).toInt8.toInt32) = v5 from h_v5.symm]
  obtain ⟨cl31, Ar31, q31, S31, Ng31, H31, G31⟩ := (id V_b19)
  have hin31 : ¬ ((5 : Int32) < 0 ∨ cl31.slots.size ≤ ((5 : Int32)).toNatClampNeg) := inb_of S31 ⟨by decide, by decide⟩
  obtain ⟨T31, h31, X31, e31, W31, st31⟩ := stB X29 hx hZ e29 Ar31 (j := (5 : Int32)) hin31 (g := (mkF m 147 #[.val (.long q0), .second, .val (.int p1), .val (.int p2), .val (.int p3), .val (.int p4), .val (.ref b1), .val (.ref b19), .unset, .unset, .unset, .unset, .unset, .unset, .unset, .unset] [(.int v5), (.int (5 : Int32)), (.ref b19)])) rfl rfl (hb hby at_147)
  have V_b19 : Arv Z h31 b19 k19 .byte (8 : Int32) [(.int (v0.toInt8.toInt32)), (.int (v1.toInt8.toInt32)), (.int (v2.toInt8.toInt32)), (.int (v3.toInt8.toInt32)), (.int (v4.toInt8.toInt32)), (.int (v5.toInt8.toInt32)), (.int (0 : Int32)), (.int (0 : Int32))] (.int (0 : Int32)) := Arv.set Ar31 q31 S31 Ng31 H31 G31 (fits_nar_byte _) W31 5 rfl (Nat.le_of_ble_eq_true rfl)
  have N31 := Fr.snoc X31 N29 g_b19
  have E_b1 := E_b1.wr W31
  have V_b1 := V_b1.other W31 ne_b1_b19
  have E_b19 := E_b19.wr W31
  have Zs32 := Nat.le_trans Zs30 (Keep.of_wr W31).1
  refine Go.st (S' := T31.setTop (mkF m 148 #[.val (.long q0), .second, .val (.int p1), .val (.int p2), .val (.int p3), .val (.int p4), .val (.ref b1), .val (.ref b19), .unset, .unset, .unset, .unset, .unset, .unset, .unset, .unset] [])) st31 ?_
  refine Go.st (S' := T31.setTop (mkF m 150 #[.val (.long q0), .second, .val (.int p1), .val (.int p2), .val (.int p3), .val (.int p4), .val (.ref b1), .val (.ref b19), .unset, .unset, .unset, .unset, .unset, .unset, .unset, .unset] [(.ref b19)])) (fun _ kk => XS.aload X31.here hx rfl (hb hby at_148) rfl rfl kk) ?_
  refine Go.st (S' := T31.setTop (mkF m 152 #[.val (.long q0), .second, .val (.int p1), .val (.int p2), .val (.int p3), .val (.int p4), .val (.ref b1), .val (.ref b19), .unset, .unset, .unset, .unset, .unset, .unset, .unset, .unset] [(.int (6 : Int32)), (.ref b19)])) (fun _ kk => XS.bipush X31.here hx rfl (hb hby at_150) kk) ?_
  refine Go.st (S' := T31.setTop (mkF m 153 #[.val (.long q0), .second, .val (.int p1), .val (.int p2), .val (.int p3), .val (.int p4), .val (.ref b1), .val (.ref b19), .unset, .unset, .unset, .unset, .unset, .unset, .unset, .unset] [(.long q0), (.int (6 : Int32)), (.ref b19)])) (fun _ kk => XS.lloadN X31.here hx rfl (hb hby at_152) rfl kk) ?_
  refine Go.st (S' := T31.setTop (mkF m 155 #[.val (.long q0), .second, .val (.int p1), .val (.int p2), .val (.int p3), .val (.int p4), .val (.ref b1), .val (.ref b19), .unset, .unset, .unset, .unset, .unset, .unset, .unset, .unset] [(.int (48 : Int32)), (.long q0), (.int (6 : Int32)), (.ref b19)])) (fun _ kk => XS.bipush X31.here hx rfl (hb hby at_153) kk) ?_
  refine Go.st (S' := T31.setTop (mkF m 156 #[.val (.long q0), .second, .val (.int p1), .val (.int p2), .val (.int p3), .val (.int p4), .val (.ref b1), .val (.ref b19), .unset, .unset, .unset, .unset, .unset, .unset, .unset, .unset] [(.long ((q0.toUInt64 >>> ((48 : Int32) &&& 0x3f).toInt64.toUInt64).toInt64)), (.int (6 : Int32)), (.ref b19)])) (fun _ kk => XS.lushr X31.here hx rfl (hb hby at_155) rfl kk) ?_
  refine Go.st (S' := T31.setTop (mkF m 157 #[.val (.long q0), .second, .val (.int p1), .val (.int p2), .val (.int p3), .val (.int p4), .val (.ref b1), .val (.ref b19), .unset, .unset, .unset, .unset, .unset, .unset, .unset, .unset] [(.int (((q0.toUInt64 >>> ((48 : Int32) &&& 0x3f).toInt64.toUInt64).toInt64).toInt32)), (.int (6 : Int32)), (.ref b19)])) (fun _ kk => XS.l2i X31.here hx rfl (hb hby at_156) rfl kk) ?_
  refine Go.st (S' := T31.setTop (mkF m 158 #[.val (.long q0), .second, .val (.int p1), .val (.int p2), .val (.int p3), .val (.int p4), .val (.ref b1), .val (.ref b19), .unset, .unset, .unset, .unset, .unset, .unset, .unset, .unset] [(.int ((((q0.toUInt64 >>> ((48 : Int32) &&& 0x3f).toInt64.toUInt64).toInt64).toInt32).toInt8.toInt32)), (.int (6 : Int32)), (.ref b19)])) (fun _ kk => XS.i2b X31.here hx rfl (hb hby at_157) rfl kk) ?_
  rw [show ((((q0.toUInt64 >>> ((48 : Int32) &&& 0x3f).toInt64.toUInt64).toInt64).toInt32).toInt8.toInt32) = v6 from h_v6.symm]
  obtain ⟨cl33, Ar33, q33, S33, Ng33, H33, G33⟩ := (id V_b19)
  have hin33 : ¬ ((6 : Int32) < 0 ∨ cl33.slots.size ≤ ((6 : Int32)).toNatClampNeg) := inb_of S33 ⟨by decide, by decide⟩
  obtain ⟨T33, h33, X33, e33, W33, st33⟩ := stB X31 hx hZ e31 Ar33 (j := (6 : Int32)) hin33 (g := (mkF m 158 #[.val (.long q0), .second, .val (.int p1), .val (.int p2), .val (.int p3), .val (.int p4), .val (.ref b1), .val (.ref b19), .unset, .unset, .unset, .unset, .unset, .unset, .unset, .unset] [(.int v6), (.int (6 : Int32)), (.ref b19)])) rfl rfl (hb hby at_158)
  have V_b19 : Arv Z h33 b19 k19 .byte (8 : Int32) [(.int (v0.toInt8.toInt32)), (.int (v1.toInt8.toInt32)), (.int (v2.toInt8.toInt32)), (.int (v3.toInt8.toInt32)), (.int (v4.toInt8.toInt32)), (.int (v5.toInt8.toInt32)), (.int (v6.toInt8.toInt32)), (.int (0 : Int32))] (.int (0 : Int32)) := Arv.set Ar33 q33 S33 Ng33 H33 G33 (fits_nar_byte _) W33 6 rfl (Nat.le_of_ble_eq_true rfl)
  have N33 := Fr.snoc X33 N31 g_b19
  have E_b1 := E_b1.wr W33
  have V_b1 := V_b1.other W33 ne_b1_b19
  have E_b19 := E_b19.wr W33
  have Zs34 := Nat.le_trans Zs32 (Keep.of_wr W33).1
  refine Go.st (S' := T33.setTop (mkF m 159 #[.val (.long q0), .second, .val (.int p1), .val (.int p2), .val (.int p3), .val (.int p4), .val (.ref b1), .val (.ref b19), .unset, .unset, .unset, .unset, .unset, .unset, .unset, .unset] [])) st33 ?_
  refine Go.st (S' := T33.setTop (mkF m 161 #[.val (.long q0), .second, .val (.int p1), .val (.int p2), .val (.int p3), .val (.int p4), .val (.ref b1), .val (.ref b19), .unset, .unset, .unset, .unset, .unset, .unset, .unset, .unset] [(.ref b19)])) (fun _ kk => XS.aload X33.here hx rfl (hb hby at_159) rfl rfl kk) ?_
  refine Go.st (S' := T33.setTop (mkF m 163 #[.val (.long q0), .second, .val (.int p1), .val (.int p2), .val (.int p3), .val (.int p4), .val (.ref b1), .val (.ref b19), .unset, .unset, .unset, .unset, .unset, .unset, .unset, .unset] [(.int (7 : Int32)), (.ref b19)])) (fun _ kk => XS.bipush X33.here hx rfl (hb hby at_161) kk) ?_
  refine Go.st (S' := T33.setTop (mkF m 164 #[.val (.long q0), .second, .val (.int p1), .val (.int p2), .val (.int p3), .val (.int p4), .val (.ref b1), .val (.ref b19), .unset, .unset, .unset, .unset, .unset, .unset, .unset, .unset] [(.long q0), (.int (7 : Int32)), (.ref b19)])) (fun _ kk => XS.lloadN X33.here hx rfl (hb hby at_163) rfl kk) ?_
  refine Go.st (S' := T33.setTop (mkF m 166 #[.val (.long q0), .second, .val (.int p1), .val (.int p2), .val (.int p3), .val (.int p4), .val (.ref b1), .val (.ref b19), .unset, .unset, .unset, .unset, .unset, .unset, .unset, .unset] [(.int (56 : Int32)), (.long q0), (.int (7 : Int32)), (.ref b19)])) (fun _ kk => XS.bipush X33.here hx rfl (hb hby at_164) kk) ?_
  refine Go.st (S' := T33.setTop (mkF m 167 #[.val (.long q0), .second, .val (.int p1), .val (.int p2), .val (.int p3), .val (.int p4), .val (.ref b1), .val (.ref b19), .unset, .unset, .unset, .unset, .unset, .unset, .unset, .unset] [(.long ((q0.toUInt64 >>> ((56 : Int32) &&& 0x3f).toInt64.toUInt64).toInt64)), (.int (7 : Int32)), (.ref b19)])) (fun _ kk => XS.lushr X33.here hx rfl (hb hby at_166) rfl kk) ?_
  refine Go.st (S' := T33.setTop (mkF m 168 #[.val (.long q0), .second, .val (.int p1), .val (.int p2), .val (.int p3), .val (.int p4), .val (.ref b1), .val (.ref b19), .unset, .unset, .unset, .unset, .unset, .unset, .unset, .unset] [(.int (((q0.toUInt64 >>> ((56 : Int32) &&& 0x3f).toInt64.toUInt64).toInt64).toInt32)), (.int (7 : Int32)), (.ref b19)])) (fun _ kk => XS.l2i X33.here hx rfl (hb hby at_167) rfl kk) ?_
  refine Go.st (S' := T33.setTop (mkF m 169 #[.val (.long q0), .second, .val (.int p1), .val (.int p2), .val (.int p3), .val (.int p4), .val (.ref b1), .val (.ref b19), .unset, .unset, .unset, .unset, .unset, .unset, .unset, .unset] [(.int ((((q0.toUInt64 >>> ((56 : Int32) &&& 0x3f).toInt64.toUInt64).toInt64).toInt32).toInt8.toInt32)), (.int (7 : Int32)), (.ref b19)])) (fun _ kk => XS.i2b X33.here hx rfl (hb hby at_168) rfl kk) ?_
  rw [show ((((q0.toUInt64 >>> ((56 : Int32) &&& 0x3f).toInt64.toUInt64).toInt64).toInt32).toInt8.toInt32) = v7 from h_v7.symm]
  obtain ⟨cl35, Ar35, q35, S35, Ng35, H35, G35⟩ := (id V_b19)
  have hin35 : ¬ ((7 : Int32) < 0 ∨ cl35.slots.size ≤ ((7 : Int32)).toNatClampNeg) := inb_of S35 ⟨by decide, by decide⟩
  obtain ⟨T35, h35, X35, e35, W35, st35⟩ := stB X33 hx hZ e33 Ar35 (j := (7 : Int32)) hin35 (g := (mkF m 169 #[.val (.long q0), .second, .val (.int p1), .val (.int p2), .val (.int p3), .val (.int p4), .val (.ref b1), .val (.ref b19), .unset, .unset, .unset, .unset, .unset, .unset, .unset, .unset] [(.int v7), (.int (7 : Int32)), (.ref b19)])) rfl rfl (hb hby at_169)
  have V_b19 : Arv Z h35 b19 k19 .byte (8 : Int32) [(.int (v0.toInt8.toInt32)), (.int (v1.toInt8.toInt32)), (.int (v2.toInt8.toInt32)), (.int (v3.toInt8.toInt32)), (.int (v4.toInt8.toInt32)), (.int (v5.toInt8.toInt32)), (.int (v6.toInt8.toInt32)), (.int (v7.toInt8.toInt32))] (.int (0 : Int32)) := Arv.set Ar35 q35 S35 Ng35 H35 G35 (fits_nar_byte _) W35 7 rfl (Nat.le_of_ble_eq_true rfl)
  have N35 := Fr.snoc X35 N33 g_b19
  have E_b1 := E_b1.wr W35
  have V_b1 := V_b1.other W35 ne_b1_b19
  have E_b19 := E_b19.wr W35
  have Zs36 := Nat.le_trans Zs34 (Keep.of_wr W35).1
  refine Go.st (S' := T35.setTop (mkF m 170 #[.val (.long q0), .second, .val (.int p1), .val (.int p2), .val (.int p3), .val (.int p4), .val (.ref b1), .val (.ref b19), .unset, .unset, .unset, .unset, .unset, .unset, .unset, .unset] [])) st35 ?_
  obtain ⟨bs, hbs⟩ : ∃ z : List Int32, z = [(v0.toInt8.toInt32), (v1.toInt8.toInt32), (v2.toInt8.toInt32), (v3.toInt8.toInt32), (v4.toInt8.toInt32), (v5.toInt8.toInt32), (v6.toInt8.toInt32), (v7.toInt8.toInt32)] := ⟨_, rfl⟩
  have hnb : ∀ b ∈ bs, nar .byte b = b := by
    rw [hbs]; intro b hb
    simp only [List.mem_cons, List.not_mem_nil, or_false] at hb
    rcases hb with rfl | rfl | rfl | rfl | rfl | rfl | rfl | rfl <;> exact own_b8 _
  have W_b1 : Arv Z h35 b1 k1 .byte (8 : Int32) (bs.map .int) (.int 0) := by rw [hbs]; exact V_b1
  have W_b19 : Arv Z h35 b19 k19 .byte (8 : Int32) (bs.map .int) (.int 0) := by rw [hbs]; exact V_b19
  refine Go.st (S' := T35.setTop (mkF m 172 #[.val (.long q0), .second, .val (.int p1), .val (.int p2), .val (.int p3), .val (.int p4), .val (.ref b1), .val (.ref b19), .unset, .unset, .unset, .unset, .unset, .unset, .unset, .unset] [(.ref b1)])) (fun _ kk => XS.aload X35.here hx rfl (hb hby at_170) rfl rfl kk) ?_
  obtain ⟨_, _, ⟨T37, L37, k37, n37⟩, -, X37, ⟨Lc37, hQ37, l37, y37, z37⟩, st37⟩ := Jvm.LawKit.callS X35 hx (y := (⟨"com/example/call_bundler/callbundler/http/Content", "of", "([B)Lcom/example/call_bundler/callbundler/http/Content;"⟩ : MethodName)) hown (mvT hZ (hw _ (List.mem_of_getElem? (i := 1) rfl))) (mvT hZ (hw _ (List.mem_of_getElem? (i := 2) rfl))) (mvT hZ (hw _ (List.mem_of_getElem? (i := 3) rfl))) (mvT hZ (hw _ (List.mem_of_getElem? (i := 4) rfl))) (by decide) (backOf (W := 0) (rmOf l Z az hw [] b1 k1 bs h35 n0 Zs36 E_b1 W_b1) hZ (hw _ (List.mem_of_getElem? (i := 4) rfl)) (hw _ (List.mem_of_getElem? (i := 3) rfl)) (by decide) (by decide)) (g := (mkF m 172 #[.val (.long q0), .second, .val (.int p1), .val (.int p2), .val (.int p3), .val (.int p4), .val (.ref b1), .val (.ref b19), .unset, .unset, .unset, .unset, .unset, .unset, .unset, .unset] [(.ref b1)])) rfl (by rw [hml]; rfl) (argsL := [(.ref b1)]) (rest := []) (lenOf pd_0 rfl) rfl (by show 2 * 0 + _ ≤ _; exact Nat.le_of_eq rfl) (hb hby at_172) (fun _ _ => ⟨rfl, e35, (by decide : 2 + 2 ≤ _), (by decide : 16 + 8 ≤ _)⟩)
  dsimp only [Pt.U, Pt.locs, Pt.cells, Pt.slots] at X37 l37 y37 z37 st37 hQ37
  subst l37 y37 z37
  obtain ⟨r37, t37, kk37, rfl, N37q, K37, E_r37, sr37, st_37, V_t37, Fc37_pieces, Fc37_shift, Fc37_mask, Fc37_offset, Fc37_slice, Fc37_count, Fc37_length⟩ := hQ37
  have N37 := Fr.app N35 N37q
  have g_r37 : n0 ≤ r37 := Nat.le_trans Zs36 sr37
  have ne_b1_r37 : b1 ≠ r37 := Nat.ne_of_lt (Nat.lt_of_lt_of_le E_b1.lt sr37)
  have ne_b19_r37 : b19 ≠ r37 := Nat.ne_of_lt (Nat.lt_of_lt_of_le E_b19.lt sr37)
  have g_t37 : n0 ≤ t37 := Nat.le_trans Zs36 st_37
  have ne_b1_t37 : b1 ≠ t37 := Nat.ne_of_lt (Nat.lt_of_lt_of_le E_b1.lt st_37)
  have ne_b19_t37 : b19 ≠ t37 := Nat.ne_of_lt (Nat.lt_of_lt_of_le E_b19.lt st_37)
  have E_b1 := E_b1.keep K37
  have W_b1 := W_b1.keep K37 nin0
  have E_b19 := E_b19.keep K37
  have W_b19 := W_b19.keep K37 nin0
  have Zs38 := Nat.le_trans Zs36 K37.1
  refine Go.st (S' := T37.setTop (mkF m 175 #[.val (.long q0), .second, .val (.int p1), .val (.int p2), .val (.int p3), .val (.int p4), .val (.ref b1), .val (.ref b19), .unset, .unset, .unset, .unset, .unset, .unset, .unset, .unset] [(.ref r37)])) st37 ?_
  refine Go.st (S' := T37.setTop (mkF m 177 #[.val (.long q0), .second, .val (.int p1), .val (.int p2), .val (.int p3), .val (.int p4), .val (.ref b1), .val (.ref b19), .val (.ref r37), .unset, .unset, .unset, .unset, .unset, .unset, .unset] [])) (fun _ kk => XS.astore X37.here hx rfl (hb hby at_175) rfl rfl (l' := #[.val (.long q0), .second, .val (.int p1), .val (.int p2), .val (.int p3), .val (.int p4), .val (.ref b1), .val (.ref b19), .val (.ref r37), .unset, .unset, .unset, .unset, .unset, .unset, .unset]) rfl kk) ?_
  refine Go.st (S' := T37.setTop (mkF m 178 #[.val (.long q0), .second, .val (.int p1), .val (.int p2), .val (.int p3), .val (.int p4), .val (.ref b1), .val (.ref b19), .val (.ref r37), .unset, .unset, .unset, .unset, .unset, .unset, .unset] [(.int p1)])) (fun _ kk => XS.iloadN X37.here hx rfl (hb hby at_177) rfl kk) ?_
  refine Go.st (S' := T37.setTop (mkF m 180 #[.val (.long q0), .second, .val (.int p1), .val (.int p2), .val (.int p3), .val (.int p4), .val (.ref b1), .val (.ref b19), .val (.ref r37), .unset, .unset, .unset, .unset, .unset, .unset, .unset] [(.int (2147483647 : Int32)), (.int p1)])) (fun _ kk => X37.ldcInt hx hown (mvT hZ (hw _ (List.mem_of_getElem? (i := 30) rfl))) (g := (mkF m 178 #[.val (.long q0), .second, .val (.int p1), .val (.int p2), .val (.int p3), .val (.int p4), .val (.ref b1), .val (.ref b19), .val (.ref r37), .unset, .unset, .unset, .unset, .unset, .unset, .unset] [(.int p1)])) rfl (hb hby at_178) _ kk) ?_
  refine Go.st (S' := T37.setTop (mkF m 181 #[.val (.long q0), .second, .val (.int p1), .val (.int p2), .val (.int p3), .val (.int p4), .val (.ref b1), .val (.ref b19), .val (.ref r37), .unset, .unset, .unset, .unset, .unset, .unset, .unset] [(.int (p1 &&& (2147483647 : Int32)))])) (fun _ kk => XS.iand X37.here hx rfl (hb hby at_180) rfl kk) ?_
  refine Go.st (S' := T37.setTop (mkF m 183 #[.val (.long q0), .second, .val (.int p1), .val (.int p2), .val (.int p3), .val (.int p4), .val (.ref b1), .val (.ref b19), .val (.ref r37), .unset, .unset, .unset, .unset, .unset, .unset, .unset] [(.int (8 : Int32)), (.int (p1 &&& (2147483647 : Int32)))])) (fun _ kk => XS.bipush X37.here hx rfl (hb hby at_181) kk) ?_
  refine Go.st (S' := T37.setTop (mkF m 184 #[.val (.long q0), .second, .val (.int p1), .val (.int p2), .val (.int p3), .val (.int p4), .val (.ref b1), .val (.ref b19), .val (.ref r37), .unset, .unset, .unset, .unset, .unset, .unset, .unset] [(.int ((p1 &&& (2147483647 : Int32)) % (8 : Int32)))])) (fun _ kk => iremM (g := (mkF m 183 #[.val (.long q0), .second, .val (.int p1), .val (.int p2), .val (.int p3), .val (.int p4), .val (.ref b1), .val (.ref b19), .val (.ref r37), .unset, .unset, .unset, .unset, .unset, .unset, .unset] [(.int (8 : Int32)), (.int (p1 &&& (2147483647 : Int32)))])) X37 hx rfl (hb hby at_183) rfl (by decide) kk) ?_
  obtain ⟨ii, h_ii⟩ : ∃ z : Int32, z = ((p1 &&& (2147483647 : Int32)) % (8 : Int32)) := ⟨_, rfl⟩
  rw [← h_ii]
  have hii : 0 ≤ ii.toInt ∧ ii.toInt < 8 := by rw [h_ii]; exact own_rem8 _
  refine Go.st (S' := T37.setTop (mkF m 186 #[.val (.long q0), .second, .val (.int p1), .val (.int p2), .val (.int p3), .val (.int p4), .val (.ref b1), .val (.ref b19), .val (.ref r37), .val (.int ii), .unset, .unset, .unset, .unset, .unset, .unset] [])) (fun _ kk => XS.istore X37.here hx rfl (hb hby at_184) rfl (l' := #[.val (.long q0), .second, .val (.int p1), .val (.int p2), .val (.int p3), .val (.int p4), .val (.ref b1), .val (.ref b19), .val (.ref r37), .val (.int ii), .unset, .unset, .unset, .unset, .unset, .unset]) rfl kk) ?_
  refine Go.st (S' := T37.setTop (mkF m 187 #[.val (.long q0), .second, .val (.int p1), .val (.int p2), .val (.int p3), .val (.int p4), .val (.ref b1), .val (.ref b19), .val (.ref r37), .val (.int ii), .unset, .unset, .unset, .unset, .unset, .unset] [(.int p2)])) (fun _ kk => XS.iloadN X37.here hx rfl (hb hby at_186) rfl kk) ?_
  refine Go.st (S' := T37.setTop (mkF m 189 #[.val (.long q0), .second, .val (.int p1), .val (.int p2), .val (.int p3), .val (.int p4), .val (.ref b1), .val (.ref b19), .val (.ref r37), .val (.int ii), .unset, .unset, .unset, .unset, .unset, .unset] [(.int (2147483647 : Int32)), (.int p2)])) (fun _ kk => X37.ldcInt hx hown (mvT hZ (hw _ (List.mem_of_getElem? (i := 30) rfl))) (g := (mkF m 187 #[.val (.long q0), .second, .val (.int p1), .val (.int p2), .val (.int p3), .val (.int p4), .val (.ref b1), .val (.ref b19), .val (.ref r37), .val (.int ii), .unset, .unset, .unset, .unset, .unset, .unset] [(.int p2)])) rfl (hb hby at_187) _ kk) ?_
  refine Go.st (S' := T37.setTop (mkF m 190 #[.val (.long q0), .second, .val (.int p1), .val (.int p2), .val (.int p3), .val (.int p4), .val (.ref b1), .val (.ref b19), .val (.ref r37), .val (.int ii), .unset, .unset, .unset, .unset, .unset, .unset] [(.int (p2 &&& (2147483647 : Int32)))])) (fun _ kk => XS.iand X37.here hx rfl (hb hby at_189) rfl kk) ?_
  refine Go.st (S' := T37.setTop (mkF m 192 #[.val (.long q0), .second, .val (.int p1), .val (.int p2), .val (.int p3), .val (.int p4), .val (.ref b1), .val (.ref b19), .val (.ref r37), .val (.int ii), .unset, .unset, .unset, .unset, .unset, .unset] [(.int (8 : Int32)), (.int (p2 &&& (2147483647 : Int32)))])) (fun _ kk => XS.bipush X37.here hx rfl (hb hby at_190) kk) ?_
  refine Go.st (S' := T37.setTop (mkF m 193 #[.val (.long q0), .second, .val (.int p1), .val (.int p2), .val (.int p3), .val (.int p4), .val (.ref b1), .val (.ref b19), .val (.ref r37), .val (.int ii), .unset, .unset, .unset, .unset, .unset, .unset] [(.int ((p2 &&& (2147483647 : Int32)) % (8 : Int32)))])) (fun _ kk => iremM (g := (mkF m 192 #[.val (.long q0), .second, .val (.int p1), .val (.int p2), .val (.int p3), .val (.int p4), .val (.ref b1), .val (.ref b19), .val (.ref r37), .val (.int ii), .unset, .unset, .unset, .unset, .unset, .unset] [(.int (8 : Int32)), (.int (p2 &&& (2147483647 : Int32)))])) X37 hx rfl (hb hby at_192) rfl (by decide) kk) ?_
  obtain ⟨f, h_f⟩ : ∃ z : Int32, z = ((p2 &&& (2147483647 : Int32)) % (8 : Int32)) := ⟨_, rfl⟩
  rw [← h_f]
  have hf : 0 ≤ f.toInt ∧ f.toInt < 8 := by rw [h_f]; exact own_rem8 _
  have hd8 := own_d8 hf
  refine Go.st (S' := T37.setTop (mkF m 195 #[.val (.long q0), .second, .val (.int p1), .val (.int p2), .val (.int p3), .val (.int p4), .val (.ref b1), .val (.ref b19), .val (.ref r37), .val (.int ii), .val (.int f), .unset, .unset, .unset, .unset, .unset] [])) (fun _ kk => XS.istore X37.here hx rfl (hb hby at_193) rfl (l' := #[.val (.long q0), .second, .val (.int p1), .val (.int p2), .val (.int p3), .val (.int p4), .val (.ref b1), .val (.ref b19), .val (.ref r37), .val (.int ii), .val (.int f), .unset, .unset, .unset, .unset, .unset]) rfl kk) ?_
  refine Go.st (S' := T37.setTop (mkF m 197 #[.val (.long q0), .second, .val (.int p1), .val (.int p2), .val (.int p3), .val (.int p4), .val (.ref b1), .val (.ref b19), .val (.ref r37), .val (.int ii), .val (.int f), .unset, .unset, .unset, .unset, .unset] [(.int f)])) (fun _ kk => XS.iload X37.here hx rfl (hb hby at_195) rfl kk) ?_
  refine Go.st (S' := T37.setTop (mkF m 198 #[.val (.long q0), .second, .val (.int p1), .val (.int p2), .val (.int p3), .val (.int p4), .val (.ref b1), .val (.ref b19), .val (.ref r37), .val (.int ii), .val (.int f), .unset, .unset, .unset, .unset, .unset] [(.int (1 : Int32)), (.int f)])) (fun _ kk => XS.iconst X37.here hx rfl (hb hby at_197) kk) ?_
  refine Go.st (S' := T37.setTop (mkF m 199 #[.val (.long q0), .second, .val (.int p1), .val (.int p2), .val (.int p3), .val (.int p4), .val (.ref b1), .val (.ref b19), .val (.ref r37), .val (.int ii), .val (.int f), .unset, .unset, .unset, .unset, .unset] [(.int (f + (1 : Int32)))])) (fun _ kk => XS.iadd X37.here hx rfl (hb hby at_198) rfl kk) ?_
  refine Go.st (S' := T37.setTop (mkF m 201 #[.val (.long q0), .second, .val (.int p1), .val (.int p2), .val (.int p3), .val (.int p4), .val (.ref b1), .val (.ref b19), .val (.ref r37), .val (.int ii), .val (.int f), .unset, .unset, .unset, .unset, .unset] [(.int p3), (.int (f + (1 : Int32)))])) (fun _ kk => XS.iload X37.here hx rfl (hb hby at_199) rfl kk) ?_
  refine Go.st (S' := T37.setTop (mkF m 203 #[.val (.long q0), .second, .val (.int p1), .val (.int p2), .val (.int p3), .val (.int p4), .val (.ref b1), .val (.ref b19), .val (.ref r37), .val (.int ii), .val (.int f), .unset, .unset, .unset, .unset, .unset] [(.int (2147483647 : Int32)), (.int p3), (.int (f + (1 : Int32)))])) (fun _ kk => X37.ldcInt hx hown (mvT hZ (hw _ (List.mem_of_getElem? (i := 30) rfl))) (g := (mkF m 201 #[.val (.long q0), .second, .val (.int p1), .val (.int p2), .val (.int p3), .val (.int p4), .val (.ref b1), .val (.ref b19), .val (.ref r37), .val (.int ii), .val (.int f), .unset, .unset, .unset, .unset, .unset] [(.int p3), (.int (f + (1 : Int32)))])) rfl (hb hby at_201) _ kk) ?_
  refine Go.st (S' := T37.setTop (mkF m 204 #[.val (.long q0), .second, .val (.int p1), .val (.int p2), .val (.int p3), .val (.int p4), .val (.ref b1), .val (.ref b19), .val (.ref r37), .val (.int ii), .val (.int f), .unset, .unset, .unset, .unset, .unset] [(.int (p3 &&& (2147483647 : Int32))), (.int (f + (1 : Int32)))])) (fun _ kk => XS.iand X37.here hx rfl (hb hby at_203) rfl kk) ?_
  refine Go.st (S' := T37.setTop (mkF m 206 #[.val (.long q0), .second, .val (.int p1), .val (.int p2), .val (.int p3), .val (.int p4), .val (.ref b1), .val (.ref b19), .val (.ref r37), .val (.int ii), .val (.int f), .unset, .unset, .unset, .unset, .unset] [(.int (8 : Int32)), (.int (p3 &&& (2147483647 : Int32))), (.int (f + (1 : Int32)))])) (fun _ kk => XS.bipush X37.here hx rfl (hb hby at_204) kk) ?_
  refine Go.st (S' := T37.setTop (mkF m 208 #[.val (.long q0), .second, .val (.int p1), .val (.int p2), .val (.int p3), .val (.int p4), .val (.ref b1), .val (.ref b19), .val (.ref r37), .val (.int ii), .val (.int f), .unset, .unset, .unset, .unset, .unset] [(.int f), (.int (8 : Int32)), (.int (p3 &&& (2147483647 : Int32))), (.int (f + (1 : Int32)))])) (fun _ kk => XS.iload X37.here hx rfl (hb hby at_206) rfl kk) ?_
  refine Go.st (S' := T37.setTop (mkF m 209 #[.val (.long q0), .second, .val (.int p1), .val (.int p2), .val (.int p3), .val (.int p4), .val (.ref b1), .val (.ref b19), .val (.ref r37), .val (.int ii), .val (.int f), .unset, .unset, .unset, .unset, .unset] [(.int ((8 : Int32) - f)), (.int (p3 &&& (2147483647 : Int32))), (.int (f + (1 : Int32)))])) (fun _ kk => XS.isub X37.here hx rfl (hb hby at_208) rfl kk) ?_
  refine Go.st (S' := T37.setTop (mkF m 210 #[.val (.long q0), .second, .val (.int p1), .val (.int p2), .val (.int p3), .val (.int p4), .val (.ref b1), .val (.ref b19), .val (.ref r37), .val (.int ii), .val (.int f), .unset, .unset, .unset, .unset, .unset] [(.int ((p3 &&& (2147483647 : Int32)) % ((8 : Int32) - f))), (.int (f + (1 : Int32)))])) (fun _ kk => iremM (g := (mkF m 209 #[.val (.long q0), .second, .val (.int p1), .val (.int p2), .val (.int p3), .val (.int p4), .val (.ref b1), .val (.ref b19), .val (.ref r37), .val (.int ii), .val (.int f), .unset, .unset, .unset, .unset, .unset] [(.int ((8 : Int32) - f)), (.int (p3 &&& (2147483647 : Int32))), (.int (f + (1 : Int32)))])) X37 hx rfl (hb hby at_209) rfl (own_nz (by omega)) kk) ?_
  obtain ⟨r, h_r⟩ : ∃ z : Int32, z = ((p3 &&& (2147483647 : Int32)) % ((8 : Int32) - f)) := ⟨_, rfl⟩
  rw [← h_r]
  have hr : 0 ≤ r.toInt ∧ r.toInt < 8 - f.toInt := by rw [h_r]; exact (by have q := own_remP p3 (d := (8 : Int32) - f) (by omega); omega)
  refine Go.st (S' := T37.setTop (mkF m 211 #[.val (.long q0), .second, .val (.int p1), .val (.int p2), .val (.int p3), .val (.int p4), .val (.ref b1), .val (.ref b19), .val (.ref r37), .val (.int ii), .val (.int f), .unset, .unset, .unset, .unset, .unset] [(.int ((f + (1 : Int32)) + r))])) (fun _ kk => XS.iadd X37.here hx rfl (hb hby at_210) rfl kk) ?_
  obtain ⟨tt, h_tt⟩ : ∃ z : Int32, z = ((f + (1 : Int32)) + r) := ⟨_, rfl⟩
  rw [← h_tt]
  have htt : tt.toInt = f.toInt + 1 + r.toInt := by rw [h_tt]; exact own_t hf hr
  have hsub := own_sub (t := tt) hf (by omega)
  refine Go.st (S' := T37.setTop (mkF m 213 #[.val (.long q0), .second, .val (.int p1), .val (.int p2), .val (.int p3), .val (.int p4), .val (.ref b1), .val (.ref b19), .val (.ref r37), .val (.int ii), .val (.int f), .val (.int tt), .unset, .unset, .unset, .unset] [])) (fun _ kk => XS.istore X37.here hx rfl (hb hby at_211) rfl (l' := #[.val (.long q0), .second, .val (.int p1), .val (.int p2), .val (.int p3), .val (.int p4), .val (.ref b1), .val (.ref b19), .val (.ref r37), .val (.int ii), .val (.int f), .val (.int tt), .unset, .unset, .unset, .unset]) rfl kk) ?_
  refine Go.st (S' := T37.setTop (mkF m 215 #[.val (.long q0), .second, .val (.int p1), .val (.int p2), .val (.int p3), .val (.int p4), .val (.ref b1), .val (.ref b19), .val (.ref r37), .val (.int ii), .val (.int f), .val (.int tt), .unset, .unset, .unset, .unset] [(.ref r37)])) (fun _ kk => XS.aload X37.here hx rfl (hb hby at_213) rfl rfl kk) ?_
  refine Go.st (S' := T37.setTop (mkF m 217 #[.val (.long q0), .second, .val (.int p1), .val (.int p2), .val (.int p3), .val (.int p4), .val (.ref b1), .val (.ref b19), .val (.ref r37), .val (.int ii), .val (.int f), .val (.int tt), .unset, .unset, .unset, .unset] [(.int f), (.ref r37)])) (fun _ kk => XS.iload X37.here hx rfl (hb hby at_215) rfl kk) ?_
  refine Go.st (S' := T37.setTop (mkF m 219 #[.val (.long q0), .second, .val (.int p1), .val (.int p2), .val (.int p3), .val (.int p4), .val (.ref b1), .val (.ref b19), .val (.ref r37), .val (.int ii), .val (.int f), .val (.int tt), .unset, .unset, .unset, .unset] [(.int tt), (.int f), (.ref r37)])) (fun _ kk => XS.iload X37.here hx rfl (hb hby at_217) rfl kk) ?_
  obtain ⟨cq39, kq39, q39a, q39b, q39c⟩ := isOf hZ rfl E_r37
  obtain ⟨_, _, ⟨T39, L39, k39, n39⟩, -, X39, ⟨Lc39, hQ39, l39, y39, z39⟩, st39⟩ := X37.virtualBack hx (y := (⟨"com/example/call_bundler/callbundler/http/Content", "slice", "(II)Lcom/example/call_bundler/callbundler/http/Content;"⟩ : MethodName)) (z := (⟨"com/example/call_bundler/callbundler/http/Content", "slice", "(II)Lcom/example/call_bundler/callbundler/http/Content;"⟩ : MethodName)) hown (mvT hZ (hw _ (List.mem_of_getElem? (i := 31) rfl))) (mvT hZ (hw _ (List.mem_of_getElem? (i := 32) rfl))) (notFace_of_selects (args := #[]) (mvT hZ (hw _ (List.mem_of_getElem? (i := 34) rfl)))) (mvT hZ (hw _ (List.mem_of_getElem? (i := 34) rfl))) (mvT hZ (hw _ (List.mem_of_getElem? (i := 33) rfl))) (by decide) (backOf (W := 0) (rmSl l Z az hw [] r37 f tt t37 (31 : Int32) ((((1 : Int64) <<< ((31 : Int32) &&& 0x3f).toInt64) - (1 : Int64)).toInt32) (0 : Int32) (nar .boolean (0 : Int32)) (1 : Int32) (8 : Int32) T37.heap n0 Zs38 E_r37 Fc37_pieces Fc37_shift Fc37_mask Fc37_offset Fc37_slice Fc37_count Fc37_length) hZ (hw _ (List.mem_of_getElem? (i := 35) rfl)) (hw _ (List.mem_of_getElem? (i := 3) rfl)) (by decide) (by decide)) q39a q39c (g := (mkF m 219 #[.val (.long q0), .second, .val (.int p1), .val (.int p2), .val (.int p3), .val (.int p4), .val (.ref b1), .val (.ref b19), .val (.ref r37), .val (.int ii), .val (.int f), .val (.int tt), .unset, .unset, .unset, .unset] [(.int tt), (.int f), (.ref r37)])) rfl (by rw [hml]; rfl) (Steps.refl _) (argsL := [(.int f), (.int tt)]) (rest := []) (lenOf pd_3 rfl) rfl (by show 2 * 0 + _ ≤ _; exact Nat.le_of_eq rfl) (hb hby at_219) (fun _ _ => ⟨rfl, rfl, (by decide : 4 + 2 ≤ _), (by decide : 24 + 8 ≤ _)⟩)
  dsimp only [Pt.U, Pt.locs, Pt.cells, Pt.slots] at X39 l39 y39 z39 st39 hQ39
  subst l39 y39 z39
  obtain ⟨r39, rfl, N39q, K39, E_r39, sr39, Fc39_pieces, Fc39_shift, Fc39_mask, Fc39_offset, Fc39_slice, Fc39_count, Fc39_length⟩ := hQ39
  have N39 := Fr.app N37 N39q
  have E_b1 := E_b1.keep K39
  have W_b1 := W_b1.keep K39 nin0
  have E_b19 := E_b19.keep K39
  have W_b19 := W_b19.keep K39 nin0
  have E_r37 := E_r37.keep K39
  have Fc37_pieces := Fc37_pieces.keep K39 nin0
  have Fc37_shift := Fc37_shift.keep K39 nin0
  have Fc37_mask := Fc37_mask.keep K39 nin0
  have Fc37_offset := Fc37_offset.keep K39 nin0
  have Fc37_slice := Fc37_slice.keep K39 nin0
  have Fc37_count := Fc37_count.keep K39 nin0
  have Fc37_length := Fc37_length.keep K39 nin0
  have V_t37 := V_t37.keep K39 nin0
  have Zs40 := Nat.le_trans Zs38 K39.1
  refine Go.tr (S' := T39.setTop (mkF m 222 #[.val (.long q0), .second, .val (.int p1), .val (.int p2), .val (.int p3), .val (.int p4), .val (.ref b1), .val (.ref b19), .val (.ref r37), .val (.int ii), .val (.int f), .val (.int tt), .unset, .unset, .unset, .unset] [(.ref r39)])) st39 ?_
  refine Go.st (S' := T39.setTop (mkF m 224 #[.val (.long q0), .second, .val (.int p1), .val (.int p2), .val (.int p3), .val (.int p4), .val (.ref b1), .val (.ref b19), .val (.ref r37), .val (.int ii), .val (.int f), .val (.int tt), .val (.ref r39), .unset, .unset, .unset] [])) (fun _ kk => XS.astore X39.here hx rfl (hb hby at_222) rfl rfl (l' := #[.val (.long q0), .second, .val (.int p1), .val (.int p2), .val (.int p3), .val (.int p4), .val (.ref b1), .val (.ref b19), .val (.ref r37), .val (.int ii), .val (.int f), .val (.int tt), .val (.ref r39), .unset, .unset, .unset]) rfl kk) ?_
  refine Go.st (S' := T39.setTop (mkF m 226 #[.val (.long q0), .second, .val (.int p1), .val (.int p2), .val (.int p3), .val (.int p4), .val (.ref b1), .val (.ref b19), .val (.ref r37), .val (.int ii), .val (.int f), .val (.int tt), .val (.ref r39), .unset, .unset, .unset] [(.int p4)])) (fun _ kk => XS.iload X39.here hx rfl (hb hby at_224) rfl kk) ?_
  refine Go.st (S' := T39.setTop (mkF m 228 #[.val (.long q0), .second, .val (.int p1), .val (.int p2), .val (.int p3), .val (.int p4), .val (.ref b1), .val (.ref b19), .val (.ref r37), .val (.int ii), .val (.int f), .val (.int tt), .val (.ref r39), .unset, .unset, .unset] [(.int (2147483647 : Int32)), (.int p4)])) (fun _ kk => X39.ldcInt hx hown (mvT hZ (hw _ (List.mem_of_getElem? (i := 30) rfl))) (g := (mkF m 226 #[.val (.long q0), .second, .val (.int p1), .val (.int p2), .val (.int p3), .val (.int p4), .val (.ref b1), .val (.ref b19), .val (.ref r37), .val (.int ii), .val (.int f), .val (.int tt), .val (.ref r39), .unset, .unset, .unset] [(.int p4)])) rfl (hb hby at_226) _ kk) ?_
  refine Go.st (S' := T39.setTop (mkF m 229 #[.val (.long q0), .second, .val (.int p1), .val (.int p2), .val (.int p3), .val (.int p4), .val (.ref b1), .val (.ref b19), .val (.ref r37), .val (.int ii), .val (.int f), .val (.int tt), .val (.ref r39), .unset, .unset, .unset] [(.int (p4 &&& (2147483647 : Int32)))])) (fun _ kk => XS.iand X39.here hx rfl (hb hby at_228) rfl kk) ?_
  refine Go.st (S' := T39.setTop (mkF m 231 #[.val (.long q0), .second, .val (.int p1), .val (.int p2), .val (.int p3), .val (.int p4), .val (.ref b1), .val (.ref b19), .val (.ref r37), .val (.int ii), .val (.int f), .val (.int tt), .val (.ref r39), .unset, .unset, .unset] [(.int tt), (.int (p4 &&& (2147483647 : Int32)))])) (fun _ kk => XS.iload X39.here hx rfl (hb hby at_229) rfl kk) ?_
  refine Go.st (S' := T39.setTop (mkF m 233 #[.val (.long q0), .second, .val (.int p1), .val (.int p2), .val (.int p3), .val (.int p4), .val (.ref b1), .val (.ref b19), .val (.ref r37), .val (.int ii), .val (.int f), .val (.int tt), .val (.ref r39), .unset, .unset, .unset] [(.int f), (.int tt), (.int (p4 &&& (2147483647 : Int32)))])) (fun _ kk => XS.iload X39.here hx rfl (hb hby at_231) rfl kk) ?_
  refine Go.st (S' := T39.setTop (mkF m 234 #[.val (.long q0), .second, .val (.int p1), .val (.int p2), .val (.int p3), .val (.int p4), .val (.ref b1), .val (.ref b19), .val (.ref r37), .val (.int ii), .val (.int f), .val (.int tt), .val (.ref r39), .unset, .unset, .unset] [(.int (tt - f)), (.int (p4 &&& (2147483647 : Int32)))])) (fun _ kk => XS.isub X39.here hx rfl (hb hby at_233) rfl kk) ?_
  refine Go.st (S' := T39.setTop (mkF m 235 #[.val (.long q0), .second, .val (.int p1), .val (.int p2), .val (.int p3), .val (.int p4), .val (.ref b1), .val (.ref b19), .val (.ref r37), .val (.int ii), .val (.int f), .val (.int tt), .val (.ref r39), .unset, .unset, .unset] [(.int ((p4 &&& (2147483647 : Int32)) % (tt - f)))])) (fun _ kk => iremM (g := (mkF m 234 #[.val (.long q0), .second, .val (.int p1), .val (.int p2), .val (.int p3), .val (.int p4), .val (.ref b1), .val (.ref b19), .val (.ref r37), .val (.int ii), .val (.int f), .val (.int tt), .val (.ref r39), .unset, .unset, .unset] [(.int (tt - f)), (.int (p4 &&& (2147483647 : Int32)))])) X39 hx rfl (hb hby at_234) rfl (own_nz (by omega)) kk) ?_
  obtain ⟨jj, h_jj⟩ : ∃ z : Int32, z = ((p4 &&& (2147483647 : Int32)) % (tt - f)) := ⟨_, rfl⟩
  rw [← h_jj]
  have hjj : 0 ≤ jj.toInt ∧ jj.toInt < tt.toInt - f.toInt := by rw [h_jj]; have q := own_remP p4 (d := tt - f) (by omega); omega
  have hfj := own_add (f := f) (j := jj) (by omega) (by omega) (by omega)
  refine Go.st (S' := T39.setTop (mkF m 237 #[.val (.long q0), .second, .val (.int p1), .val (.int p2), .val (.int p3), .val (.int p4), .val (.ref b1), .val (.ref b19), .val (.ref r37), .val (.int ii), .val (.int f), .val (.int tt), .val (.ref r39), .val (.int jj), .unset, .unset] [])) (fun _ kk => XS.istore X39.here hx rfl (hb hby at_235) rfl (l' := #[.val (.long q0), .second, .val (.int p1), .val (.int p2), .val (.int p3), .val (.int p4), .val (.ref b1), .val (.ref b19), .val (.ref r37), .val (.int ii), .val (.int f), .val (.int tt), .val (.ref r39), .val (.int jj), .unset, .unset]) rfl kk) ?_
  refine Go.st (S' := T39.setTop (mkF m 239 #[.val (.long q0), .second, .val (.int p1), .val (.int p2), .val (.int p3), .val (.int p4), .val (.ref b1), .val (.ref b19), .val (.ref r37), .val (.int ii), .val (.int f), .val (.int tt), .val (.ref r39), .val (.int jj), .unset, .unset] [(.ref r37)])) (fun _ kk => XS.aload X39.here hx rfl (hb hby at_237) rfl rfl kk) ?_
  refine Go.st (S' := T39.setTop (mkF m 241 #[.val (.long q0), .second, .val (.int p1), .val (.int p2), .val (.int p3), .val (.int p4), .val (.ref b1), .val (.ref b19), .val (.ref r37), .val (.int ii), .val (.int f), .val (.int tt), .val (.ref r39), .val (.int jj), .unset, .unset] [(.int ii), (.ref r37)])) (fun _ kk => XS.iload X39.here hx rfl (hb hby at_239) rfl kk) ?_
  have Fm41 := Fc37_mask
  rw [own_m31] at Fm41
  obtain ⟨cq41, kq41, q41a, q41b, q41c⟩ := isOf hZ rfl E_r37
  obtain ⟨_, _, ⟨T41, L41, k41, n41⟩, -, X41, ⟨Lc41, hQ41, l41, y41, z41⟩, st41⟩ := X39.virtualBack hx (y := (⟨"com/example/call_bundler/callbundler/http/Content", "byteAt", "(I)B"⟩ : MethodName)) (z := (⟨"com/example/call_bundler/callbundler/http/Content", "byteAt", "(I)B"⟩ : MethodName)) hown (mvT hZ (hw _ (List.mem_of_getElem? (i := 39) rfl))) (mvT hZ (hw _ (List.mem_of_getElem? (i := 40) rfl))) (notFace_of_selects (args := #[]) (mvT hZ (hw _ (List.mem_of_getElem? (i := 42) rfl)))) (mvT hZ (hw _ (List.mem_of_getElem? (i := 42) rfl))) (mvT hZ (hw _ (List.mem_of_getElem? (i := 41) rfl))) (by decide) (backOf (W := 0) (rmB l Z az hw [] r37 ii t37 b1 kk37 k1 bs (0 : Int32) T39.heap n0 Zs40 Fc37_pieces Fc37_shift Fm41 Fc37_offset V_t37 W_b1 (by rw [Int32.zero_add]; exact own_in8 hii)) hZ (hw _ (List.mem_of_getElem? (i := 43) rfl)) (hw _ (List.mem_of_getElem? (i := 3) rfl)) (by decide) (by decide)) q41a q41c (g := (mkF m 241 #[.val (.long q0), .second, .val (.int p1), .val (.int p2), .val (.int p3), .val (.int p4), .val (.ref b1), .val (.ref b19), .val (.ref r37), .val (.int ii), .val (.int f), .val (.int tt), .val (.ref r39), .val (.int jj), .unset, .unset] [(.int ii), (.ref r37)])) rfl (by rw [hml]; rfl) (Steps.refl _) (argsL := [(.int ii)]) (rest := []) (lenOf pd_5 rfl) rfl (by show 2 * 0 + _ ≤ _; exact Nat.le_of_eq rfl) (hb hby at_241) (fun _ _ => ⟨rfl, rfl, (by decide : 6 + 0 ≤ _), (by decide : 32 + 0 ≤ _)⟩)
  dsimp only [Pt.U, Pt.locs, Pt.cells, Pt.slots] at X41 l41 y41 z41 st41 hQ41
  subst l41 y41 z41
  obtain ⟨hv41, N41q, e41⟩ := hQ41
  rw [own_nb hnb, Int32.zero_add] at hv41
  subst hv41
  have N41 := Fr.app N39 N41q
  refine Go.tr (S' := T41.setTop (mkF m 244 #[.val (.long q0), .second, .val (.int p1), .val (.int p2), .val (.int p3), .val (.int p4), .val (.ref b1), .val (.ref b19), .val (.ref r37), .val (.int ii), .val (.int f), .val (.int tt), .val (.ref r39), .val (.int jj), .unset, .unset] [(.int (bt bs ii))])) st41 ?_
  refine Go.st (S' := T41.setTop (mkF m 246 #[.val (.long q0), .second, .val (.int p1), .val (.int p2), .val (.int p3), .val (.int p4), .val (.ref b1), .val (.ref b19), .val (.ref r37), .val (.int ii), .val (.int f), .val (.int tt), .val (.ref r39), .val (.int jj), .unset, .unset] [(.ref b19), (.int (bt bs ii))])) (fun _ kk => XS.aload X41.here hx rfl (hb hby at_244) rfl rfl kk) ?_
  refine Go.st (S' := T41.setTop (mkF m 248 #[.val (.long q0), .second, .val (.int p1), .val (.int p2), .val (.int p3), .val (.int p4), .val (.ref b1), .val (.ref b19), .val (.ref r37), .val (.int ii), .val (.int f), .val (.int tt), .val (.ref r39), .val (.int jj), .unset, .unset] [(.int ii), (.ref b19), (.int (bt bs ii))])) (fun _ kk => XS.iload X41.here hx rfl (hb hby at_246) rfl kk) ?_
  obtain ⟨cl42, Ar42, q42, S42, Ng42, H42, G42⟩ := (id W_b19)
  have hin42 : ¬ (ii < 0 ∨ cl42.slots.size ≤ (ii).toNatClampNeg) := inb_of S42 (own_in8 hii)
  have hat42 : cl42.slots[(ii).toNatClampNeg]? = some (.int (bt bs ii)) := own_at H42 hin42
  refine Go.st (S' := T41.setTop (mkF m 249 #[.val (.long q0), .second, .val (.int p1), .val (.int p2), .val (.int p3), .val (.int p4), .val (.ref b1), .val (.ref b19), .val (.ref r37), .val (.int ii), .val (.int f), .val (.int tt), .val (.ref r39), .val (.int jj), .unset, .unset] [(.int (bt bs ii)), (.int (bt bs ii))])) (fun _ kk => X41.baloadBytes hx (j := ii) (v := (.int (bt bs ii))) (by rw [e41]; exact Ar42.1) (State.isArrayOf_alike hZ.alike Ar42.2.1) Ar42.2.2 hin42 hat42 (g := (mkF m 248 #[.val (.long q0), .second, .val (.int p1), .val (.int p2), .val (.int p3), .val (.int p4), .val (.ref b1), .val (.ref b19), .val (.ref r37), .val (.int ii), .val (.int f), .val (.int tt), .val (.ref r39), .val (.int jj), .unset, .unset] [(.int ii), (.ref b19), (.int (bt bs ii))])) rfl rfl (hb hby at_248) _ kk) ?_
  refine Go.st (S' := T41.setTop (mkF m 252 #[.val (.long q0), .second, .val (.int p1), .val (.int p2), .val (.int p3), .val (.int p4), .val (.ref b1), .val (.ref b19), .val (.ref r37), .val (.int ii), .val (.int f), .val (.int tt), .val (.ref r39), .val (.int jj), .unset, .unset] [])) (fun _ kk => XS.icmpNo X41.here hx rfl (hb hby at_249) rfl (teq (rfl : (bt bs ii) = (bt bs ii))).2 kk) ?_
  refine Go.st (S' := T41.setTop (mkF m 253 #[.val (.long q0), .second, .val (.int p1), .val (.int p2), .val (.int p3), .val (.int p4), .val (.ref b1), .val (.ref b19), .val (.ref r37), .val (.int ii), .val (.int f), .val (.int tt), .val (.ref r39), .val (.int jj), .unset, .unset] [(.int (1 : Int32))])) (fun _ kk => XS.iconst X41.here hx rfl (hb hby at_252) kk) ?_
  refine Go.st (S' := T41.setTop (mkF m 257 #[.val (.long q0), .second, .val (.int p1), .val (.int p2), .val (.int p3), .val (.int p4), .val (.ref b1), .val (.ref b19), .val (.ref r37), .val (.int ii), .val (.int f), .val (.int tt), .val (.ref r39), .val (.int jj), .unset, .unset] [(.int (1 : Int32))])) (fun _ kk => XS.goto X41.here hx rfl (pc0 := 253) (pc' := 257) rfl (hb hby at_253) (by decide) (by decide) kk) ?_
  refine Go.st (S' := T41.setTop (mkF m 259 #[.val (.long q0), .second, .val (.int p1), .val (.int p2), .val (.int p3), .val (.int p4), .val (.ref b1), .val (.ref b19), .val (.ref r37), .val (.int ii), .val (.int f), .val (.int tt), .val (.ref r39), .val (.int jj), .val (.int (1 : Int32)), .unset] [])) (fun _ kk => XS.istore X41.here hx rfl (hb hby at_257) rfl (l' := #[.val (.long q0), .second, .val (.int p1), .val (.int p2), .val (.int p3), .val (.int p4), .val (.ref b1), .val (.ref b19), .val (.ref r37), .val (.int ii), .val (.int f), .val (.int tt), .val (.ref r39), .val (.int jj), .val (.int (1 : Int32)), .unset]) rfl kk) ?_
  refine Go.st (S' := T41.setTop (mkF m 261 #[.val (.long q0), .second, .val (.int p1), .val (.int p2), .val (.int p3), .val (.int p4), .val (.ref b1), .val (.ref b19), .val (.ref r37), .val (.int ii), .val (.int f), .val (.int tt), .val (.ref r39), .val (.int jj), .val (.int (1 : Int32)), .unset] [(.ref r39)])) (fun _ kk => XS.aload X41.here hx rfl (hb hby at_259) rfl rfl kk) ?_
  refine Go.st (S' := T41.setTop (mkF m 263 #[.val (.long q0), .second, .val (.int p1), .val (.int p2), .val (.int p3), .val (.int p4), .val (.ref b1), .val (.ref b19), .val (.ref r37), .val (.int ii), .val (.int f), .val (.int tt), .val (.ref r39), .val (.int jj), .val (.int (1 : Int32)), .unset] [(.int jj), (.ref r39)])) (fun _ kk => XS.iload X41.here hx rfl (hb hby at_261) rfl kk) ?_
  have Fm43 := Fc39_mask
  rw [own_m31] at Fm43
  obtain ⟨cq43, kq43, q43a, q43b, q43c⟩ := isOf hZ e41 E_r39
  obtain ⟨_, _, ⟨T43, L43, k43, n43⟩, -, X43, ⟨Lc43, hQ43, l43, y43, z43⟩, st43⟩ := X41.virtualBack hx (y := (⟨"com/example/call_bundler/callbundler/http/Content", "byteAt", "(I)B"⟩ : MethodName)) (z := (⟨"com/example/call_bundler/callbundler/http/Content", "byteAt", "(I)B"⟩ : MethodName)) hown (mvT hZ (hw _ (List.mem_of_getElem? (i := 39) rfl))) (mvT hZ (hw _ (List.mem_of_getElem? (i := 40) rfl))) (notFace_of_selects (args := #[]) (mvT hZ (hw _ (List.mem_of_getElem? (i := 42) rfl)))) (mvT hZ (hw _ (List.mem_of_getElem? (i := 42) rfl))) (mvT hZ (hw _ (List.mem_of_getElem? (i := 41) rfl))) (by decide) (backOf (W := 0) (rmB l Z az hw [] r39 jj t37 b1 kk37 k1 bs ((0 : Int32) + f) T39.heap n0 Zs40 Fc39_pieces Fc39_shift Fm43 Fc39_offset V_t37 W_b1 (by rw [Int32.zero_add]; exact own_in8 (by omega))) hZ (hw _ (List.mem_of_getElem? (i := 43) rfl)) (hw _ (List.mem_of_getElem? (i := 3) rfl)) (by decide) (by decide)) q43a q43c (g := (mkF m 263 #[.val (.long q0), .second, .val (.int p1), .val (.int p2), .val (.int p3), .val (.int p4), .val (.ref b1), .val (.ref b19), .val (.ref r37), .val (.int ii), .val (.int f), .val (.int tt), .val (.ref r39), .val (.int jj), .val (.int (1 : Int32)), .unset] [(.int jj), (.ref r39)])) rfl (by rw [hml]; rfl) (Steps.refl _) (argsL := [(.int jj)]) (rest := []) (lenOf pd_5 rfl) rfl (by show 2 * 0 + _ ≤ _; exact Nat.le_of_eq rfl) (hb hby at_263) (fun _ _ => ⟨rfl, e41, (by decide : 6 + 0 ≤ _), (by decide : 32 + 0 ≤ _)⟩)
  dsimp only [Pt.U, Pt.locs, Pt.cells, Pt.slots] at X43 l43 y43 z43 st43 hQ43
  subst l43 y43 z43
  obtain ⟨hv43, N43q, e43⟩ := hQ43
  rw [own_nb hnb, Int32.zero_add] at hv43
  subst hv43
  have N43 := Fr.app N41 N43q
  refine Go.tr (S' := T43.setTop (mkF m 266 #[.val (.long q0), .second, .val (.int p1), .val (.int p2), .val (.int p3), .val (.int p4), .val (.ref b1), .val (.ref b19), .val (.ref r37), .val (.int ii), .val (.int f), .val (.int tt), .val (.ref r39), .val (.int jj), .val (.int (1 : Int32)), .unset] [(.int (bt bs (f + jj)))])) st43 ?_
  refine Go.st (S' := T43.setTop (mkF m 268 #[.val (.long q0), .second, .val (.int p1), .val (.int p2), .val (.int p3), .val (.int p4), .val (.ref b1), .val (.ref b19), .val (.ref r37), .val (.int ii), .val (.int f), .val (.int tt), .val (.ref r39), .val (.int jj), .val (.int (1 : Int32)), .unset] [(.ref b19), (.int (bt bs (f + jj)))])) (fun _ kk => XS.aload X43.here hx rfl (hb hby at_266) rfl rfl kk) ?_
  refine Go.st (S' := T43.setTop (mkF m 270 #[.val (.long q0), .second, .val (.int p1), .val (.int p2), .val (.int p3), .val (.int p4), .val (.ref b1), .val (.ref b19), .val (.ref r37), .val (.int ii), .val (.int f), .val (.int tt), .val (.ref r39), .val (.int jj), .val (.int (1 : Int32)), .unset] [(.int f), (.ref b19), (.int (bt bs (f + jj)))])) (fun _ kk => XS.iload X43.here hx rfl (hb hby at_268) rfl kk) ?_
  refine Go.st (S' := T43.setTop (mkF m 272 #[.val (.long q0), .second, .val (.int p1), .val (.int p2), .val (.int p3), .val (.int p4), .val (.ref b1), .val (.ref b19), .val (.ref r37), .val (.int ii), .val (.int f), .val (.int tt), .val (.ref r39), .val (.int jj), .val (.int (1 : Int32)), .unset] [(.int jj), (.int f), (.ref b19), (.int (bt bs (f + jj)))])) (fun _ kk => XS.iload X43.here hx rfl (hb hby at_270) rfl kk) ?_
  refine Go.st (S' := T43.setTop (mkF m 273 #[.val (.long q0), .second, .val (.int p1), .val (.int p2), .val (.int p3), .val (.int p4), .val (.ref b1), .val (.ref b19), .val (.ref r37), .val (.int ii), .val (.int f), .val (.int tt), .val (.ref r39), .val (.int jj), .val (.int (1 : Int32)), .unset] [(.int (f + jj)), (.ref b19), (.int (bt bs (f + jj)))])) (fun _ kk => XS.iadd X43.here hx rfl (hb hby at_272) rfl kk) ?_
  obtain ⟨cl44, Ar44, q44, S44, Ng44, H44, G44⟩ := (id W_b19)
  have hin44 : ¬ ((f + jj) < 0 ∨ cl44.slots.size ≤ ((f + jj)).toNatClampNeg) := inb_of S44 (own_in8 (by omega))
  have hat44 : cl44.slots[((f + jj)).toNatClampNeg]? = some (.int (bt bs (f + jj))) := own_at H44 hin44
  refine Go.st (S' := T43.setTop (mkF m 274 #[.val (.long q0), .second, .val (.int p1), .val (.int p2), .val (.int p3), .val (.int p4), .val (.ref b1), .val (.ref b19), .val (.ref r37), .val (.int ii), .val (.int f), .val (.int tt), .val (.ref r39), .val (.int jj), .val (.int (1 : Int32)), .unset] [(.int (bt bs (f + jj))), (.int (bt bs (f + jj)))])) (fun _ kk => X43.baloadBytes hx (j := (f + jj)) (v := (.int (bt bs (f + jj)))) (by rw [e43]; exact Ar44.1) (State.isArrayOf_alike hZ.alike Ar44.2.1) Ar44.2.2 hin44 hat44 (g := (mkF m 273 #[.val (.long q0), .second, .val (.int p1), .val (.int p2), .val (.int p3), .val (.int p4), .val (.ref b1), .val (.ref b19), .val (.ref r37), .val (.int ii), .val (.int f), .val (.int tt), .val (.ref r39), .val (.int jj), .val (.int (1 : Int32)), .unset] [(.int (f + jj)), (.ref b19), (.int (bt bs (f + jj)))])) rfl rfl (hb hby at_273) _ kk) ?_
  refine Go.st (S' := T43.setTop (mkF m 277 #[.val (.long q0), .second, .val (.int p1), .val (.int p2), .val (.int p3), .val (.int p4), .val (.ref b1), .val (.ref b19), .val (.ref r37), .val (.int ii), .val (.int f), .val (.int tt), .val (.ref r39), .val (.int jj), .val (.int (1 : Int32)), .unset] [])) (fun _ kk => XS.icmpNo X43.here hx rfl (hb hby at_274) rfl (teq (rfl : (bt bs (f + jj)) = (bt bs (f + jj)))).2 kk) ?_
  refine Go.st (S' := T43.setTop (mkF m 278 #[.val (.long q0), .second, .val (.int p1), .val (.int p2), .val (.int p3), .val (.int p4), .val (.ref b1), .val (.ref b19), .val (.ref r37), .val (.int ii), .val (.int f), .val (.int tt), .val (.ref r39), .val (.int jj), .val (.int (1 : Int32)), .unset] [(.int (1 : Int32))])) (fun _ kk => XS.iconst X43.here hx rfl (hb hby at_277) kk) ?_
  refine Go.st (S' := T43.setTop (mkF m 282 #[.val (.long q0), .second, .val (.int p1), .val (.int p2), .val (.int p3), .val (.int p4), .val (.ref b1), .val (.ref b19), .val (.ref r37), .val (.int ii), .val (.int f), .val (.int tt), .val (.ref r39), .val (.int jj), .val (.int (1 : Int32)), .unset] [(.int (1 : Int32))])) (fun _ kk => XS.goto X43.here hx rfl (pc0 := 278) (pc' := 282) rfl (hb hby at_278) (by decide) (by decide) kk) ?_
  refine Go.st (S' := T43.setTop (mkF m 284 #[.val (.long q0), .second, .val (.int p1), .val (.int p2), .val (.int p3), .val (.int p4), .val (.ref b1), .val (.ref b19), .val (.ref r37), .val (.int ii), .val (.int f), .val (.int tt), .val (.ref r39), .val (.int jj), .val (.int (1 : Int32)), .val (.int (1 : Int32))] [])) (fun _ kk => XS.istore X43.here hx rfl (hb hby at_282) rfl (l' := #[.val (.long q0), .second, .val (.int p1), .val (.int p2), .val (.int p3), .val (.int p4), .val (.ref b1), .val (.ref b19), .val (.ref r37), .val (.int ii), .val (.int f), .val (.int tt), .val (.ref r39), .val (.int jj), .val (.int (1 : Int32)), .val (.int (1 : Int32))]) rfl kk) ?_
  refine Go.st (S' := T43.setTop (mkF m 286 #[.val (.long q0), .second, .val (.int p1), .val (.int p2), .val (.int p3), .val (.int p4), .val (.ref b1), .val (.ref b19), .val (.ref r37), .val (.int ii), .val (.int f), .val (.int tt), .val (.ref r39), .val (.int jj), .val (.int (1 : Int32)), .val (.int (1 : Int32))] [(.int (1 : Int32))])) (fun _ kk => XS.iload X43.here hx rfl (hb hby at_284) rfl kk) ?_
  refine Go.st (S' := T43.setTop (mkF m 289 #[.val (.long q0), .second, .val (.int p1), .val (.int p2), .val (.int p3), .val (.int p4), .val (.ref b1), .val (.ref b19), .val (.ref r37), .val (.int ii), .val (.int f), .val (.int tt), .val (.ref r39), .val (.int jj), .val (.int (1 : Int32)), .val (.int (1 : Int32))] [])) (fun _ kk => XS.ifNo X43.here hx rfl (hb hby at_286) rfl ((if0 _ _).trans (feq (by decide : ¬ ((1 : Int32) = (0 : Int32)))).1) kk) ?_
  refine Go.st (S' := T43.setTop (mkF m 291 #[.val (.long q0), .second, .val (.int p1), .val (.int p2), .val (.int p3), .val (.int p4), .val (.ref b1), .val (.ref b19), .val (.ref r37), .val (.int ii), .val (.int f), .val (.int tt), .val (.ref r39), .val (.int jj), .val (.int (1 : Int32)), .val (.int (1 : Int32))] [(.int (1 : Int32))])) (fun _ kk => XS.iload X43.here hx rfl (hb hby at_289) rfl kk) ?_
  refine Go.st (S' := T43.setTop (mkF m 294 #[.val (.long q0), .second, .val (.int p1), .val (.int p2), .val (.int p3), .val (.int p4), .val (.ref b1), .val (.ref b19), .val (.ref r37), .val (.int ii), .val (.int f), .val (.int tt), .val (.ref r39), .val (.int jj), .val (.int (1 : Int32)), .val (.int (1 : Int32))] [])) (fun _ kk => XS.ifNo X43.here hx rfl (hb hby at_291) rfl ((if0 _ _).trans (feq (by decide : ¬ ((1 : Int32) = (0 : Int32)))).1) kk) ?_
  refine Go.st (S' := T43.setTop (mkF m 295 #[.val (.long q0), .second, .val (.int p1), .val (.int p2), .val (.int p3), .val (.int p4), .val (.ref b1), .val (.ref b19), .val (.ref r37), .val (.int ii), .val (.int f), .val (.int tt), .val (.ref r39), .val (.int jj), .val (.int (1 : Int32)), .val (.int (1 : Int32))] [(.int (1 : Int32))])) (fun _ kk => XS.iconst X43.here hx rfl (hb hby at_294) kk) ?_
  refine Go.st (S' := T43.setTop (mkF m 299 #[.val (.long q0), .second, .val (.int p1), .val (.int p2), .val (.int p3), .val (.int p4), .val (.ref b1), .val (.ref b19), .val (.ref r37), .val (.int ii), .val (.int f), .val (.int tt), .val (.ref r39), .val (.int jj), .val (.int (1 : Int32)), .val (.int (1 : Int32))] [(.int (1 : Int32))])) (fun _ kk => XS.goto X43.here hx rfl (pc0 := 295) (pc' := 299) rfl (hb hby at_295) (by decide) (by decide) kk) ?_
  exact Go.retN X43 hx hlk (t := .boolean) Bd.returns (by simp) (hb hby at_299) (⟨rfl, N43⟩) (by decide) (by decide)
set_option maxRecDepth 65536 in
set_option maxHeartbeats 40000000 in
theorem comes_1 {Post : Tables → Env → Array Value → State → Outcome → State → Prop} (hpost : ∀ tb e args s v u, (limb_1_1.after args s (.returned v) u = true ∧ limb_1_2.after args s (.returned v) u = true ∧ True) → FrameEnd s (.returned v) u (Jvm.fieldLocs frame_1_writes args s ++ Jvm.arrayLocs frame_1_arrays args s ++ Jvm.staticLocs frame_1_statics s) 24 128 → Post tb e args s (.returned v) u) :
    ArmFor flags0 classFile x code maxLocals ret World_1 tables_1 room_1 Calls_1 rest_1 Pre_1 Post := by
  intro l hfl _ _ p e ha hc hk s m args below hf hA hF happ hP
  obtain ⟨hcalls, hrest, hpre⟩ := hP
  obtain ⟨-, -, -, hnamed, -, -, -, hat⟩ := (Spec.applies_iff hf).mp happ
  obtain ⟨hg, hn⟩ := and_e (Cond.before_iff.mp (show (Jvm.Cond.and given_1 narrow_1).before args s = true from hpre))
  obtain ⟨g0, gr0⟩ := and_e hg
  obtain ⟨ga0, gr1⟩ := and_e gr0
  obtain ⟨ga1, gr2⟩ := and_e gr1
  obtain ⟨ga2, gr3⟩ := and_e gr2
  obtain ⟨ga3, gr4⟩ := and_e gr3
  have ga4 := gr4
  obtain ⟨w0, w1, w2, w3, w4, rfl⟩ : ∃ w0 w1 w2 w3 w4 : Value, args = #[w0, w1, w2, w3, w4] := by
    have hs : args.size = 5 := by simpa [Cond.value, given_1] using g0
    obtain ⟨L⟩ := args
    match L, hs with
    | [w0, w1, w2, w3, w4], _ => exact ⟨w0, w1, w2, w3, w4, rfl⟩
  have hw := fun d (hd : d ∈ tables_1) => atoms_spec (ws := Jvm.Cond.code x code maxLocals ret :: tables_1) hat d (List.mem_cons_of_mem _ hd)
  have hfit : Fit s := fun {y c} hc i hi => by
    obtain ⟨ha, rfl⟩ := Array.getElem?_eq_some_iff.mp hc
    have q := List.all_eq_true.mp ((Array.all_eq_true_iff_forall_mem.mp hF) _ (Array.getElem_mem ha)) i (List.mem_range.mpr hi)
    simpa [Array.getElem?_eq_getElem hi] using q
  obtain ⟨i0, ei0⟩ := isL_v ga0
  obtain rfl : w0 = (.long i0) := Option.some.inj ei0
  obtain ⟨i1, ei1⟩ := is_v ga1
  obtain rfl : w1 = (.int i1) := Option.some.inj ei1
  obtain ⟨i2, ei2⟩ := is_v ga2
  obtain rfl : w2 = (.int i2) := Option.some.inj ei2
  obtain ⟨i3, ei3⟩ := is_v ga3
  obtain rfl : w3 = (.int i3) := Option.some.inj ei3
  obtain ⟨i4, ei4⟩ := is_v ga4
  obtain rfl : w4 = (.int i4) := Option.some.inj ei4
  obtain ⟨n, o, h1, h2, h3, _, L, rfl, ⟨rfl, N⟩, hq⟩ := rm0 l s _ hw tables_1 i0 i1 i2 i3 i4 s.heap s.heap.size (Nat.le_refl _) p e ha hc hk s m _ below hf ((Spec.applies_iff_loose hf).mp happ).1 ⟨rfl, State.Warmed39.refl s, rfl⟩ trivial
  refine ⟨n, _, h1, h2, h3, hpost _ _ _ _ _ _ ⟨Cond.after_iff.mpr rfl, Cond.after_iff.mpr (eq_i res_at (Term.int_eval (1)) rfl), trivial⟩ ⟨hq.1, hq.2.1, (hq.2.2.sift fun y hy => Or.inr (N y hy)).mono (by decide) (by decide)⟩⟩
theorem main_1_1 : Claimed_1_1 := comes_1 fun _ _ _ _ _ _ h hF => ⟨h.1, hF⟩
theorem main_1_2 : Claimed_1_2 := comes_1 fun _ _ _ _ _ _ h hF => ⟨h.2.1, hF⟩
end Jvm.Pilot.@@N@@
namespace Jvm.Pilot.@@N@@
open Jvm Jvm.ClassFile Sem Op Lib Jvm.Free Jvm.Stand Jvm.Pilot.@@N@@.Jvm.D
/-! MADE BY PROGRAM (witnessworld.py) out of the Statement's table words and the real class files: 9 classes; the members and pool entries that the words name. The judged class is class 1, her method 1. -/
namespace start1
open Jvm.ClassFile
def u (s : String) : CpInfo := .utf8 (stringToUtf16 s)
/-- a pool by its gaps: so many unusable entries, then the entry; so many at the end -/
def gap : Nat → List CpInfo → List CpInfo
  | 0, r => r
  | n + 1, r => .unusable :: gap n r
def poolList (es : List (Nat × CpInfo)) (last : Nat) : List CpInfo := es.foldr (fun e r => gap e.1 (e.2 :: r)) (gap last [])
def pool (es : List (Nat × CpInfo)) (last : Nat) : Array CpInfo := ⟨poolList es last⟩
def fileOf (pool : Array CpInfo) (this : Nat) (attrs : Array Attribute := #[]) (ms : Array MethodInfo := #[]) (fl : Nat := 33) (sup : Nat := 0) (ifs : Array Nat := #[]) (fds : Array FieldInfo := #[]) : ClassFile where
  minorVersion := 0
  majorVersion := 65
  constantPool := pool
  accessFlags := fl
  thisClass := this
  superClass := sup
  interfaces := ifs
  fields := fds
  methods := ms
  attributes := attrs
def plain (name : String) (sup : Option ClassId) : Class where
  name := name
  kind := .ordinary
  loader := none
  accessFlags := 33
  super := sup
  interfaces := #[]
  cf := none
  fields := #[]
  methods := #[]
  instanceTypes := #[]
  staticTypes := #[]
  resolved := #[]
  callSites := []
  init := .initialized
  statics := none
  mirror := none

def pool0 : Array CpInfo := pool [(5, u "<init>"), (0, u "()V"), (1, .class_ 10), (1, u "java/lang/Object")] 113

def k0c0 : Code := { maxStack := 0, maxLocals := 1, code := object_method_1_code, exceptionTable := #[], attributes := #[] }
def k0m0 : Method := { name := "<init>", desc := "()V", sig := { parameters := [], returnType := none }, accessFlags := 1, code := some k0c0 }
/-- java/lang/Object -/
def k0 : Class := { plain "java/lang/Object" none with
  accessFlags := 33
  interfaces := #[]
  cf := some (fileOf pool0 8 #[] #[{ accessFlags := 1, nameIndex := 5, descriptorIndex := 6, attributes := #[] }] 33 0 #[] #[])
  fields := #[]
  methods := #[k0m0]
  instanceTypes := #[]
  staticTypes := #[]
  resolved := Array.replicate 124 none
  statics := none }

def pool1 : Array CpInfo := pool [(2, .class_ 4), (1, u "java/lang/Object"), (0, u "<init>"), (0, u "()V"), (0, .methodref 8 9), (0, .class_ 10), (0, .nameAndType 11 12), (0, u "com/example/call_bundler/callbundler/http/Content"), (0, u "of"), (0, u "([B)Lcom/example/call_bundler/callbundler/http/Content;"), (0, .integer 2147483647), (0, .methodref 8 15), (0, .nameAndType 16 17), (0, u "slice"), (0, u "(II)Lcom/example/call_bundler/callbundler/http/Content;"), (0, .methodref 8 19), (0, .nameAndType 20 21), (0, u "byteAt"), (0, u "(I)B"), (0, .class_ 23), (0, u "com/example/call_bundler/callbundler/http/ContentByteAtPinLaw"), (2, u "law"), (0, u "(JIIII)Z")] 5

def k1m0 : Method := { name := "<init>", desc := "()V", sig := { parameters := [], returnType := none }, accessFlags := 1, code := none }
def k1c1 : Code := { maxStack := 5, maxLocals := 16, code := code, exceptionTable := #[], attributes := #[] }
def k1m1 : Method := { name := "law", desc := "(JIIII)Z", sig := { parameters := [.long, .int, .int, .int, .int], returnType := some .boolean }, accessFlags := 9, code := some k1c1 }
/-- com/example/call_bundler/callbundler/http/ContentByteAtPinLaw -/
def k1 : Class := { plain "com/example/call_bundler/callbundler/http/ContentByteAtPinLaw" (some 0) with
  accessFlags := 49
  interfaces := #[]
  cf := some (fileOf pool1 22 #[] #[{ accessFlags := 1, nameIndex := 5, descriptorIndex := 6, attributes := #[] }, { accessFlags := 9, nameIndex := 26, descriptorIndex := 27, attributes := #[] }] 49 2 #[] #[])
  fields := #[]
  methods := #[k1m0, k1m1]
  instanceTypes := #[]
  staticTypes := #[]
  resolved := Array.replicate 33 none
  statics := none }

def pool2 : Array CpInfo := pool [(1, .methodref 2 3), (0, .class_ 4), (0, .nameAndType 5 6), (0, u "java/lang/Object"), (0, u "<init>"), (0, u "()V"), (0, .class_ 8), (0, u "[B"), (0, .fieldref 10 11), (0, .class_ 12), (0, .nameAndType 13 14), (0, u "com/example/call_bundler/callbundler/http/Content"), (0, u "pieces"), (0, u "[[B"), (0, .fieldref 10 16), (0, .nameAndType 17 18), (0, u "shift"), (0, u "I"), (0, .fieldref 10 20), (0, .nameAndType 21 18), (0, u "mask"), (0, .fieldref 10 23), (0, .nameAndType 24 18), (0, u "offset"), (0, .fieldref 10 26), (0, .nameAndType 27 28), (0, u "slice"), (0, u "Z"), (0, .fieldref 10 30), (0, .nameAndType 31 18), (0, u "count"), (0, .fieldref 10 33), (0, .nameAndType 34 18), (0, u "length"), (0, .methodref 10 36), (0, .nameAndType 5 37), (0, u "(II)V"), (0, .methodref 10 39), (0, .nameAndType 5 40), (0, u "(Lcom/example/call_bundler/callbundler/http/Content;II)V"), (2, u "byteAt"), (0, u "(I)B"), (8, .class_ 54), (0, u "com/example/call_bundler/callbundler/http/Content$1"), (78, u "WHOLE"), (2, u "PIECE_SHIFT"), (4, u "of"), (0, u "([B)Lcom/example/call_bundler/callbundler/http/Content;"), (1, u "(II)Lcom/example/call_bundler/callbundler/http/Content;")] 21

def k2c0 : Code := { maxStack := 5, maxLocals := 3, code := prog_14_method_1_code, exceptionTable := #[], attributes := #[] }
def k2m0 : Method := { name := "<init>", desc := "(II)V", sig := { parameters := [.int, .int], returnType := none }, accessFlags := 1, code := some k2c0 }
def k2c1 : Code := { maxStack := 3, maxLocals := 4, code := prog_14_method_2_code, exceptionTable := #[], attributes := #[] }
def k2m1 : Method := { name := "<init>", desc := "(Lcom/example/call_bundler/callbundler/http/Content;II)V", sig := { parameters := [(.object "com/example/call_bundler/callbundler/http/Content"), .int, .int], returnType := none }, accessFlags := 2, code := some k2c1 }
def k2c2 : Code := { maxStack := 4, maxLocals := 2, code := prog_14_method_3_code, exceptionTable := #[], attributes := #[] }
def k2m2 : Method := { name := "of", desc := "([B)Lcom/example/call_bundler/callbundler/http/Content;", sig := { parameters := [(.array .byte)], returnType := some (.object "com/example/call_bundler/callbundler/http/Content") }, accessFlags := 9, code := some k2c2 }
def k2c3 : Code := { maxStack := 5, maxLocals := 3, code := prog_14_method_5_code, exceptionTable := #[], attributes := #[] }
def k2m3 : Method := { name := "slice", desc := "(II)Lcom/example/call_bundler/callbundler/http/Content;", sig := { parameters := [.int, .int], returnType := some (.object "com/example/call_bundler/callbundler/http/Content") }, accessFlags := 1, code := some k2c3 }
def k2c4 : Code := { maxStack := 3, maxLocals := 3, code := prog_14_method_6_code, exceptionTable := #[], attributes := #[] }
def k2m4 : Method := { name := "byteAt", desc := "(I)B", sig := { parameters := [.int], returnType := some .byte }, accessFlags := 1, code := some k2c4 }
/-- com/example/call_bundler/callbundler/http/Content -/
def k2 : Class := { plain "com/example/call_bundler/callbundler/http/Content" (some 0) with
  accessFlags := 49
  interfaces := #[]
  cf := some (fileOf pool2 10 #[.nestMembers #[53]] #[{ accessFlags := 1, nameIndex := 5, descriptorIndex := 37, attributes := #[] }, { accessFlags := 2, nameIndex := 5, descriptorIndex := 40, attributes := #[] }, { accessFlags := 9, nameIndex := 141, descriptorIndex := 142, attributes := #[] }, { accessFlags := 1, nameIndex := 27, descriptorIndex := 144, attributes := #[] }, { accessFlags := 1, nameIndex := 43, descriptorIndex := 44, attributes := #[] }] 49 2 #[] #[{ accessFlags := 24, nameIndex := 133, descriptorIndex := 18, attributes := #[] }, { accessFlags := 25, nameIndex := 136, descriptorIndex := 18, attributes := #[] }, { accessFlags := 18, nameIndex := 17, descriptorIndex := 18, attributes := #[] }, { accessFlags := 18, nameIndex := 21, descriptorIndex := 18, attributes := #[] }, { accessFlags := 18, nameIndex := 24, descriptorIndex := 18, attributes := #[] }, { accessFlags := 18, nameIndex := 27, descriptorIndex := 28, attributes := #[] }, { accessFlags := 2, nameIndex := 13, descriptorIndex := 14, attributes := #[] }, { accessFlags := 2, nameIndex := 31, descriptorIndex := 18, attributes := #[] }, { accessFlags := 2, nameIndex := 34, descriptorIndex := 18, attributes := #[] }])
  fields := #[{ name := "WHOLE", type := .int, accessFlags := 24, slot := 0, constantValue := 0 }, { name := "PIECE_SHIFT", type := .int, accessFlags := 25, slot := 1, constantValue := 0 }, { name := "shift", type := .int, accessFlags := 18, slot := 0, constantValue := 0 }, { name := "mask", type := .int, accessFlags := 18, slot := 1, constantValue := 0 }, { name := "offset", type := .int, accessFlags := 18, slot := 2, constantValue := 0 }, { name := "slice", type := .boolean, accessFlags := 18, slot := 3, constantValue := 0 }, { name := "pieces", type := (.array (.array .byte)), accessFlags := 2, slot := 4, constantValue := 0 }, { name := "count", type := .int, accessFlags := 2, slot := 5, constantValue := 0 }, { name := "length", type := .int, accessFlags := 2, slot := 6, constantValue := 0 }]
  methods := #[k2m0, k2m1, k2m2, k2m3, k2m4]
  instanceTypes := #[.int, .int, .int, .boolean, (.array (.array .byte)), .int, .int]
  staticTypes := #[.int, .int]
  resolved := Array.replicate 166 none
  statics := none }

def pool3 : Array CpInfo := pool [(1, u "java/lang/Cloneable"), (0, .class_ 1), (0, u "java/lang/Object"), (0, .class_ 3)] 3

/-- java/lang/Cloneable -/
def k3 : Class := { plain "java/lang/Cloneable" (some 0) with
  accessFlags := 1537
  interfaces := #[]
  cf := some (fileOf pool3 2 #[] #[] 1537 4 #[] #[])
  fields := #[]
  methods := #[]
  instanceTypes := #[]
  staticTypes := #[]
  resolved := Array.replicate 8 none
  statics := none }

def pool4 : Array CpInfo := pool [(1, u "java/io/Serializable"), (0, .class_ 1), (0, u "java/lang/Object"), (0, .class_ 3)] 3

/-- java/io/Serializable -/
def k4 : Class := { plain "java/io/Serializable" (some 0) with
  accessFlags := 1537
  interfaces := #[]
  cf := some (fileOf pool4 2 #[] #[] 1537 4 #[] #[])
  fields := #[]
  methods := #[]
  instanceTypes := #[]
  staticTypes := #[]
  resolved := Array.replicate 8 none
  statics := none }

/-- the primitive byte -/
def k5 : Class := { plain "byte" none with kind := .primitive 'B', accessFlags := 0x411 }
/-- [B -/
def k6 : Class := { plain "[B" (some 0) with kind := .array 5 .byte, interfaces := #[3, 4], accessFlags := 1041 }

/-- the primitive int -/
def k7 : Class := { plain "int" none with kind := .primitive 'I', accessFlags := 0x411 }
/-- [I -/
def k8 : Class := { plain "[I" (some 0) with kind := .array 7 .int, interfaces := #[3, 4], accessFlags := 1041 }

def k9 : Class := { plain "[[B" (some 0) with kind := .array 6 (.array .byte), interfaces := #[3, 4], accessFlags := 1041 }
def heap : Heap := #[]
def classes : Array Class := #[k0, k1, k2, k3, k4, k5, k6, k7, k8, k9]
def interned : List (Array UInt16 × Addr) := []
def slotsUsed : Nat := 0
def theMethod : MethodId := ⟨1, 1⟩
def args0 : Array Value := #[.long 3, .int 5, .int 1, .int 2, .int 3]
def aboutOver (below : List Frame) : State where
  vm := { classes := classes, interned := interned.toArray }
  heap := heap
  slotsUsed := slotsUsed
  threads := #[{ frames := .invoking theMethod args0 :: below }]
def below0 : List Frame := [.native { method := ⟨0, 0⟩, args := #[] }]
def about1 : State := aboutOver below0
def p0 : Program := .bare "" "" ""
def e0 : Env := launch0.env 0 0 0
theorem w_frames : about1.frames = Frame.invoking theMethod args0 :: below0 := rfl
set_option maxRecDepth 65536 in
theorem w_args : argsFit about1.vm theMethod args0 = true := by decide +kernel
set_option maxRecDepth 65536 in
theorem w_heap : heapFits about1 = true := by decide +kernel
set_option maxRecDepth 65536 in
theorem w_runnable : about1.curStatus? = some .runnable := by decide +kernel
set_option maxRecDepth 65536 in
theorem w_alone : about1.alone = true := by decide +kernel
set_option maxRecDepth 65536 in
theorem w_named : about1.methodNamed? x = some theMethod := by decide +kernel
set_option maxRecDepth 65536 in
theorem w_hears : about1.hears theMethod below0 = true := by decide +kernel
set_option maxRecDepth 65536 in
theorem w_ripe : about1.ripe theMethod args0 below0 = true := by decide +kernel
theorem w_running : about1.status = .running := rfl
set_option maxRecDepth 65536 in
theorem w_room : about1.hasRoom e0.platform room_1 = true :=
  launch0.hasRoom_least _ room_1 (by decide +kernel) (by decide +kernel) (by decide +kernel) (by decide +kernel) (by decide +kernel) (by decide +kernel)
theorem allAtoms_all (ts : List Jvm.Cond) (a : Array Jvm.Value) (st : Jvm.State) : (allAtoms ts).before a st = ts.all (fun c => c.before a st) := by
  induction ts with
  | nil => rfl
  | cons c t ih =>
    show (Jvm.Cond.and c (allAtoms t)).before a st = _
    rw [Jvm.Cond.before_and, ih, List.all_cons]
def words1 : List Jvm.Cond := Jvm.Cond.code x code maxLocals ret :: tables_1
/-- a 'code' word, met by the world's own term for the bytes: nothing is compared byte by byte -/
theorem code_word {y : MethodName} {bytes : ByteArray} {mx : Nat} {rt : Option FieldType} {a : Array Value} {s : State} {m : MethodId} {meth : Method} {c : Code} (h1 : s.methodNamed? y = some m) (h2 : s.vm.method? m = some meth) (h3 : meth.code = some c) (h4 : c.code = bytes)
    (h5 : (c.maxLocals == mx && c.exceptionTable.isEmpty && decide (c.maxStack ≤ mostOperands) && decide (meth.sig.returnType = rt) && !meth.locks && decide (parseMethodDescriptor y.desc = some meth.sig)) = true) : (Jvm.Cond.code y bytes mx rt).before a s = true := by
  simp only [Bool.and_eq_true, beq_iff_eq, Bool.not_eq_true', decide_eq_true_eq] at h5
  obtain ⟨⟨⟨⟨⟨g1, g2⟩, g3⟩, g4⟩, g5⟩, g6⟩ := h5
  simp [Cond.before, Cond.holds, Cond.value, h1, h2, h3, h4, g1, g2, g3, g4, g5, g6]
def isCode : Jvm.Cond → Bool
  | .code _ _ _ _ => true
  | _ => false
theorem all_split {L : List Jvm.Cond} {P : Jvm.Cond → Bool} (h1 : L.all (fun c => isCode c || P c) = true) (h2 : ∀ c ∈ L.filter isCode, P c = true) : L.all P = true := by
  refine List.all_eq_true.mpr fun c hc => ?_
  have h := List.all_eq_true.mp h1 c hc
  rcases Bool.eq_false_or_eq_true (isCode c) with hi | hi
  · exact h2 c (List.mem_filter.mpr ⟨hc, hi⟩)
  · simpa [hi] using h
set_option maxRecDepth 65536 in
theorem w_c0 : (Jvm.Cond.code x code maxLocals ret).before args0 about1 = true := code_word (m := ⟨1, 1⟩) (meth := k1m1) (c := k1c1) (by decide +kernel) rfl rfl rfl (by decide +kernel)
set_option maxRecDepth 65536 in
theorem w_c1 : (Jvm.Cond.code ({ cls := "com/example/call_bundler/callbundler/http/Content", name := "of", desc := "([B)Lcom/example/call_bundler/callbundler/http/Content;" } : Jvm.MethodName) prog_14_method_3_code (2 : Nat) (Option.some (Jvm.ClassFile.FieldType.object "com/example/call_bundler/callbundler/http/Content"))).before args0 about1 = true := code_word (m := ⟨2, 2⟩) (meth := k2m2) (c := k2c2) (by decide +kernel) rfl rfl rfl (by decide +kernel)
set_option maxRecDepth 65536 in
theorem w_c2 : (Jvm.Cond.code ({ cls := "com/example/call_bundler/callbundler/http/Content", name := "<init>", desc := "(II)V" } : Jvm.MethodName) prog_14_method_1_code (3 : Nat) (Option.none : Option Jvm.ClassFile.FieldType)).before args0 about1 = true := code_word (m := ⟨2, 0⟩) (meth := k2m0) (c := k2c0) (by decide +kernel) rfl rfl rfl (by decide +kernel)
set_option maxRecDepth 65536 in
theorem w_c3 : (Jvm.Cond.code ({ cls := "java/lang/Object", name := "<init>", desc := "()V" } : Jvm.MethodName) object_method_1_code (1 : Nat) (Option.none : Option Jvm.ClassFile.FieldType)).before args0 about1 = true := code_word (m := ⟨0, 0⟩) (meth := k0m0) (c := k0c0) (by decide +kernel) rfl rfl rfl (by decide +kernel)
set_option maxRecDepth 65536 in
theorem w_c4 : (Jvm.Cond.code ({ cls := "com/example/call_bundler/callbundler/http/Content", name := "slice", desc := "(II)Lcom/example/call_bundler/callbundler/http/Content;" } : Jvm.MethodName) prog_14_method_5_code (3 : Nat) (Option.some (Jvm.ClassFile.FieldType.object "com/example/call_bundler/callbundler/http/Content"))).before args0 about1 = true := code_word (m := ⟨2, 3⟩) (meth := k2m3) (c := k2c3) (by decide +kernel) rfl rfl rfl (by decide +kernel)
set_option maxRecDepth 65536 in
theorem w_c5 : (Jvm.Cond.code ({ cls := "com/example/call_bundler/callbundler/http/Content", name := "<init>", desc := "(Lcom/example/call_bundler/callbundler/http/Content;II)V" } : Jvm.MethodName) prog_14_method_2_code (4 : Nat) (Option.none : Option Jvm.ClassFile.FieldType)).before args0 about1 = true := code_word (m := ⟨2, 1⟩) (meth := k2m1) (c := k2c1) (by decide +kernel) rfl rfl rfl (by decide +kernel)
set_option maxRecDepth 65536 in
theorem w_c6 : (Jvm.Cond.code ({ cls := "com/example/call_bundler/callbundler/http/Content", name := "byteAt", desc := "(I)B" } : Jvm.MethodName) prog_14_method_6_code (3 : Nat) (Option.some Jvm.ClassFile.FieldType.byte)).before args0 about1 = true := code_word (m := ⟨2, 4⟩) (meth := k2m4) (c := k2c4) (by decide +kernel) rfl rfl rfl (by decide +kernel)
def codes1 : List Jvm.Cond := [Jvm.Cond.code x code maxLocals ret, Jvm.Cond.code ({ cls := "com/example/call_bundler/callbundler/http/Content", name := "of", desc := "([B)Lcom/example/call_bundler/callbundler/http/Content;" } : Jvm.MethodName) prog_14_method_3_code (2 : Nat) (Option.some (Jvm.ClassFile.FieldType.object "com/example/call_bundler/callbundler/http/Content")), Jvm.Cond.code ({ cls := "com/example/call_bundler/callbundler/http/Content", name := "<init>", desc := "(II)V" } : Jvm.MethodName) prog_14_method_1_code (3 : Nat) (Option.none : Option Jvm.ClassFile.FieldType), Jvm.Cond.code ({ cls := "java/lang/Object", name := "<init>", desc := "()V" } : Jvm.MethodName) object_method_1_code (1 : Nat) (Option.none : Option Jvm.ClassFile.FieldType), Jvm.Cond.code ({ cls := "com/example/call_bundler/callbundler/http/Content", name := "slice", desc := "(II)Lcom/example/call_bundler/callbundler/http/Content;" } : Jvm.MethodName) prog_14_method_5_code (3 : Nat) (Option.some (Jvm.ClassFile.FieldType.object "com/example/call_bundler/callbundler/http/Content")), Jvm.Cond.code ({ cls := "com/example/call_bundler/callbundler/http/Content", name := "<init>", desc := "(Lcom/example/call_bundler/callbundler/http/Content;II)V" } : Jvm.MethodName) prog_14_method_2_code (4 : Nat) (Option.none : Option Jvm.ClassFile.FieldType), Jvm.Cond.code ({ cls := "com/example/call_bundler/callbundler/http/Content", name := "byteAt", desc := "(I)B" } : Jvm.MethodName) prog_14_method_6_code (3 : Nat) (Option.some Jvm.ClassFile.FieldType.byte)]
set_option maxRecDepth 65536 in
theorem codes_eq : words1.filter isCode = codes1 := rfl
theorem w_codes : ∀ c ∈ words1.filter isCode, c.before args0 about1 = true := by
  rw [codes_eq]
  intro c hc
  simp only [codes1, List.mem_cons, List.not_mem_nil, or_false] at hc
  rcases hc with rfl | rfl | rfl | rfl | rfl | rfl | rfl
  · exact w_c0
  · exact w_c1
  · exact w_c2
  · exact w_c3
  · exact w_c4
  · exact w_c5
  · exact w_c6
set_option maxRecDepth 65536 in
theorem w_t1 : (words1.take 24).all (fun c => isCode c || c.before args0 about1) = true := by decide +kernel
set_option maxRecDepth 65536 in
theorem w_t2 : (words1.drop 24).all (fun c => isCode c || c.before args0 about1) = true := by decide +kernel
theorem w_tables : (allAtoms (Jvm.Cond.code x code maxLocals ret :: tables_1)).before args0 about1 = true := by
  rw [allAtoms_all]
  show words1.all (fun c => c.before args0 about1) = true
  refine all_split ?_ w_codes
  rw [← List.take_append_drop 24 words1, List.all_append, w_t1, w_t2]
  rfl
set_option maxRecDepth 65536 in
theorem w_case : (Jvm.Cond.and given_1 narrow_1).before args0 about1 = true := by decide +kernel
theorem w_applies : (headSpec (Jvm.Cond.code x code maxLocals ret :: tables_1) room_1).applies x e0.platform about1 = true :=
  (Spec.applies_iff w_frames).mpr ⟨w_running, w_runnable, w_alone, w_named, w_hears, w_ripe, w_room, w_tables⟩
theorem atStart : AtStart classFile x code maxLocals ret World_1 tables_1 room_1 Calls_1 rest_1 Pre_1 launch0 p0 e0 about1 theMethod args0 below0 :=
  ⟨lists_1, trivial, launch0.admits_env _ _ _, launch0.least_env, fairChoices_fair.cas, fairChoices_fair.clock, w_frames, w_args, w_heap, w_applies, trivial, trivial, w_case⟩
end start1
theorem witness_1 : WitnessClaimed_1 := ⟨start1.p0, start1.e0, start1.about1, start1.theMethod, start1.args0, start1.below0, start1.atStart⟩
end Jvm.Pilot.@@N@@
