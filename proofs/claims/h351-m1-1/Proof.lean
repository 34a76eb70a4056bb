import JvmDerived
import JvmDerived.Pilot.@@N@@Statement
import JvmDerived.Pilot.@@N@@Code
set_option linter.unusedVariables false
set_option linter.unusedSimpArgs false
namespace Jvm.Pilot.@@N@@
open Jvm Jvm.ClassFile Sem Op Lib Jvm.Free Jvm.Stand Jvm.LawKit Jvm.RoadKit Bundle Jvm.Pilot.@@N@@.Jvm.D
section OwnKit
variable {p : Program} {l : Launch} {e : Env} {R : Room} {s : State} {m : MethodId} {args : Array Value} {below : List Frame} {meth : Method} {c : Code} {T : State} {locs : List Loc} {cells slots ck sk : Nat} {S S' t : State} {Q : Option Value → Heap → List Loc → Prop}
/-- from S the run comes to a return of which Q is said -/
def Go (p : Program) (e : Env) (below : List Frame) (s : State) (Q : Option Value → Heap → List Loc → Prop) (ck sk : Nat) (S : State) : Prop :=
  ∃ s₂ o, Steps p.tables e below S s₂ ∧ s₂.status = .running ∧ Ended s₂ below o ∧ ∃ v L, o = .returned v ∧ Q v s₂.heap L ∧ FrameEnd s o s₂ L ck sk
theorem Go.st (h : ∀ t, Steps p.tables e below S' t → Steps p.tables e below S t) (k : Go p e below s Q ck sk S') : Go p e below s Q ck sk S := by
  obtain ⟨s₂, o, h1, r⟩ := k
  exact ⟨s₂, o, h _ h1, r⟩
theorem Go.tr (h : Steps p.tables e below S S') (k : Go p e below s Q ck sk S') : Go p e below s Q ck sk S := Go.st (fun _ q => h.trans q) k
theorem via (h : Steps p.tables e below S' t → Steps p.tables e below S t) (k : Steps p.tables e below S' t) : Steps p.tables e below S t := h k
theorem Go.retW (X : Stand p l e R s m args below meth c T locs cells slots) (hx : p.tables.exec = Jvm.exec) (hlk : meth.locks = false) {pc : Nat} {Ls : Array Slot} {w : Value} {ty : FieldType} {i : Instr} {rest : List Value} (hret : meth.sig.returnType = some ty) (hn : narrow ty w = w)
    (hi : (i = .ireturn ∧ (ty = .int ∨ ty = .boolean ∨ ty = .byte ∨ ty = .char ∨ ty = .short) ∧ ∃ z, w = .int z) ∨ (i = .lreturn ∧ ty = .long ∧ ∃ z, w = .long z) ∨ (i = .dreturn ∧ ty = .double ∧ ∃ z, w = .double z) ∨ (i = .freturn ∧ ty = .float ∧ ∃ z, w = .float z) ∨ (i = .areturn ∧ ty.isReference = true ∧ w.isRef = true))
    (hd : decode c.code pc = .ok (i, 1)) (hQ : Q (some w) T.heap locs) (hc : cells ≤ ck) (hs : slots ≤ sk) : Go p e below s Q ck sk (T.setTop (mkF m pc Ls (w :: rest))) := by
  obtain ⟨fs, hr, hrun, hended, hW, hsame⟩ := X.leave (v := some w) (fun h => by rw [hret] at h; cases h)
  exact ⟨_, _, retOut X hx hret hn hi hd hr, hrun, hended, _, _, rfl, hQ, ⟨_, rfl⟩, hW, hsame.mono hc hs⟩
theorem Go.retI (X : Stand p l e R s m args below meth c T locs cells slots) (hx : p.tables.exec = Jvm.exec) (hlk : meth.locks = false) {pc : Nat} {Ls : Array Slot} {z : Int32} {rest : List Value} (hret : meth.sig.returnType = some .int) (hd : decode c.code pc = .ok (.ireturn, 1)) (hQ : Q (some (.int z)) T.heap locs) (hc : cells ≤ ck) (hs : slots ≤ sk) : Go p e below s Q ck sk (T.setTop (mkF m pc Ls (.int z :: rest))) :=
  Go.retW X hx hlk hret rfl (Or.inl ⟨rfl, Or.inl rfl, _, rfl⟩) hd hQ hc hs
theorem Go.retJ (X : Stand p l e R s m args below meth c T locs cells slots) (hx : p.tables.exec = Jvm.exec) (hlk : meth.locks = false) {pc : Nat} {Ls : Array Slot} {z : Int64} {rest : List Value} (hret : meth.sig.returnType = some .long) (hd : decode c.code pc = .ok (.lreturn, 1)) (hQ : Q (some (.long z)) T.heap locs) (hc : cells ≤ ck) (hs : slots ≤ sk) : Go p e below s Q ck sk (T.setTop (mkF m pc Ls (.long z :: rest))) :=
  Go.retW X hx hlk hret rfl (Or.inr (Or.inl ⟨rfl, rfl, _, rfl⟩)) hd hQ hc hs
theorem Go.retA (X : Stand p l e R s m args below meth c T locs cells slots) (hx : p.tables.exec = Jvm.exec) (hlk : meth.locks = false) {pc : Nat} {Ls : Array Slot} {w : Value} {ty : FieldType} {rest : List Value} (hret : meth.sig.returnType = some ty) (ht : ty.isReference = true) (hw : w.isRef = true) (hd : decode c.code pc = .ok (.areturn, 1)) (hQ : Q (some w) T.heap locs) (hc : cells ≤ ck) (hs : slots ≤ sk) : Go p e below s Q ck sk (T.setTop (mkF m pc Ls (w :: rest))) :=
  Go.retW X hx hlk hret (by cases ty <;> first | (cases ht; done) | (cases w <;> first | rfl | cases hw)) (Or.inr (Or.inr (Or.inr (Or.inr ⟨rfl, ht, hw⟩)))) hd hQ hc hs
theorem Go.retN (X : Stand p l e R s m args below meth c T locs cells slots) (hx : p.tables.exec = Jvm.exec) (hlk : meth.locks = false) {pc : Nat} {Ls : Array Slot} {z : Int32} {t : FieldType} {rest : List Value} (hret : meth.sig.returnType = some t) (ht : t = .boolean ∨ t = .byte ∨ t = .char ∨ t = .short) (hd : decode c.code pc = .ok (.ireturn, 1)) (hQ : Q (some (.int (nar t z))) T.heap locs) (hc : cells ≤ ck) (hs : slots ≤ sk) : Go p e below s Q ck sk (T.setTop (mkF m pc Ls (.int z :: rest))) := by
  obtain ⟨fs, hr, hrun, hended, hW, hsame⟩ := X.leave (v := some (.int (nar t z))) (fun h => by rw [hret] at h; cases h)
  exact ⟨_, _, Jvm.RoadKit.retN X hx hret ht hd hr, hrun, hended, _, _, rfl, hQ, ⟨_, rfl⟩, hW, hsame.mono hc hs⟩
theorem Go.ret0 (X : Stand p l e R s m args below meth c T locs cells slots) (hx : p.tables.exec = Jvm.exec) (hlk : meth.locks = false) {pc : Nat} {Ls : Array Slot} (hret : meth.sig.returnType = none) (hd : decode c.code pc = .ok (.return_, 1)) (hQ : Q none T.heap locs) (hc : cells ≤ ck) (hs : slots ≤ sk) : Go p e below s Q ck sk (T.setTop (mkF m pc Ls [])) := by
  obtain ⟨fs, hr, hrun, hended, hW, hsame⟩ := X.leave (v := none) (fun _ => rfl)
  exact ⟨_, _, X.returnOut hx hret hd hr, hrun, hended, _, _, rfl, hQ, ⟨_, rfl⟩, hW, hsame.mono hc hs⟩
/-- what a body leaves that writes nothing -/
def PQ (w : Value) (n0 : Nat) (h0 : Heap) (v : Option Value) (h : Heap) (L : List Loc) : Prop := v = some w ∧ Fr n0 L ∧ h = h0
/-- what the law leaves -/
def LQ (n0 : Nat) (v : Option Value) (h : Heap) (L : List Loc) : Prop := v = some (.int 1) ∧ Fr n0 L
/-- the j-th of a list of ints -/
def bt (bs : List Int32) (j : Int32) : Int32 := bs.getD j.toNatClampNeg 0
theorem own_at {bs : List Int32} {c : Cell} {j : Int32} (H : Has c (bs.map .int) (.int 0)) (hin : ¬ (j < 0 ∨ c.slots.size ≤ j.toNatClampNeg)) : c.slots[j.toNatClampNeg]? = some (.int (bt bs j)) :=
  Has.at H hin (by unfold bt; simp only [List.getD, List.getElem?_map]; cases bs[j.toNatClampNeg]? <;> rfl)
/-- the j-th of a list of longs -/
def bl (bs : List Int64) (j : Int32) : Int64 := bs.getD j.toNatClampNeg 0
theorem own_atL {bs : List Int64} {c : Cell} {j : Int32} (H : Has c (bs.map .long) (.long 0)) (hin : ¬ (j < 0 ∨ c.slots.size ≤ j.toNatClampNeg)) : c.slots[j.toNatClampNeg]? = some (.long (bl bs j)) :=
  Has.at H hin (by unfold bl; simp only [List.getD, List.getElem?_map]; cases bs[j.toNatClampNeg]? <;> rfl)
theorem own_len {t : Term} {a : Addr} {cl : Cell} {n : Int32} (ev : t.eval args s none [] s = some (.ref a)) (ha : s.arrayAt? a = some cl) (h : (Cond.eq (.length t) (.int n)).value args s none s [] = some true) : cl.slots.size < 2 ^ 31 ∧ cl.slots.size.toInt32 = n := by
  by_cases q : cl.slots.size < 2 ^ 31
  · exact ⟨q, gotT (Cond.eq_ints (len_f ev ha q) (Term.int_eval n)) h⟩
  · exfalso
    simp [Cond.value, Term.eval, ev, ha, q] at h
theorem own_size {cl : Cell} {n : Int32} {k : Nat} (q : cl.slots.size < 2 ^ 31 ∧ cl.slots.size.toInt32 = n) (hk : n.toInt = k) : cl.slots.size = k := by
  have h := len_toInt q.1
  rw [q.2, hk] at h
  omega
theorem own_selp {Z : State} {az : Array Value} {y : MethodName} {n : Nat} (hZ : Z.Warmed39 s.vm) (wi : (Cond.instantiable y.cls n).before az Z = true) (wp : (Cond.privateMethod y).before az Z = true) (w : (Cond.instanceMethod y).before az Z = true) (hy : y.cls ≠ "java/lang/invoke/MethodHandle" ∧ y.cls ≠ "java/lang/invoke/VarHandle") : (Cond.selects y.cls y y).before args s = true := by
  obtain ⟨c, k, h1, h2, h3, h4, -⟩ := Cond.instantiable_spec (mvT hZ wi : (Cond.instantiable y.cls n).before args s = true)
  exact selects_self_of_private h1 h2 (Bool.or_eq_false_iff.mp h4).1 (Cond.privateMethod_at (mvP hZ wp (args := #[]))) (mvT hZ w) hy
theorem own_extK {h h' : Heap} (K : Keep h h' []) : Ext h h' := ⟨K.1, fun a c q => K.2.1 a c q (List.not_mem_nil)⟩
end OwnKit

theorem pd_0 : parseMethodDescriptor "()Z" = some ⟨[], some .boolean⟩ := by decide +kernel
theorem pd_1 : parseMethodDescriptor "()Ljava/lang/String;" = some ⟨[], some (.object "java/lang/String")⟩ := by decide +kernel
theorem pd_2 : parseMethodDescriptor "(Ljava/lang/String;I)Z" = some ⟨[(.object "java/lang/String"), .int], some .boolean⟩ := by decide +kernel
theorem pd_3 : parseMethodDescriptor "(Ljava/lang/Object;)Z" = some ⟨[(.object "java/lang/Object")], some .boolean⟩ := by decide +kernel
theorem pd_4 : parseMethodDescriptor "([B[B)Z" = some ⟨[(.array .byte), (.array .byte)], some .boolean⟩ := by decide +kernel
/-- 1 where the lists are alike -/
def own_eqI (xs ys : List Int32) : Int32 := if xs = ys then 1 else 0
theorem own_fldu {Z : State} {h : Heap} {a : Addr} {C n d : String} {v w : Value} (F : Fld Z h a C n d v) (G : Fld Z h a C n d w) : v = w := Decidable.byContradiction fun q => (Fld.ne F G q) rfl
theorem own_arvu {Z : State} {h : Heap} {b : Addr} {k k' : ClassId} {z z' : Int32} {xs ys : List Int32} (A : Arv Z h b k .byte z (xs.map .int) (.int 0)) (B : Arv Z h b k' .byte z' (ys.map .int) (.int 0)) (lx : z.toNatClampNeg = xs.length) (ly : z'.toNatClampNeg = ys.length) : xs = ys := by
  obtain ⟨c, A1, -, A3, -, A5, -⟩ := A
  obtain ⟨c', B1, -, B3, -, B5, -⟩ := B
  cases A1.1.symm.trans B1.1
  have hl : xs.length = ys.length := by omega
  refine List.ext_getElem hl fun i h1 h2 => ?_
  have q := (A5 i (by omega)).symm.trans (B5 i (by omega))
  simp only [List.getD_eq_getElem?_getD, List.getElem?_map, List.getElem?_eq_getElem h1, List.getElem?_eq_getElem h2] at q
  exact Value.int.inj (Option.some.inj q)
theorem own_zn {z : Int32} {n : Nat} (h : ¬ z < 0) (q : z.toNatClampNeg = n) : z.toInt = n := by
  rw [Int32.lt_iff_toInt_lt] at h
  simp only [Int32.reduceToInt, Int32.toNatClampNeg] at h q
  omega
theorem own_zz {z z' : Int32} (h : ¬ z < 0) (h' : ¬ z' < 0) (q : z.toNatClampNeg = z'.toNatClampNeg) : z = z' := Int32.toInt_inj.mp ((own_zn h rfl).trans (by rw [q]; exact (own_zn h' rfl).symm))
theorem own_arvn {Z : State} {h : Heap} {b : Addr} {k : ClassId} {ty : FieldType} {z : Int32} {vs : List Value} {d : Value} (A : Arv Z h b k ty z vs d) : ¬ z < 0 := by obtain ⟨c, -, -, -, q, -⟩ := A; exact q
theorem own_add1 {w : Int32} {i : Nat} (h : w.toInt = i) (hb : i < 2147483647) : (w + (1 : Int32)).toInt = (i + 1 : Nat) := by
  have q := c_iadd w 1
  simp only [Int32.reduceToInt] at q
  rw [h] at q
  have h1 := (w + (1 : Int32)).le_toInt
  have h2 := (w + (1 : Int32)).toInt_lt
  simp only [Int.reducePow, Int.reduceNeg] at h1 h2
  omega
theorem own_btg {xs : List Int32} {w : Int32} {i : Nat} (h : w.toInt = i) : bt xs w = xs.getD i 0 := by
  unfold bt; rw [show w.toNatClampNeg = i from by simp only [Int32.toNatClampNeg]; omega]
theorem own_eq1 {xs ys : List Int32} (hl : xs.length = ys.length) (h : ∀ j, j < xs.length → xs.getD j 0 = ys.getD j 0) : own_eqI xs ys = 1 := by
  unfold own_eqI
  rw [if_pos (List.ext_getElem hl fun i h1 h2 => ?_)]
  have q := h i h1
  simpa [List.getD_eq_getElem?_getD, List.getElem?_eq_getElem h1, List.getElem?_eq_getElem h2] using q
theorem own_eq0 {xs ys : List Int32} {i : Nat} (h : ¬ xs.getD i 0 = ys.getD i 0) : own_eqI xs ys = 0 := by
  unfold own_eqI; rw [if_neg fun q => h (by rw [q])]
theorem own_eql {xs ys : List Int32} (h : ¬ xs.length = ys.length) : own_eqI xs ys = 0 := by
  unfold own_eqI; rw [if_neg fun q => h (by rw [q])]
theorem own_eq01 (xs ys : List Int32) : own_eqI xs ys = 0 ∨ own_eqI xs ys = 1 := by unfold own_eqI; split; exact Or.inr rfl; exact Or.inl rfl
theorem own_ltz {w z : Int32} {i n : Nat} (h : w.toInt = i) (hz : z.toInt = n) (q : i < n) : ¬ w < 0 ∧ w < z := by
  rw [Int32.lt_iff_toInt_lt, Int32.lt_iff_toInt_lt, h, hz]; simp only [Int32.reduceToInt]; omega
theorem own_gez {w z : Int32} {i n : Nat} (h : w.toInt = i) (hz : z.toInt = n) (q : n ≤ i) : ¬ w < z := by
  rw [Int32.lt_iff_toInt_lt, h, hz]; omega
theorem d5_0 : decode jdk_43_method_13_code 0 = .ok (.aload_n 0, 1) := by decide +kernel
theorem d5_1 : decode jdk_43_method_13_code 1 = .ok (.arraylength, 1) := by decide +kernel
theorem d5_2 : decode jdk_43_method_13_code 2 = .ok (.aload_n 1, 1) := by decide +kernel
theorem d5_3 : decode jdk_43_method_13_code 3 = .ok (.arraylength, 1) := by decide +kernel
theorem d5_4 : decode jdk_43_method_13_code 4 = .ok (.if_icmp .ne 30, 3) := by decide +kernel
theorem d5_7 : decode jdk_43_method_13_code 7 = .ok (.iconst 0, 1) := by decide +kernel
theorem d5_8 : decode jdk_43_method_13_code 8 = .ok (.istore_n 2, 1) := by decide +kernel
theorem d5_9 : decode jdk_43_method_13_code 9 = .ok (.iload_n 2, 1) := by decide +kernel
theorem d5_10 : decode jdk_43_method_13_code 10 = .ok (.aload_n 0, 1) := by decide +kernel
theorem d5_11 : decode jdk_43_method_13_code 11 = .ok (.arraylength, 1) := by decide +kernel
theorem d5_12 : decode jdk_43_method_13_code 12 = .ok (.if_icmp .ge 20, 3) := by decide +kernel
theorem d5_15 : decode jdk_43_method_13_code 15 = .ok (.aload_n 0, 1) := by decide +kernel
theorem d5_16 : decode jdk_43_method_13_code 16 = .ok (.iload_n 2, 1) := by decide +kernel
theorem d5_17 : decode jdk_43_method_13_code 17 = .ok (.baload, 1) := by decide +kernel
theorem d5_18 : decode jdk_43_method_13_code 18 = .ok (.aload_n 1, 1) := by decide +kernel
theorem d5_19 : decode jdk_43_method_13_code 19 = .ok (.iload_n 2, 1) := by decide +kernel
theorem d5_20 : decode jdk_43_method_13_code 20 = .ok (.baload, 1) := by decide +kernel
theorem d5_21 : decode jdk_43_method_13_code 21 = .ok (.if_icmp .eq 5, 3) := by decide +kernel
theorem d5_24 : decode jdk_43_method_13_code 24 = .ok (.iconst 0, 1) := by decide +kernel
theorem d5_25 : decode jdk_43_method_13_code 25 = .ok (.ireturn, 1) := by decide +kernel
theorem d5_26 : decode jdk_43_method_13_code 26 = .ok (.iinc 2 1, 3) := by decide +kernel
theorem d5_29 : decode jdk_43_method_13_code 29 = .ok (.goto (-20), 3) := by decide +kernel
theorem d5_32 : decode jdk_43_method_13_code 32 = .ok (.iconst 1, 1) := by decide +kernel
theorem d5_33 : decode jdk_43_method_13_code 33 = .ok (.ireturn, 1) := by decide +kernel
theorem d5_34 : decode jdk_43_method_13_code 34 = .ok (.iconst 0, 1) := by decide +kernel
theorem d5_35 : decode jdk_43_method_13_code 35 = .ok (.ireturn, 1) := by decide +kernel
theorem pn_0 : plainName "java/lang/StringLatin1" = true := by first | (simp [plainName, overriddenIn]; done) | decide +kernel
theorem ef_5 (m : MethodId) (a0 : Addr) (a1 : Addr) : entryFrame m #[(.ref a0), (.ref a1)] 3 = mkF m 0 #[.val (.ref a0), .val (.ref a1), .unset] [] := by first | (simp [entryFrame, mkF, argsToLocals, Value.category]; done) | rfl
set_option maxRecDepth 65536 in
set_option maxHeartbeats 4000000 in
theorem loopLE {l : Launch} {Z : State} {az : Array Value} (hw : ∀ d ∈ tables_1, d.before az Z = true) {p : Program} {e : Env} {s : State} {m : MethodId} {args : Array Value} {below : List Frame} {meth : Method} {c : Code} {h0 : Heap} {n0 : Nat} (a0 a1 : Addr) (k0 k1 : ClassId) (z : Int32) (xs ys : List Int32) (hx : p.tables.exec = Jvm.exec) (hZ : Z.Warmed39 s.vm) (hby : c.code = jdk_43_method_13_code) (hml : c.maxLocals = 3) (hown : s.vm.findClass "java/lang/StringLatin1" = some m.cls) (hlk : meth.locks = false) (hret : meth.sig.returnType = some .boolean) (Z0 : n0 ≤ h0.size) (V_a0 : Arv Z h0 a0 k0 .byte z (xs.map .int) (.int 0)) (V_a1 : Arv Z h0 a1 k1 .byte z (ys.map .int) (.int 0)) (lx : z.toNatClampNeg = xs.length) (ly : z.toNatClampNeg = ys.length) :
    ∀ (k : Nat) (T0 : State) (locs : List Loc) (i : Nat) (wv : Int32), Stand p l e ({ frames := 0, cells := 0, slots := 0, locals := 0 } : Room) s m args below meth c T0 locs 0 0 → Fr n0 locs → T0.heap = h0 → (i + k = xs.length) → (wv.toInt = i) → (∀ j, j < i → xs.getD j 0 = ys.getD j 0) →  Go p e below s (PQ (.int (own_eqI xs ys)) n0 h0) 0 0 (T0.setTop (mkF m 9 #[.val (.ref a0), .val (.ref a1), .val (.int wv)] [])) := by
  intro k
  induction k with
  | zero =>
    intro T0 locs i wv X0 N0 e0 hik hwv hpre
    have hz := own_zn (own_arvn V_a0) lx
    have hn := own_gez hwv hz (by omega)
    refine Go.st (S' := T0.setTop (mkF m 10 #[.val (.ref a0), .val (.ref a1), .val (.int wv)] [(.int wv)])) (fun _ kk => XS.iloadN X0.here hx rfl (hb hby d5_9) rfl kk) ?_
    refine Go.st (S' := T0.setTop (mkF m 11 #[.val (.ref a0), .val (.ref a1), .val (.int wv)] [(.ref a0), (.int wv)])) (fun _ kk => XS.aloadN X0.here hx rfl (hb hby d5_10) rfl rfl kk) ?_
    obtain ⟨cl1, Ar1, -, S1, Ng1, -, -⟩ := (id V_a0)
    refine Go.st (S' := T0.setTop (mkF m 12 #[.val (.ref a0), .val (.ref a1), .val (.int wv)] [(.int z), (.int wv)])) (fun _ kk => X0.arraylength hx (by rw [e0]; exact Ar1.1) (State.isArrayOf_alike hZ.alike Ar1.2.1) (g := (mkF m 11 #[.val (.ref a0), .val (.ref a1), .val (.int wv)] [(.ref a0), (.int wv)])) rfl rfl (hb hby d5_11) _ (by rw [len_of S1 Ng1]; exact kk)) ?_
    refine Go.st (S' := T0.setTop (mkF m 32 #[.val (.ref a0), .val (.ref a1), .val (.int wv)] [])) (fun _ kk => XS.icmpYes X0.here hx rfl (pc0 := 12) (pc' := 32) rfl (hb hby d5_12) rfl (flt hn).2.1 (by decide) (by decide) kk) ?_
    refine Go.st (S' := T0.setTop (mkF m 33 #[.val (.ref a0), .val (.ref a1), .val (.int wv)] [(.int (1 : Int32))])) (fun _ kk => XS.iconst X0.here hx rfl (hb hby d5_32) kk) ?_
    exact Go.retN X0 hx hlk (t := .boolean) hret (by simp) (hb hby d5_33) (⟨congrArg (fun q => some (Value.int q)) (Eq.symm (show own_eqI xs ys = (1 : Int32) from own_eq1 (lx.symm.trans ly) (fun j hj => hpre j (by omega)))), N0, e0⟩) (by decide) (by decide)
  | succ k ih =>
    intro T0 locs i wv X0 N0 e0 hik hwv hpre
    have hz := own_zn (own_arvn V_a0) lx
    have hin := own_ltz hwv hz (by omega)
    refine Go.st (S' := T0.setTop (mkF m 10 #[.val (.ref a0), .val (.ref a1), .val (.int wv)] [(.int wv)])) (fun _ kk => XS.iloadN X0.here hx rfl (hb hby d5_9) rfl kk) ?_
    refine Go.st (S' := T0.setTop (mkF m 11 #[.val (.ref a0), .val (.ref a1), .val (.int wv)] [(.ref a0), (.int wv)])) (fun _ kk => XS.aloadN X0.here hx rfl (hb hby d5_10) rfl rfl kk) ?_
    obtain ⟨cl1, Ar1, -, S1, Ng1, -, -⟩ := (id V_a0)
    refine Go.st (S' := T0.setTop (mkF m 12 #[.val (.ref a0), .val (.ref a1), .val (.int wv)] [(.int z), (.int wv)])) (fun _ kk => X0.arraylength hx (by rw [e0]; exact Ar1.1) (State.isArrayOf_alike hZ.alike Ar1.2.1) (g := (mkF m 11 #[.val (.ref a0), .val (.ref a1), .val (.int wv)] [(.ref a0), (.int wv)])) rfl rfl (hb hby d5_11) _ (by rw [len_of S1 Ng1]; exact kk)) ?_
    refine Go.st (S' := T0.setTop (mkF m 15 #[.val (.ref a0), .val (.ref a1), .val (.int wv)] [])) (fun _ kk => XS.icmpNo X0.here hx rfl (hb hby d5_12) rfl (tlt hin.2).2.1 kk) ?_
    refine Go.st (S' := T0.setTop (mkF m 16 #[.val (.ref a0), .val (.ref a1), .val (.int wv)] [(.ref a0)])) (fun _ kk => XS.aloadN X0.here hx rfl (hb hby d5_15) rfl rfl kk) ?_
    refine Go.st (S' := T0.setTop (mkF m 17 #[.val (.ref a0), .val (.ref a1), .val (.int wv)] [(.int wv), (.ref a0)])) (fun _ kk => XS.iloadN X0.here hx rfl (hb hby d5_16) rfl kk) ?_
    obtain ⟨cl2, Ar2, qk2, S2, Ng2, H2, G2⟩ := (id V_a0)
    have hin2 : ¬ (wv < 0 ∨ cl2.slots.size ≤ (wv).toNatClampNeg) := inb_of S2 hin
    have hat2 : cl2.slots[(wv).toNatClampNeg]? = some (.int (bt xs wv)) := own_at H2 hin2
    refine Go.st (S' := T0.setTop (mkF m 18 #[.val (.ref a0), .val (.ref a1), .val (.int wv)] [(.int (bt xs wv))])) (fun _ kk => X0.baloadBytes hx (j := wv) (v := (.int (bt xs wv))) (by rw [e0]; exact Ar2.1) (State.isArrayOf_alike hZ.alike Ar2.2.1) Ar2.2.2 hin2 hat2 (g := (mkF m 17 #[.val (.ref a0), .val (.ref a1), .val (.int wv)] [(.int wv), (.ref a0)])) rfl rfl (hb hby d5_17) _ kk) ?_
    refine Go.st (S' := T0.setTop (mkF m 19 #[.val (.ref a0), .val (.ref a1), .val (.int wv)] [(.ref a1), (.int (bt xs wv))])) (fun _ kk => XS.aloadN X0.here hx rfl (hb hby d5_18) rfl rfl kk) ?_
    refine Go.st (S' := T0.setTop (mkF m 20 #[.val (.ref a0), .val (.ref a1), .val (.int wv)] [(.int wv), (.ref a1), (.int (bt xs wv))])) (fun _ kk => XS.iloadN X0.here hx rfl (hb hby d5_19) rfl kk) ?_
    obtain ⟨cl3, Ar3, qk3, S3, Ng3, H3, G3⟩ := (id V_a1)
    have hin3 : ¬ (wv < 0 ∨ cl3.slots.size ≤ (wv).toNatClampNeg) := inb_of S3 hin
    have hat3 : cl3.slots[(wv).toNatClampNeg]? = some (.int (bt ys wv)) := own_at H3 hin3
    refine Go.st (S' := T0.setTop (mkF m 21 #[.val (.ref a0), .val (.ref a1), .val (.int wv)] [(.int (bt ys wv)), (.int (bt xs wv))])) (fun _ kk => X0.baloadBytes hx (j := wv) (v := (.int (bt ys wv))) (by rw [e0]; exact Ar3.1) (State.isArrayOf_alike hZ.alike Ar3.2.1) Ar3.2.2 hin3 hat3 (g := (mkF m 20 #[.val (.ref a0), .val (.ref a1), .val (.int wv)] [(.int wv), (.ref a1), (.int (bt xs wv))])) rfl rfl (hb hby d5_20) _ kk) ?_
    by_cases hc4 : (bt xs wv) = (bt ys wv)
    · refine Go.st (S' := T0.setTop (mkF m 26 #[.val (.ref a0), .val (.ref a1), .val (.int wv)] [])) (fun _ kk => XS.icmpYes X0.here hx rfl (pc0 := 21) (pc' := 26) rfl (hb hby d5_21) rfl (teq hc4).1 (by decide) (by decide) kk) ?_
      refine Go.st (S' := T0.setTop (mkF m 29 #[.val (.ref a0), .val (.ref a1), .val (.int (wv + (1 : Int32)))] [])) (fun _ kk => XS.iinc X0.here hx rfl (hb hby d5_26) rfl (l' := #[.val (.ref a0), .val (.ref a1), .val (.int (wv + (1 : Int32)))]) rfl kk) ?_
      refine Go.st (S' := T0.setTop (mkF m 9 #[.val (.ref a0), .val (.ref a1), .val (.int (wv + (1 : Int32)))] [])) (fun _ kk => XS.goto X0.here hx rfl (pc0 := 29) (pc' := 9) rfl (hb hby d5_29) (by decide) (by decide) kk) ?_
      exact ih T0 _ (i + 1) _ X0 N0 e0 (by omega) (own_add1 hwv (by have := z.toInt_lt; omega)) (fun j hj => by
        by_cases q : j < i
        · exact hpre j q
        · obtain rfl : j = i := by omega
          rw [← own_btg hwv, ← own_btg hwv]; exact hc4)
    · refine Go.st (S' := T0.setTop (mkF m 24 #[.val (.ref a0), .val (.ref a1), .val (.int wv)] [])) (fun _ kk => XS.icmpNo X0.here hx rfl (hb hby d5_21) rfl (feq hc4).1 kk) ?_
      refine Go.st (S' := T0.setTop (mkF m 25 #[.val (.ref a0), .val (.ref a1), .val (.int wv)] [(.int (0 : Int32))])) (fun _ kk => XS.iconst X0.here hx rfl (hb hby d5_24) kk) ?_
      exact Go.retN X0 hx hlk (t := .boolean) hret (by simp) (hb hby d5_25) (⟨congrArg (fun q => some (Value.int q)) (Eq.symm (show own_eqI xs ys = (0 : Int32) from own_eq0 (i := i) (by rw [← own_btg hwv, ← own_btg hwv]; exact hc4))), N0, e0⟩) (by decide) (by decide)
set_option maxRecDepth 65536 in
set_option maxHeartbeats 4000000 in
theorem rmLE (l : Launch) (Z : State) (az : Array Value) (hw : ∀ d ∈ tables_1, d.before az Z = true) (ws : List Jvm.Cond) (a0 : Addr) (a1 : Addr) (k0 k1 : ClassId) (z0 z1 : Int32) (xs ys : List Int32) (h0 : Heap) (n0 : Nat) (Z0 : n0 ≤ h0.size) (V_a0 : Arv Z h0 a0 k0 .byte z0 (xs.map .int) (.int 0)) (V_a1 : Arv Z h0 a1 k1 .byte z1 (ys.map .int) (.int 0)) (lx : z0.toNatClampNeg = xs.length) (ly : z1.toNatClampNeg = ys.length) :
    MetFree l (⟨"java/lang/StringLatin1", "equals", "([B[B)Z"⟩ : MethodName) (head1 (Jvm.Cond.code (⟨"java/lang/StringLatin1", "equals", "([B[B)Z"⟩ : MethodName) jdk_43_method_13_code 3 (some .boolean) :: ws) ({ frames := 0, cells := 0, slots := 0, locals := 0 } : Room)) (fun a U => a = #[(.ref a0), (.ref a1)] ∧ Z.Warmed39 U.vm ∧ U.heap = h0) (fun _ _ _ _ _ => True) (fun _ U o U' => ∃ v L, o = .returned v ∧ (PQ (.int (own_eqI xs ys)) n0 h0) v U'.heap L ∧ FrameEnd U o U' L ({ frames := 0, cells := 0, slots := 0, locals := 0 } : Room).cells ({ frames := 0, cells := 0, slots := 0, locals := 0 } : Room).slots) := by
  refine MetFree.of_bodySF (plainFor_of_name pn_0) hisR ?_
  intro p e s m args below meth c s₁ Bd hml0 hP hK
  obtain ⟨rfl, hZ, hh⟩ := hP
  have hx := Bd.exec
  have hby := Bd.bytes
  have hlk : meth.locks = false := Bd.notSynchronized
  have hml : c.maxLocals = 3 := hml0
  have hown : s.vm.findClass "java/lang/StringLatin1" = some m.cls := findClass_of_methodNamed Bd.named
  have hnm := (name_of_methodNamed Bd.named Bd.method).1
  have X0 : Stand p l e ({ frames := 0, cells := 0, slots := 0, locals := 0 } : Room) s m #[(.ref a0), (.ref a1)] below meth c s₁ [] 0 0 := Stand.of_body Bd
  have e0 : s₁.heap = h0 := by rw [← hh, Bd.state]; rfl
  have N0 := Fr.nil n0
  show Go p e below s ((PQ (.int (own_eqI xs ys)) n0 h0)) ({ frames := 0, cells := 0, slots := 0, locals := 0 } : Room).cells ({ frames := 0, cells := 0, slots := 0, locals := 0 } : Room).slots (s₁.setTop (entryFrame m #[(.ref a0), (.ref a1)] 3))
  rw [ef_5 m a0 a1]
  refine Go.st (S' := s₁.setTop (mkF m 1 #[.val (.ref a0), .val (.ref a1), .unset] [(.ref a0)])) (fun _ kk => XS.aloadN X0.here hx rfl (hb hby d5_0) rfl rfl kk) ?_
  obtain ⟨cl1, Ar1, -, S1, Ng1, -, -⟩ := (id V_a0)
  refine Go.st (S' := s₁.setTop (mkF m 2 #[.val (.ref a0), .val (.ref a1), .unset] [(.int z0)])) (fun _ kk => X0.arraylength hx (by rw [e0]; exact Ar1.1) (State.isArrayOf_alike hZ.alike Ar1.2.1) (g := (mkF m 1 #[.val (.ref a0), .val (.ref a1), .unset] [(.ref a0)])) rfl rfl (hb hby d5_1) _ (by rw [len_of S1 Ng1]; exact kk)) ?_
  refine Go.st (S' := s₁.setTop (mkF m 3 #[.val (.ref a0), .val (.ref a1), .unset] [(.ref a1), (.int z0)])) (fun _ kk => XS.aloadN X0.here hx rfl (hb hby d5_2) rfl rfl kk) ?_
  obtain ⟨cl2, Ar2, -, S2, Ng2, -, -⟩ := (id V_a1)
  refine Go.st (S' := s₁.setTop (mkF m 4 #[.val (.ref a0), .val (.ref a1), .unset] [(.int z1), (.int z0)])) (fun _ kk => X0.arraylength hx (by rw [e0]; exact Ar2.1) (State.isArrayOf_alike hZ.alike Ar2.2.1) (g := (mkF m 3 #[.val (.ref a0), .val (.ref a1), .unset] [(.ref a1), (.int z0)])) rfl rfl (hb hby d5_3) _ (by rw [len_of S2 Ng2]; exact kk)) ?_
  by_cases hq : z0 = z1
  · refine Go.st (S' := s₁.setTop (mkF m 7 #[.val (.ref a0), .val (.ref a1), .unset] [])) (fun _ kk => XS.icmpNo X0.here hx rfl (hb hby d5_4) rfl (teq hq).2 kk) ?_
    refine Go.st (S' := s₁.setTop (mkF m 8 #[.val (.ref a0), .val (.ref a1), .unset] [(.int (0 : Int32))])) (fun _ kk => XS.iconst X0.here hx rfl (hb hby d5_7) kk) ?_
    refine Go.st (S' := s₁.setTop (mkF m 9 #[.val (.ref a0), .val (.ref a1), .val (.int (0 : Int32))] [])) (fun _ kk => XS.istoreN X0.here hx rfl (hb hby d5_8) rfl (l' := #[.val (.ref a0), .val (.ref a1), .val (.int (0 : Int32))]) rfl kk) ?_
    subst hq
    exact loopLE hw a0 a1 k0 k1 z0 xs ys hx hZ hby hml hown hlk Bd.returns Z0 V_a0 V_a1 lx ly xs.length s₁ _ 0 _ X0 N0 e0 (Nat.zero_add _) rfl (fun j hj => absurd hj (Nat.not_lt_zero j))
  · refine Go.st (S' := s₁.setTop (mkF m 34 #[.val (.ref a0), .val (.ref a1), .unset] [])) (fun _ kk => XS.icmpYes X0.here hx rfl (pc0 := 4) (pc' := 34) rfl (hb hby d5_4) rfl (feq hq).2 (by decide) (by decide) kk) ?_
    refine Go.st (S' := s₁.setTop (mkF m 35 #[.val (.ref a0), .val (.ref a1), .unset] [(.int (0 : Int32))])) (fun _ kk => XS.iconst X0.here hx rfl (hb hby d5_34) kk) ?_
    exact Go.retN X0 hx hlk (t := .boolean) Bd.returns (by simp) (hb hby d5_35) (⟨congrArg (fun q => some (Value.int q)) (Eq.symm (show own_eqI xs ys = (0 : Int32) from own_eql (fun q => hq (own_zz (own_arvn V_a0) (own_arvn V_a1) (by rw [lx, ly]; exact q))))), N0, e0⟩) (by decide) (by decide)
theorem d4_0 : decode jdk_42_method_66_code 0 = .ok (.aload_n 0, 1) := by decide +kernel
theorem d4_1 : decode jdk_42_method_66_code 1 = .ok (.aload_n 1, 1) := by decide +kernel
theorem d4_2 : decode jdk_42_method_66_code 2 = .ok (.if_acmp .ne 5, 3) := by decide +kernel
theorem d4_5 : decode jdk_42_method_66_code 5 = .ok (.iconst 1, 1) := by decide +kernel
theorem d4_6 : decode jdk_42_method_66_code 6 = .ok (.ireturn, 1) := by decide +kernel
theorem d4_7 : decode jdk_42_method_66_code 7 = .ok (.aload_n 1, 1) := by decide +kernel
theorem d4_8 : decode jdk_42_method_66_code 8 = .ok (.instanceof 10, 3) := by decide +kernel
theorem d4_11 : decode jdk_42_method_66_code 11 = .ok (.ifCond .eq 43, 3) := by decide +kernel
theorem d4_14 : decode jdk_42_method_66_code 14 = .ok (.aload_n 1, 1) := by decide +kernel
theorem d4_15 : decode jdk_42_method_66_code 15 = .ok (.checkcast 10, 3) := by decide +kernel
theorem d4_18 : decode jdk_42_method_66_code 18 = .ok (.astore_n 2, 1) := by decide +kernel
theorem d4_19 : decode jdk_42_method_66_code 19 = .ok (.getstatic 38, 3) := by decide +kernel
theorem d4_22 : decode jdk_42_method_66_code 22 = .ok (.ifCond .eq 14, 3) := by decide +kernel
theorem d4_25 : decode jdk_42_method_66_code 25 = .ok (.aload_n 0, 1) := by decide +kernel
theorem d4_26 : decode jdk_42_method_66_code 26 = .ok (.getfield 15, 3) := by decide +kernel
theorem d4_29 : decode jdk_42_method_66_code 29 = .ok (.aload_n 2, 1) := by decide +kernel
theorem d4_30 : decode jdk_42_method_66_code 30 = .ok (.getfield 15, 3) := by decide +kernel
theorem d4_33 : decode jdk_42_method_66_code 33 = .ok (.if_icmp .ne 21, 3) := by decide +kernel
theorem d4_36 : decode jdk_42_method_66_code 36 = .ok (.aload_n 0, 1) := by decide +kernel
theorem d4_37 : decode jdk_42_method_66_code 37 = .ok (.getfield 9, 3) := by decide +kernel
theorem d4_40 : decode jdk_42_method_66_code 40 = .ok (.aload_n 2, 1) := by decide +kernel
theorem d4_41 : decode jdk_42_method_66_code 41 = .ok (.getfield 9, 3) := by decide +kernel
theorem d4_44 : decode jdk_42_method_66_code 44 = .ok (.invokestatic 541, 3) := by decide +kernel
theorem d4_47 : decode jdk_42_method_66_code 47 = .ok (.ifCond .eq 7, 3) := by decide +kernel
theorem d4_50 : decode jdk_42_method_66_code 50 = .ok (.iconst 1, 1) := by decide +kernel
theorem d4_51 : decode jdk_42_method_66_code 51 = .ok (.goto 4, 3) := by decide +kernel
theorem d4_54 : decode jdk_42_method_66_code 54 = .ok (.iconst 0, 1) := by decide +kernel
theorem d4_55 : decode jdk_42_method_66_code 55 = .ok (.ireturn, 1) := by decide +kernel
theorem pn_1 : plainName "java/lang/String" = true := by first | (simp [plainName, overriddenIn]; done) | decide +kernel
theorem ef_4 (m : MethodId) (a0 : Addr) (a1 : Addr) : entryFrame m #[(.ref a0), (.ref a1)] 3 = mkF m 0 #[.val (.ref a0), .val (.ref a1), .unset] [] := by first | (simp [entryFrame, mkF, argsToLocals, Value.category]; done) | rfl
set_option maxRecDepth 65536 in
set_option maxHeartbeats 4000000 in
theorem rmSE (l : Launch) (Z : State) (az : Array Value) (hw : ∀ d ∈ tables_1, d.before az Z = true) (ws : List Jvm.Cond) (a0 : Addr) (a1 : Addr) (zc : Int32) (d0 d1 : Addr) (k0 k1 : ClassId) (z0 z1 : Int32) (xs0 xs1 : List Int32) (h0 : Heap) (n0 : Nat) (Z0 : n0 ≤ h0.size) (S_C : Sta Z h0 "java/lang/String" "COMPACT_STRINGS" "Z" (.int zc)) (hzc : ¬ zc = 0) (E_a0 : Exa Z h0 a0 "java/lang/String") (FC_a0 : Fld Z h0 a0 "java/lang/String" "coder" "B" (.int 0)) (FV_a0 : Fld Z h0 a0 "java/lang/String" "value" "[B" (.ref d0)) (V_d0 : Arv Z h0 d0 k0 .byte z0 (xs0.map .int) (.int 0)) (l0 : z0.toNatClampNeg = xs0.length) (E_a1 : Exa Z h0 a1 "java/lang/String") (FC_a1 : Fld Z h0 a1 "java/lang/String" "coder" "B" (.int 0)) (FV_a1 : Fld Z h0 a1 "java/lang/String" "value" "[B" (.ref d1)) (V_d1 : Arv Z h0 d1 k1 .byte z1 (xs1.map .int) (.int 0)) (l1 : z1.toNatClampNeg = xs1.length) :
    MetFree l (⟨"java/lang/String", "equals", "(Ljava/lang/Object;)Z"⟩ : MethodName) (head1 (Jvm.Cond.code (⟨"java/lang/String", "equals", "(Ljava/lang/Object;)Z"⟩ : MethodName) jdk_42_method_66_code 3 (some .boolean) :: ws) ({ frames := 1, cells := 0, slots := 0, locals := 14 } : Room)) (fun a U => a = #[(.ref a0), (.ref a1)] ∧ Z.Warmed39 U.vm ∧ U.heap = h0) (fun _ _ _ _ _ => True) (fun _ U o U' => ∃ v L, o = .returned v ∧ (PQ (.int (own_eqI xs0 xs1)) n0 h0) v U'.heap L ∧ FrameEnd U o U' L ({ frames := 1, cells := 0, slots := 0, locals := 14 } : Room).cells ({ frames := 1, cells := 0, slots := 0, locals := 14 } : Room).slots) := by
  refine MetFree.of_bodySF (plainFor_of_name pn_1) hisR ?_
  intro p e s m args below meth c s₁ Bd hml0 hP hK
  obtain ⟨rfl, hZ, hh⟩ := hP
  have hx := Bd.exec
  have hby := Bd.bytes
  have hlk : meth.locks = false := Bd.notSynchronized
  have hml : c.maxLocals = 3 := hml0
  have hown : s.vm.findClass "java/lang/String" = some m.cls := findClass_of_methodNamed Bd.named
  have hnm := (name_of_methodNamed Bd.named Bd.method).1
  have X0 : Stand p l e ({ frames := 1, cells := 0, slots := 0, locals := 14 } : Room) s m #[(.ref a0), (.ref a1)] below meth c s₁ [] 0 0 := Stand.of_body Bd
  have e0 : s₁.heap = h0 := by rw [← hh, Bd.state]; rfl
  have N0 := Fr.nil n0
  show Go p e below s ((PQ (.int (own_eqI xs0 xs1)) n0 h0)) ({ frames := 1, cells := 0, slots := 0, locals := 14 } : Room).cells ({ frames := 1, cells := 0, slots := 0, locals := 14 } : Room).slots (s₁.setTop (entryFrame m #[(.ref a0), (.ref a1)] 3))
  rw [ef_4 m a0 a1]
  refine Go.st (S' := s₁.setTop (mkF m 1 #[.val (.ref a0), .val (.ref a1), .unset] [(.ref a0)])) (fun _ kk => XS.aloadN X0.here hx rfl (hb hby d4_0) rfl rfl kk) ?_
  refine Go.st (S' := s₁.setTop (mkF m 2 #[.val (.ref a0), .val (.ref a1), .unset] [(.ref a1), (.ref a0)])) (fun _ kk => XS.aloadN X0.here hx rfl (hb hby d4_1) rfl rfl kk) ?_
  by_cases hq : a0 = a1
  · subst hq
    have hd : d0 = d1 := Value.ref.inj (own_fldu FV_a0 FV_a1)
    subst hd
    have hxy := own_arvu V_d0 V_d1 l0 l1
    refine Go.st (S' := s₁.setTop (mkF m 5 #[.val (.ref a0), .val (.ref a0), .unset] [])) (fun _ kk => Jvm.RoadKit.acmp (g := (mkF m 2 #[.val (.ref a0), .val (.ref a0), .unset] [(.ref a0), (.ref a0)])) X0 hx rfl rfl rfl (pc0 := 2) (pc' := 5) (same := true) rfl (hb hby d4_2) rfl (decide_eq_true rfl) (by decide) (by decide) kk) ?_
    refine Go.st (S' := s₁.setTop (mkF m 6 #[.val (.ref a0), .val (.ref a0), .unset] [(.int (1 : Int32))])) (fun _ kk => XS.iconst X0.here hx rfl (hb hby d4_5) kk) ?_
    exact Go.retN X0 hx hlk (t := .boolean) Bd.returns (by simp) (hb hby d4_6) (⟨congrArg (fun q => some (Value.int q)) (Eq.symm (show own_eqI xs0 xs1 = (1 : Int32) from if_pos hxy)), N0, e0⟩) (by decide) (by decide)
  · refine Go.st (S' := s₁.setTop (mkF m 7 #[.val (.ref a0), .val (.ref a1), .unset] [])) (fun _ kk => Jvm.RoadKit.acmp (g := (mkF m 2 #[.val (.ref a0), .val (.ref a1), .unset] [(.ref a1), (.ref a0)])) X0 hx rfl rfl rfl (pc0 := 2) (pc' := 7) (same := false) rfl (hb hby d4_2) rfl (decide_eq_false fun q => hq (Value.ref.inj q)) (by decide) (by decide) kk) ?_
    refine Go.st (S' := s₁.setTop (mkF m 8 #[.val (.ref a0), .val (.ref a1), .unset] [(.ref a1)])) (fun _ kk => XS.aloadN X0.here hx rfl (hb hby d4_7) rfl rfl kk) ?_
    obtain ⟨T1, X1, e1, st1⟩ := instY X0 hx hZ hown (hw _ (List.mem_of_getElem? (i := 34) rfl)) e0 (Ins.self E_a1) (g := (mkF m 8 #[.val (.ref a0), .val (.ref a1), .unset] [(.ref a1)])) rfl rfl (hb hby d4_8)
    refine Go.st (S' := T1.setTop (mkF m 11 #[.val (.ref a0), .val (.ref a1), .unset] [(.int (1 : Int32))])) st1 ?_
    refine Go.st (S' := T1.setTop (mkF m 14 #[.val (.ref a0), .val (.ref a1), .unset] [])) (fun _ kk => XS.ifNo X1.here hx rfl (hb hby d4_11) rfl ((if0 _ _).trans (feq (by decide : ¬ ((1 : Int32) = (0 : Int32)))).1) kk) ?_
    refine Go.st (S' := T1.setTop (mkF m 15 #[.val (.ref a0), .val (.ref a1), .unset] [(.ref a1)])) (fun _ kk => XS.aloadN X1.here hx rfl (hb hby d4_14) rfl rfl kk) ?_
    obtain ⟨T2, X2, e2, st2⟩ := castY X1 hx hZ hown (hw _ (List.mem_of_getElem? (i := 34) rfl)) e1 (Ins.self E_a1) (g := (mkF m 15 #[.val (.ref a0), .val (.ref a1), .unset] [(.ref a1)])) rfl rfl (hb hby d4_15)
    refine Go.st (S' := T2.setTop (mkF m 18 #[.val (.ref a0), .val (.ref a1), .unset] [(.ref a1)])) st2 ?_
    refine Go.st (S' := T2.setTop (mkF m 19 #[.val (.ref a0), .val (.ref a1), .val (.ref a1)] [])) (fun _ kk => XS.astoreN X2.here hx rfl (hb hby d4_18) rfl rfl (l' := #[.val (.ref a0), .val (.ref a1), .val (.ref a1)]) rfl kk) ?_
    obtain ⟨T3, X3, e3, st3⟩ := getS2 X2 hx hZ hown (host := "") (Or.inl (hw _ (List.mem_of_getElem? (i := 36) rfl))) Via.refl e2 S_C (g := (mkF m 19 #[.val (.ref a0), .val (.ref a1), .val (.ref a1)] [])) rfl (hb hby d4_19)
    refine Go.st (S' := T3.setTop (mkF m 22 #[.val (.ref a0), .val (.ref a1), .val (.ref a1)] [(.int zc)])) st3 ?_
    refine Go.st (S' := T3.setTop (mkF m 25 #[.val (.ref a0), .val (.ref a1), .val (.ref a1)] [])) (fun _ kk => XS.ifNo X3.here hx rfl (hb hby d4_22) rfl ((if0 _ _).trans (feq hzc).1) kk) ?_
    refine Go.st (S' := T3.setTop (mkF m 26 #[.val (.ref a0), .val (.ref a1), .val (.ref a1)] [(.ref a0)])) (fun _ kk => XS.aloadN X3.here hx rfl (hb hby d4_25) rfl rfl kk) ?_
    obtain ⟨T4, X4, e4, st4⟩ := getF X3 hx hZ hown (host := "") (Or.inl (hw _ (List.mem_of_getElem? (i := 37) rfl))) Via.refl e3 FC_a0 (g := (mkF m 26 #[.val (.ref a0), .val (.ref a1), .val (.ref a1)] [(.ref a0)])) rfl rfl (hb hby d4_26)
    refine Go.st (S' := T4.setTop (mkF m 29 #[.val (.ref a0), .val (.ref a1), .val (.ref a1)] [(.int (0 : Int32))])) st4 ?_
    refine Go.st (S' := T4.setTop (mkF m 30 #[.val (.ref a0), .val (.ref a1), .val (.ref a1)] [(.ref a1), (.int (0 : Int32))])) (fun _ kk => XS.aloadN X4.here hx rfl (hb hby d4_29) rfl rfl kk) ?_
    obtain ⟨T5, X5, e5, st5⟩ := getF X4 hx hZ hown (host := "") (Or.inl (hw _ (List.mem_of_getElem? (i := 37) rfl))) Via.refl e4 FC_a1 (g := (mkF m 30 #[.val (.ref a0), .val (.ref a1), .val (.ref a1)] [(.ref a1), (.int (0 : Int32))])) rfl rfl (hb hby d4_30)
    refine Go.st (S' := T5.setTop (mkF m 33 #[.val (.ref a0), .val (.ref a1), .val (.ref a1)] [(.int (0 : Int32)), (.int (0 : Int32))])) st5 ?_
    refine Go.st (S' := T5.setTop (mkF m 36 #[.val (.ref a0), .val (.ref a1), .val (.ref a1)] [])) (fun _ kk => XS.icmpNo X5.here hx rfl (hb hby d4_33) rfl (teq (by decide : (0 : Int32) = (0 : Int32))).2 kk) ?_
    refine Go.st (S' := T5.setTop (mkF m 37 #[.val (.ref a0), .val (.ref a1), .val (.ref a1)] [(.ref a0)])) (fun _ kk => XS.aloadN X5.here hx rfl (hb hby d4_36) rfl rfl kk) ?_
    obtain ⟨T6, X6, e6, st6⟩ := getF X5 hx hZ hown (host := "") (Or.inl (hw _ (List.mem_of_getElem? (i := 38) rfl))) Via.refl e5 FV_a0 (g := (mkF m 37 #[.val (.ref a0), .val (.ref a1), .val (.ref a1)] [(.ref a0)])) rfl rfl (hb hby d4_37)
    refine Go.st (S' := T6.setTop (mkF m 40 #[.val (.ref a0), .val (.ref a1), .val (.ref a1)] [(.ref d0)])) st6 ?_
    refine Go.st (S' := T6.setTop (mkF m 41 #[.val (.ref a0), .val (.ref a1), .val (.ref a1)] [(.ref a1), (.ref d0)])) (fun _ kk => XS.aloadN X6.here hx rfl (hb hby d4_40) rfl rfl kk) ?_
    obtain ⟨T7, X7, e7, st7⟩ := getF X6 hx hZ hown (host := "") (Or.inl (hw _ (List.mem_of_getElem? (i := 38) rfl))) Via.refl e6 FV_a1 (g := (mkF m 41 #[.val (.ref a0), .val (.ref a1), .val (.ref a1)] [(.ref a1), (.ref d0)])) rfl rfl (hb hby d4_41)
    refine Go.st (S' := T7.setTop (mkF m 44 #[.val (.ref a0), .val (.ref a1), .val (.ref a1)] [(.ref d1), (.ref d0)])) st7 ?_
    obtain ⟨_, _, ⟨T8, L8, k8, n8⟩, -, X8, ⟨Lc8, hQ8, l8, y8, z8⟩, st8⟩ := Jvm.LawKit.callS X7 hx (y := (⟨"java/lang/StringLatin1", "equals", "([B[B)Z"⟩ : MethodName)) hown (mvT hZ (hw _ (List.mem_of_getElem? (i := 39) rfl))) (mvT hZ (hw _ (List.mem_of_getElem? (i := 40) rfl))) (mvT hZ (hw _ (List.mem_of_getElem? (i := 41) rfl))) (mvT hZ (hw _ (List.mem_of_getElem? (i := 42) rfl))) (by decide) (backOf (W := 0) (rmLE l Z az hw [] d0 d1 k0 k1 z0 z1 xs0 xs1 h0 n0 Z0 V_d0 V_d1 l0 l1) hZ (hw _ (List.mem_of_getElem? (i := 42) rfl)) (hw _ (List.mem_of_getElem? (i := 41) rfl)) (by decide) (by decide)) (g := (mkF m 44 #[.val (.ref a0), .val (.ref a1), .val (.ref a1)] [(.ref d1), (.ref d0)])) rfl (by rw [hml]; rfl) (argsL := [(.ref d0), (.ref d1)]) (rest := []) (lenOf pd_4 rfl) rfl (by show 2 * 0 + _ ≤ _; exact Nat.le_of_eq rfl) (hb hby d4_44) (fun _ _ => ⟨rfl, e7, (by decide : 0 + 0 ≤ _), (by decide : 0 + 0 ≤ _)⟩)
    dsimp only [Pt.U, Pt.locs, Pt.cells, Pt.slots] at X8 l8 y8 z8 st8 hQ8
    subst l8 y8 z8
    obtain ⟨hv8, N8q, e8⟩ := hQ8
    subst hv8
    have N8 := Fr.app N0 N8q
    refine Go.st (S' := T8.setTop (mkF m 47 #[.val (.ref a0), .val (.ref a1), .val (.ref a1)] [(.int (own_eqI xs0 xs1))])) st8 ?_
    by_cases hc9 : (own_eqI xs0 xs1) = (0 : Int32)
    · refine Go.st (S' := T8.setTop (mkF m 54 #[.val (.ref a0), .val (.ref a1), .val (.ref a1)] [])) (fun _ kk => XS.ifYes X8.here hx rfl (pc0 := 47) (pc' := 54) rfl (hb hby d4_47) rfl ((if0 _ _).trans (teq hc9).1) (by decide) (by decide) kk) ?_
      refine Go.st (S' := T8.setTop (mkF m 55 #[.val (.ref a0), .val (.ref a1), .val (.ref a1)] [(.int (0 : Int32))])) (fun _ kk => XS.iconst X8.here hx rfl (hb hby d4_54) kk) ?_
      exact Go.retN X8 hx hlk (t := .boolean) Bd.returns (by simp) (hb hby d4_55) (⟨congrArg (fun q => some (Value.int q)) (Eq.symm (show own_eqI xs0 xs1 = (0 : Int32) from hc9)), N8, e8⟩) (by decide) (by decide)
    · refine Go.st (S' := T8.setTop (mkF m 50 #[.val (.ref a0), .val (.ref a1), .val (.ref a1)] [])) (fun _ kk => XS.ifNo X8.here hx rfl (hb hby d4_47) rfl ((if0 _ _).trans (feq hc9).1) kk) ?_
      refine Go.st (S' := T8.setTop (mkF m 51 #[.val (.ref a0), .val (.ref a1), .val (.ref a1)] [(.int (1 : Int32))])) (fun _ kk => XS.iconst X8.here hx rfl (hb hby d4_50) kk) ?_
      refine Go.st (S' := T8.setTop (mkF m 55 #[.val (.ref a0), .val (.ref a1), .val (.ref a1)] [(.int (1 : Int32))])) (fun _ kk => XS.goto X8.here hx rfl (pc0 := 51) (pc' := 55) rfl (hb hby d4_51) (by decide) (by decide) kk) ?_
      exact Go.retN X8 hx hlk (t := .boolean) Bd.returns (by simp) (hb hby d4_55) (⟨congrArg (fun q => some (Value.int q)) (Eq.symm (show own_eqI xs0 xs1 = (1 : Int32) from (own_eq01 xs0 xs1).resolve_left hc9)), N8, e8⟩) (by decide) (by decide)
section OwnWide
variable {p : Program} {l : Launch} {e : Env} {R : Room} {s : State} {m : MethodId} {args : Array Value} {below : List Frame} {meth : Method} {c : Code} {T : State} {locs : List Loc} {cells slots ck sk : Nat} {S S' t : State} {Q : Option Value → Heap → Vm → List Loc → Prop} {Z : State} {az : Array Value} {h : Heap} {vm0 vm1 : Vm}
/-- from S the run comes to a return of which Q is said; texts may have been booked meanwhile -/
def GoW (p : Program) (e : Env) (below : List Frame) (s : State) (Q : Option Value → Heap → Vm → List Loc → Prop) (ck sk : Nat) (S : State) : Prop :=
  ∃ s₂ o, Steps p.tables e below S s₂ ∧ s₂.status = .running ∧ Ended s₂ below o ∧ ∃ v L, o = .returned v ∧ Q v s₂.heap s₂.vm L ∧ ReturnedEndW s o s₂ L ck sk
theorem GoW.st (h : ∀ t, Steps p.tables e below S' t → Steps p.tables e below S t) (k : GoW p e below s Q ck sk S') : GoW p e below s Q ck sk S := by
  obtain ⟨s₂, o, h1, r⟩ := k
  exact ⟨s₂, o, h _ h1, r⟩
theorem GoW.tr (h : Steps p.tables e below S S') (k : GoW p e below s Q ck sk S') : GoW p e below s Q ck sk S := GoW.st (fun _ q => h.trans q) k
theorem own_endW {t : State} {o : Outcome} {L : List Loc} {k n k' n' : Nat} (h : ReturnedEndW s o t L k n) (hk : k ≤ k') (hn : n ≤ n') : ReturnedEndW s o t L k' n' := ⟨h.1, h.2.1, h.2.2.1, h.2.2.2.mono hk hn⟩
theorem GoW.retW {n : Nat} (X : Stand p l e R (s.setVm vm0) m args below meth c T locs cells slots) (hx : p.tables.exec = Jvm.exec) (hlk : meth.locks = false) (hS : s.Since vm0 n) (hk : n ≤ T.heap.size) {pc : Nat} {Ls : Array Slot} {w : Value} {ty : FieldType} {i : Instr} {rest : List Value} (hret : meth.sig.returnType = some ty) (hn : narrow ty w = w)
    (hi : (i = .ireturn ∧ (ty = .int ∨ ty = .boolean ∨ ty = .byte ∨ ty = .char ∨ ty = .short) ∧ ∃ z, w = .int z) ∨ (i = .lreturn ∧ ty = .long ∧ ∃ z, w = .long z) ∨ (i = .dreturn ∧ ty = .double ∧ ∃ z, w = .double z) ∨ (i = .freturn ∧ ty = .float ∧ ∃ z, w = .float z) ∨ (i = .areturn ∧ ty.isReference = true ∧ w.isRef = true))
    (hd : decode c.code pc = .ok (i, 1)) (hQ : Q (some w) T.heap T.vm locs) (hc : cells ≤ ck) (hs : slots ≤ sk) : GoW p e below s Q ck sk (T.setTop (mkF m pc Ls (w :: rest))) := by
  obtain ⟨fs, hr, hrun, hended, hW⟩ := X.leaveW hS hk (v := some w) (fun h => by rw [hret] at h; cases h)
  exact ⟨_, _, retOut X hx hret hn hi hd hr, hrun, hended, _, _, rfl, hQ, own_endW hW hc hs⟩
theorem GoW.retI {n : Nat} (X : Stand p l e R (s.setVm vm0) m args below meth c T locs cells slots) (hx : p.tables.exec = Jvm.exec) (hlk : meth.locks = false) (hS : s.Since vm0 n) (hk : n ≤ T.heap.size) {pc : Nat} {Ls : Array Slot} {z : Int32} {rest : List Value} (hret : meth.sig.returnType = some .int) (hd : decode c.code pc = .ok (.ireturn, 1)) (hQ : Q (some (.int z)) T.heap T.vm locs) (hc : cells ≤ ck) (hs : slots ≤ sk) : GoW p e below s Q ck sk (T.setTop (mkF m pc Ls (.int z :: rest))) :=
  GoW.retW X hx hlk hS hk hret rfl (Or.inl ⟨rfl, Or.inl rfl, _, rfl⟩) hd hQ hc hs
theorem GoW.retJ {n : Nat} (X : Stand p l e R (s.setVm vm0) m args below meth c T locs cells slots) (hx : p.tables.exec = Jvm.exec) (hlk : meth.locks = false) (hS : s.Since vm0 n) (hk : n ≤ T.heap.size) {pc : Nat} {Ls : Array Slot} {z : Int64} {rest : List Value} (hret : meth.sig.returnType = some .long) (hd : decode c.code pc = .ok (.lreturn, 1)) (hQ : Q (some (.long z)) T.heap T.vm locs) (hc : cells ≤ ck) (hs : slots ≤ sk) : GoW p e below s Q ck sk (T.setTop (mkF m pc Ls (.long z :: rest))) :=
  GoW.retW X hx hlk hS hk hret rfl (Or.inr (Or.inl ⟨rfl, rfl, _, rfl⟩)) hd hQ hc hs
theorem GoW.retA {n : Nat} (X : Stand p l e R (s.setVm vm0) m args below meth c T locs cells slots) (hx : p.tables.exec = Jvm.exec) (hlk : meth.locks = false) (hS : s.Since vm0 n) (hk : n ≤ T.heap.size) {pc : Nat} {Ls : Array Slot} {w : Value} {ty : FieldType} {rest : List Value} (hret : meth.sig.returnType = some ty) (ht : ty.isReference = true) (hw : w.isRef = true) (hd : decode c.code pc = .ok (.areturn, 1)) (hQ : Q (some w) T.heap T.vm locs) (hc : cells ≤ ck) (hs : slots ≤ sk) : GoW p e below s Q ck sk (T.setTop (mkF m pc Ls (w :: rest))) :=
  GoW.retW X hx hlk hS hk hret (by cases ty <;> first | (cases ht; done) | (cases w <;> first | rfl | cases hw)) (Or.inr (Or.inr (Or.inr (Or.inr ⟨rfl, ht, hw⟩)))) hd hQ hc hs
theorem GoW.retN {n : Nat} (X : Stand p l e R (s.setVm vm0) m args below meth c T locs cells slots) (hx : p.tables.exec = Jvm.exec) (hlk : meth.locks = false) (hS : s.Since vm0 n) (hk : n ≤ T.heap.size) {pc : Nat} {Ls : Array Slot} {z : Int32} {t : FieldType} {rest : List Value} (hret : meth.sig.returnType = some t) (ht : t = .boolean ∨ t = .byte ∨ t = .char ∨ t = .short) (hd : decode c.code pc = .ok (.ireturn, 1)) (hQ : Q (some (.int (nar t z))) T.heap T.vm locs) (hc : cells ≤ ck) (hs : slots ≤ sk) : GoW p e below s Q ck sk (T.setTop (mkF m pc Ls (.int z :: rest))) := by
  obtain ⟨fs, hr, hrun, hended, hW⟩ := X.leaveW hS hk (v := some (.int (nar t z))) (fun h => by rw [hret] at h; cases h)
  exact ⟨_, _, Jvm.RoadKit.retN X hx hret ht hd hr, hrun, hended, _, _, rfl, hQ, own_endW hW hc hs⟩
theorem GoW.ret0 {n : Nat} (X : Stand p l e R (s.setVm vm0) m args below meth c T locs cells slots) (hx : p.tables.exec = Jvm.exec) (hlk : meth.locks = false) (hS : s.Since vm0 n) (hk : n ≤ T.heap.size) {pc : Nat} {Ls : Array Slot} (hret : meth.sig.returnType = none) (hd : decode c.code pc = .ok (.return_, 1)) (hQ : Q none T.heap T.vm locs) (hc : cells ≤ ck) (hs : slots ≤ sk) : GoW p e below s Q ck sk (T.setTop (mkF m pc Ls [])) := by
  obtain ⟨fs, hr, hrun, hended, hW⟩ := X.leaveW hS hk (v := none) (fun _ => rfl)
  exact ⟨_, _, X.returnOut hx hret hd hr, hrun, hended, _, _, rfl, hQ, own_endW hW hc hs⟩
theorem own_backS {y : MethodName} {bytes : ByteArray} {maxL : Nat} {ret : Option FieldType} {rm : Room} {len W : Nat} {as' : Array Value} {P : Vm → Prop}
    (hM : MetFree l y (head1 [Cond.code y bytes maxL ret] rm) (fun a U => a = as' ∧ Z.Warmed39 U.vm ∧ U.heap = h ∧ P U.vm) (fun _ _ _ _ _ => True) (fun _ U o U' => ∃ v L, o = .returned v ∧ Q v U'.heap U'.vm L ∧ ReturnedEndW U o U' L rm.cells rm.slots))
    (hZ : Z.Warmed39 s.vm) (wc : (Cond.code y bytes maxL ret).before az Z = true) (wz : (Cond.initialized y.cls).before az Z = true) (hf : rm.frames + 1 ≤ R.frames) (hl : W + (maxL + 11) + rm.locals ≤ R.locals) :
    BackS l R p e below s args y len W (fun A a => a = as' ∧ A.U.heap = h ∧ P A.U.vm ∧ A.cells + rm.cells ≤ R.cells ∧ A.slots + rm.slots ≤ R.slots)
      (fun A _ v B => ∃ L, Q v B.U.heap B.U.vm L ∧ B.locs = A.locs ++ L ∧ B.cells = A.cells + rm.cells ∧ B.slots = A.slots + rm.slots) :=
  BackS.of_freeW (bytes := bytes) (maxL := maxL) (ret := ret) (E := fun _ _ o t L k n => k = rm.cells ∧ n = rm.slots ∧ ∃ v, o = .returned v ∧ Q v t.heap t.vm L) hM hf hl
    (fun m meth c A a Y hp => have hU : Z.Warmed39 A.U.vm := wtrans hZ Y.warmed
      ⟨by show (Cond.and _ .tt).before a A.U = true; rw [Cond.before_and, mv hU wc]; rfl, mv hU wc, mv hU wz, hp.2.2.2.1, hp.2.2.2.2⟩)
    (fun m meth c A a g mk Y hp => ⟨hp.1, wtrans hZ Y.warmed, hp.2.1, hp.2.2.1⟩) (fun _ _ _ _ _ _ _ _ _ => trivial)
    (fun _ _ _ _ ⟨v, L, h1, h2, h3⟩ => ⟨L, _, _, h3, rfl, rfl, v, h1, h2⟩)
    (fun m meth c A a g mk v t L k n Y hp _ _ ⟨e1, e2, v', e3, e4⟩ => by cases e3; subst e1 e2; exact ⟨L, e4, rfl, rfl, rfl⟩)
theorem own_ib {Ts : List String} (I : IB Z vm0 Ts) (hw : (s.setVm vm0).WarmedH vm1) : IB Z vm1 Ts := by
  obtain ⟨more, e, r⟩ := I
  exact ⟨more, (hw.interned_eq).trans e, r⟩
/-- the entry of the pool holds the object a -/
def LitV (Z : State) (vm : Vm) (own : String) (index : Nat) (a : Addr) : Prop := Lit (Z.setVm vm) own index a
theorem LitV.stays {own : String} {index : Nat} {a : Addr} (L : LitV Z vm0 own index a) (hw : (s.setVm vm0).Warmed39 vm1) : LitV Z vm1 own index a := Lit.stays (s := s) (vm0 := vm0) L hw
theorem own_frm {n k : Nat} {L : List Loc} (N : Fr n L) (h : k ≤ n) : Fr k L := fun y hy => Nat.le_trans h (N y hy)
theorem own_keepOld {n : Nat} (O : Old Z n h) : ∀ (b : Addr) (cl : Cell), Z.heap[b]? = some cl → h[b]? = some cl := O.2.2
theorem own_sinceM {n n' : Nat} (h : s.Since vm0 n) (q : n ≤ n') : s.Since vm0 n' := ⟨h.1, fun j p hj hp => ⟨(h.2 j p hj hp).1, Nat.lt_of_lt_of_le (h.2 j p hj hp).2 q⟩⟩
theorem own_chat {EL : List (String × Nat)} (hZ : Z.Warmed39 vm0) (hq : (s.setVm vm0).WarmedH vm1) (w : EW Z az EL) (H : CHv Z EL vm0 h) : CHr Z EL vm0 h vm1 h := by
  have q := CHv.later (h' := h) hZ (hW := (show (Wst Z vm0 h).Warmed39 vm1 from hq.wide)) w ⟨Nat.le_refl _, fun _ _ q => q⟩ (Or.inl hq.interned_eq) H
  exact ⟨q.1, Nat.le_refl _, q.2⟩
theorem own_hk {n : Nat} (eT : T.heap = h) (q : n ≤ h.size) : n ≤ T.heap.size := by rw [eT]; exact q
theorem own_extk {h' : Heap} (K : Keep h h' []) : Ext h h' := ⟨K.1, fun a c q => K.2.1 a c q (List.not_mem_nil)⟩
/-- what a law leaves -/
def LQW (n0 : Nat) (v : Option Value) (h : Heap) (vm : Vm) (L : List Loc) : Prop := v = some (.int 1) ∧ Fr n0 L
end OwnWide
theorem own_EW {Z : State} {az : Array Value} (hw : ∀ d ∈ tables_1, d.before az Z = true) : EW Z az consts_1 := (EW.cons (text := "=") (hw _ (List.mem_of_getElem? (i := 21) rfl)) (by decide) (EW.cons (text := "<>") (hw _ (List.mem_of_getElem? (i := 47) rfl)) (by decide) (EW.cons (text := "<") (hw _ (List.mem_of_getElem? (i := 48) rfl)) (by decide) (EW.cons (text := "<=") (hw _ (List.mem_of_getElem? (i := 49) rfl)) (by decide) (EW.cons (text := ">") (hw _ (List.mem_of_getElem? (i := 55) rfl)) (by decide) (EW.cons (text := ">=") (hw _ (List.mem_of_getElem? (i := 56) rfl)) (by decide) EW.nil))))))
theorem own_wS {Z : State} {az : Array Value} (hw : ∀ d ∈ tables_1, d.before az Z = true) : ∀ d ∈ Bundle.stringAtoms, d.before az Z = true := by
  intro d hd
  simp only [Bundle.stringAtoms, Bundle.sN, List.mem_cons, List.not_mem_nil, or_false] at hd
  rcases hd with rfl | rfl | rfl | rfl | rfl | rfl | rfl
  · exact (hw _ (List.mem_of_getElem? (i := 22) rfl))
  · exact (hw _ (List.mem_of_getElem? (i := 23) rfl))
  · exact (hw _ (List.mem_of_getElem? (i := 24) rfl))
  · exact (hw _ (List.mem_of_getElem? (i := 25) rfl))
  · exact (hw _ (List.mem_of_getElem? (i := 26) rfl))
  · exact (hw _ (List.mem_of_getElem? (i := 27) rfl))
  · exact (hw _ (List.mem_of_getElem? (i := 28) rfl))
theorem d2_0 : decode prog_3_method_4_code 0 = .ok (.aload_n 0, 1) := by decide +kernel
theorem d2_1 : decode prog_3_method_4_code 1 = .ok (.getfield 41, 3) := by decide +kernel
theorem d2_4 : decode prog_3_method_4_code 4 = .ok (.areturn, 1) := by decide +kernel
theorem pn_2 : plainName "com/example/winj/winj/storage/Comparison" = true := by first | (simp [plainName, overriddenIn]; done) | decide +kernel
theorem ef_2 (m : MethodId) (a0 : Addr) : entryFrame m #[(.ref a0)] 1 = mkF m 0 #[.val (.ref a0)] [] := by first | (simp [entryFrame, mkF, argsToLocals, Value.category]; done) | rfl
set_option maxRecDepth 65536 in
set_option maxHeartbeats 4000000 in
theorem rmOp (l : Launch) (Z : State) (az : Array Value) (hw : ∀ d ∈ tables_1, d.before az Z = true) (ws : List Jvm.Cond) (a0 : Addr) (oo : Addr) (h0 : Heap) (n0 : Nat) (Z0 : n0 ≤ h0.size) (F_o : Fld Z h0 a0 "com/example/winj/winj/storage/Comparison" "operator" "Ljava/lang/String;" (.ref oo)) :
    MetFree l (⟨"com/example/winj/winj/storage/Comparison", "operator", "()Ljava/lang/String;"⟩ : MethodName) (head1 (Jvm.Cond.code (⟨"com/example/winj/winj/storage/Comparison", "operator", "()Ljava/lang/String;"⟩ : MethodName) prog_3_method_4_code 1 (some (.object "java/lang/String")) :: ws) ({ frames := 0, cells := 0, slots := 0, locals := 0 } : Room)) (fun a U => a = #[(.ref a0)] ∧ Z.Warmed39 U.vm ∧ U.heap = h0) (fun _ _ _ _ _ => True) (fun _ U o U' => ∃ v L, o = .returned v ∧ (PQ (.ref oo) n0 h0) v U'.heap L ∧ FrameEnd U o U' L ({ frames := 0, cells := 0, slots := 0, locals := 0 } : Room).cells ({ frames := 0, cells := 0, slots := 0, locals := 0 } : Room).slots) := by
  refine MetFree.of_bodySF (plainFor_of_name pn_2) hisR ?_
  intro p e s m args below meth c s₁ Bd hml0 hP hK
  obtain ⟨rfl, hZ, hh⟩ := hP
  have hx := Bd.exec
  have hby := Bd.bytes
  have hlk : meth.locks = false := Bd.notSynchronized
  have hml : c.maxLocals = 1 := hml0
  have hown : s.vm.findClass "com/example/winj/winj/storage/Comparison" = some m.cls := findClass_of_methodNamed Bd.named
  have hnm := (name_of_methodNamed Bd.named Bd.method).1
  have X0 : Stand p l e ({ frames := 0, cells := 0, slots := 0, locals := 0 } : Room) s m #[(.ref a0)] below meth c s₁ [] 0 0 := Stand.of_body Bd
  have e0 : s₁.heap = h0 := by rw [← hh, Bd.state]; rfl
  have N0 := Fr.nil n0
  show Go p e below s ((PQ (.ref oo) n0 h0)) ({ frames := 0, cells := 0, slots := 0, locals := 0 } : Room).cells ({ frames := 0, cells := 0, slots := 0, locals := 0 } : Room).slots (s₁.setTop (entryFrame m #[(.ref a0)] 1))
  rw [ef_2 m a0]
  refine Go.st (S' := s₁.setTop (mkF m 1 #[.val (.ref a0)] [(.ref a0)])) (fun _ kk => XS.aloadN X0.here hx rfl (hb hby d2_0) rfl rfl kk) ?_
  obtain ⟨T1, X1, e1, st1⟩ := getF X0 hx hZ hown (host := "") (Or.inl (hw _ (List.mem_of_getElem? (i := 15) rfl))) Via.refl e0 F_o (g := (mkF m 1 #[.val (.ref a0)] [(.ref a0)])) rfl rfl (hb hby d2_1)
  refine Go.st (S' := T1.setTop (mkF m 4 #[.val (.ref a0)] [(.ref oo)])) st1 ?_
  exact Go.retA X1 hx hlk Bd.returns rfl rfl (hb hby d2_4) (⟨rfl, N0, e1⟩) (by decide) (by decide)
theorem d1_0 : decode prog_3_method_5_code 0 = .ok (.aload_n 0, 1) := by decide +kernel
theorem d1_1 : decode prog_3_method_5_code 1 = .ok (.getstatic 3, 3) := by decide +kernel
theorem d1_4 : decode prog_3_method_5_code 4 = .ok (.if_acmp .eq 14, 3) := by decide +kernel
theorem d1_7 : decode prog_3_method_5_code 7 = .ok (.aload_n 0, 1) := by decide +kernel
theorem d1_8 : decode prog_3_method_5_code 8 = .ok (.getstatic 7, 3) := by decide +kernel
theorem d1_11 : decode prog_3_method_5_code 11 = .ok (.if_acmp .eq 7, 3) := by decide +kernel
theorem d1_14 : decode prog_3_method_5_code 14 = .ok (.iconst 1, 1) := by decide +kernel
theorem d1_15 : decode prog_3_method_5_code 15 = .ok (.goto 4, 3) := by decide +kernel
theorem d1_18 : decode prog_3_method_5_code 18 = .ok (.iconst 0, 1) := by decide +kernel
theorem d1_19 : decode prog_3_method_5_code 19 = .ok (.ireturn, 1) := by decide +kernel
theorem ef_1 (m : MethodId) (a0 : Addr) : entryFrame m #[(.ref a0)] 1 = mkF m 0 #[.val (.ref a0)] [] := by first | (simp [entryFrame, mkF, argsToLocals, Value.category]; done) | rfl
set_option maxRecDepth 65536 in
set_option maxHeartbeats 4000000 in
theorem rmOr0 (l : Launch) (Z : State) (az : Array Value) (hw : ∀ d ∈ tables_1, d.before az Z = true) (ws : List Jvm.Cond) (a0 : Addr)  (h0 : Heap) (n0 : Nat) (Z0 : n0 ≤ h0.size) (S_EQUAL : Sta Z h0 "com/example/winj/winj/storage/Comparison" "EQUAL" "Lcom/example/winj/winj/storage/Comparison;" (.ref a0)) :
    MetFree l (⟨"com/example/winj/winj/storage/Comparison", "orders", "()Z"⟩ : MethodName) (head1 (Jvm.Cond.code (⟨"com/example/winj/winj/storage/Comparison", "orders", "()Z"⟩ : MethodName) prog_3_method_5_code 1 (some .boolean) :: ws) ({ frames := 0, cells := 0, slots := 0, locals := 0 } : Room)) (fun a U => a = #[(.ref a0)] ∧ Z.Warmed39 U.vm ∧ U.heap = h0) (fun _ _ _ _ _ => True) (fun _ U o U' => ∃ v L, o = .returned v ∧ (PQ (.int 0) n0 h0) v U'.heap L ∧ FrameEnd U o U' L ({ frames := 0, cells := 0, slots := 0, locals := 0 } : Room).cells ({ frames := 0, cells := 0, slots := 0, locals := 0 } : Room).slots) := by
  refine MetFree.of_bodySF (plainFor_of_name pn_2) hisR ?_
  intro p e s m args below meth c s₁ Bd hml0 hP hK
  obtain ⟨rfl, hZ, hh⟩ := hP
  have hx := Bd.exec
  have hby := Bd.bytes
  have hlk : meth.locks = false := Bd.notSynchronized
  have hml : c.maxLocals = 1 := hml0
  have hown : s.vm.findClass "com/example/winj/winj/storage/Comparison" = some m.cls := findClass_of_methodNamed Bd.named
  have hnm := (name_of_methodNamed Bd.named Bd.method).1
  have X0 : Stand p l e ({ frames := 0, cells := 0, slots := 0, locals := 0 } : Room) s m #[(.ref a0)] below meth c s₁ [] 0 0 := Stand.of_body Bd
  have e0 : s₁.heap = h0 := by rw [← hh, Bd.state]; rfl
  have N0 := Fr.nil n0
  show Go p e below s ((PQ (.int 0) n0 h0)) ({ frames := 0, cells := 0, slots := 0, locals := 0 } : Room).cells ({ frames := 0, cells := 0, slots := 0, locals := 0 } : Room).slots (s₁.setTop (entryFrame m #[(.ref a0)] 1))
  rw [ef_1 m a0]
  refine Go.st (S' := s₁.setTop (mkF m 1 #[.val (.ref a0)] [(.ref a0)])) (fun _ kk => XS.aloadN X0.here hx rfl (hb hby d1_0) rfl rfl kk) ?_
  obtain ⟨T1, X1, e1, st1⟩ := getS2 X0 hx hZ hown (host := "") (Or.inl (hw _ (List.mem_of_getElem? (i := 9) rfl))) Via.refl e0 S_EQUAL (g := (mkF m 1 #[.val (.ref a0)] [(.ref a0)])) rfl (hb hby d1_1)
  refine Go.st (S' := T1.setTop (mkF m 4 #[.val (.ref a0)] [(.ref a0), (.ref a0)])) st1 ?_
  refine Go.st (S' := T1.setTop (mkF m 18 #[.val (.ref a0)] [])) (fun _ kk => Jvm.RoadKit.acmp (g := (mkF m 4 #[.val (.ref a0)] [(.ref a0), (.ref a0)])) X1 hx rfl rfl rfl (pc0 := 4) (pc' := 18) (same := true) rfl (hb hby d1_4) rfl (decide_eq_true rfl) (by decide) (by decide) kk) ?_
  refine Go.st (S' := T1.setTop (mkF m 19 #[.val (.ref a0)] [(.int (0 : Int32))])) (fun _ kk => XS.iconst X1.here hx rfl (hb hby d1_18) kk) ?_
  exact Go.retN X1 hx hlk (t := .boolean) Bd.returns (by simp) (hb hby d1_19) (⟨rfl, N0, e1⟩) (by decide) (by decide)
set_option maxRecDepth 65536 in
set_option maxHeartbeats 4000000 in
theorem rmOr1 (l : Launch) (Z : State) (az : Array Value) (hw : ∀ d ∈ tables_1, d.before az Z = true) (ws : List Jvm.Cond) (a0 : Addr) (s0 : Addr) (h0 : Heap) (n0 : Nat) (Z0 : n0 ≤ h0.size) (S_EQUAL : Sta Z h0 "com/example/winj/winj/storage/Comparison" "EQUAL" "Lcom/example/winj/winj/storage/Comparison;" (.ref s0)) (S_NOT_EQUAL : Sta Z h0 "com/example/winj/winj/storage/Comparison" "NOT_EQUAL" "Lcom/example/winj/winj/storage/Comparison;" (.ref a0)) (ne0 : a0 ≠ s0) :
    MetFree l (⟨"com/example/winj/winj/storage/Comparison", "orders", "()Z"⟩ : MethodName) (head1 (Jvm.Cond.code (⟨"com/example/winj/winj/storage/Comparison", "orders", "()Z"⟩ : MethodName) prog_3_method_5_code 1 (some .boolean) :: ws) ({ frames := 0, cells := 0, slots := 0, locals := 0 } : Room)) (fun a U => a = #[(.ref a0)] ∧ Z.Warmed39 U.vm ∧ U.heap = h0) (fun _ _ _ _ _ => True) (fun _ U o U' => ∃ v L, o = .returned v ∧ (PQ (.int 0) n0 h0) v U'.heap L ∧ FrameEnd U o U' L ({ frames := 0, cells := 0, slots := 0, locals := 0 } : Room).cells ({ frames := 0, cells := 0, slots := 0, locals := 0 } : Room).slots) := by
  refine MetFree.of_bodySF (plainFor_of_name pn_2) hisR ?_
  intro p e s m args below meth c s₁ Bd hml0 hP hK
  obtain ⟨rfl, hZ, hh⟩ := hP
  have hx := Bd.exec
  have hby := Bd.bytes
  have hlk : meth.locks = false := Bd.notSynchronized
  have hml : c.maxLocals = 1 := hml0
  have hown : s.vm.findClass "com/example/winj/winj/storage/Comparison" = some m.cls := findClass_of_methodNamed Bd.named
  have hnm := (name_of_methodNamed Bd.named Bd.method).1
  have X0 : Stand p l e ({ frames := 0, cells := 0, slots := 0, locals := 0 } : Room) s m #[(.ref a0)] below meth c s₁ [] 0 0 := Stand.of_body Bd
  have e0 : s₁.heap = h0 := by rw [← hh, Bd.state]; rfl
  have N0 := Fr.nil n0
  show Go p e below s ((PQ (.int 0) n0 h0)) ({ frames := 0, cells := 0, slots := 0, locals := 0 } : Room).cells ({ frames := 0, cells := 0, slots := 0, locals := 0 } : Room).slots (s₁.setTop (entryFrame m #[(.ref a0)] 1))
  rw [ef_1 m a0]
  refine Go.st (S' := s₁.setTop (mkF m 1 #[.val (.ref a0)] [(.ref a0)])) (fun _ kk => XS.aloadN X0.here hx rfl (hb hby d1_0) rfl rfl kk) ?_
  obtain ⟨T1, X1, e1, st1⟩ := getS2 X0 hx hZ hown (host := "") (Or.inl (hw _ (List.mem_of_getElem? (i := 9) rfl))) Via.refl e0 S_EQUAL (g := (mkF m 1 #[.val (.ref a0)] [(.ref a0)])) rfl (hb hby d1_1)
  refine Go.st (S' := T1.setTop (mkF m 4 #[.val (.ref a0)] [(.ref s0), (.ref a0)])) st1 ?_
  refine Go.st (S' := T1.setTop (mkF m 7 #[.val (.ref a0)] [])) (fun _ kk => Jvm.RoadKit.acmp (g := (mkF m 4 #[.val (.ref a0)] [(.ref s0), (.ref a0)])) X1 hx rfl rfl rfl (pc0 := 4) (pc' := 7) (same := false) rfl (hb hby d1_4) rfl (decide_eq_false fun q => ne0 (Value.ref.inj q)) (by decide) (by decide) kk) ?_
  refine Go.st (S' := T1.setTop (mkF m 8 #[.val (.ref a0)] [(.ref a0)])) (fun _ kk => XS.aloadN X1.here hx rfl (hb hby d1_7) rfl rfl kk) ?_
  obtain ⟨T2, X2, e2, st2⟩ := getS2 X1 hx hZ hown (host := "") (Or.inl (hw _ (List.mem_of_getElem? (i := 45) rfl))) Via.refl e1 S_NOT_EQUAL (g := (mkF m 8 #[.val (.ref a0)] [(.ref a0)])) rfl (hb hby d1_8)
  refine Go.st (S' := T2.setTop (mkF m 11 #[.val (.ref a0)] [(.ref a0), (.ref a0)])) st2 ?_
  refine Go.st (S' := T2.setTop (mkF m 18 #[.val (.ref a0)] [])) (fun _ kk => Jvm.RoadKit.acmp (g := (mkF m 11 #[.val (.ref a0)] [(.ref a0), (.ref a0)])) X2 hx rfl rfl rfl (pc0 := 11) (pc' := 18) (same := true) rfl (hb hby d1_11) rfl (decide_eq_true rfl) (by decide) (by decide) kk) ?_
  refine Go.st (S' := T2.setTop (mkF m 19 #[.val (.ref a0)] [(.int (0 : Int32))])) (fun _ kk => XS.iconst X2.here hx rfl (hb hby d1_18) kk) ?_
  exact Go.retN X2 hx hlk (t := .boolean) Bd.returns (by simp) (hb hby d1_19) (⟨rfl, N0, e2⟩) (by decide) (by decide)
set_option maxRecDepth 65536 in
set_option maxHeartbeats 4000000 in
theorem rmOr2 (l : Launch) (Z : State) (az : Array Value) (hw : ∀ d ∈ tables_1, d.before az Z = true) (ws : List Jvm.Cond) (a0 : Addr) (s0 s1 : Addr) (h0 : Heap) (n0 : Nat) (Z0 : n0 ≤ h0.size) (S_EQUAL : Sta Z h0 "com/example/winj/winj/storage/Comparison" "EQUAL" "Lcom/example/winj/winj/storage/Comparison;" (.ref s0)) (S_NOT_EQUAL : Sta Z h0 "com/example/winj/winj/storage/Comparison" "NOT_EQUAL" "Lcom/example/winj/winj/storage/Comparison;" (.ref s1)) (ne0 : a0 ≠ s0) (ne1 : a0 ≠ s1) :
    MetFree l (⟨"com/example/winj/winj/storage/Comparison", "orders", "()Z"⟩ : MethodName) (head1 (Jvm.Cond.code (⟨"com/example/winj/winj/storage/Comparison", "orders", "()Z"⟩ : MethodName) prog_3_method_5_code 1 (some .boolean) :: ws) ({ frames := 0, cells := 0, slots := 0, locals := 0 } : Room)) (fun a U => a = #[(.ref a0)] ∧ Z.Warmed39 U.vm ∧ U.heap = h0) (fun _ _ _ _ _ => True) (fun _ U o U' => ∃ v L, o = .returned v ∧ (PQ (.int 1) n0 h0) v U'.heap L ∧ FrameEnd U o U' L ({ frames := 0, cells := 0, slots := 0, locals := 0 } : Room).cells ({ frames := 0, cells := 0, slots := 0, locals := 0 } : Room).slots) := by
  refine MetFree.of_bodySF (plainFor_of_name pn_2) hisR ?_
  intro p e s m args below meth c s₁ Bd hml0 hP hK
  obtain ⟨rfl, hZ, hh⟩ := hP
  have hx := Bd.exec
  have hby := Bd.bytes
  have hlk : meth.locks = false := Bd.notSynchronized
  have hml : c.maxLocals = 1 := hml0
  have hown : s.vm.findClass "com/example/winj/winj/storage/Comparison" = some m.cls := findClass_of_methodNamed Bd.named
  have hnm := (name_of_methodNamed Bd.named Bd.method).1
  have X0 : Stand p l e ({ frames := 0, cells := 0, slots := 0, locals := 0 } : Room) s m #[(.ref a0)] below meth c s₁ [] 0 0 := Stand.of_body Bd
  have e0 : s₁.heap = h0 := by rw [← hh, Bd.state]; rfl
  have N0 := Fr.nil n0
  show Go p e below s ((PQ (.int 1) n0 h0)) ({ frames := 0, cells := 0, slots := 0, locals := 0 } : Room).cells ({ frames := 0, cells := 0, slots := 0, locals := 0 } : Room).slots (s₁.setTop (entryFrame m #[(.ref a0)] 1))
  rw [ef_1 m a0]
  refine Go.st (S' := s₁.setTop (mkF m 1 #[.val (.ref a0)] [(.ref a0)])) (fun _ kk => XS.aloadN X0.here hx rfl (hb hby d1_0) rfl rfl kk) ?_
  obtain ⟨T1, X1, e1, st1⟩ := getS2 X0 hx hZ hown (host := "") (Or.inl (hw _ (List.mem_of_getElem? (i := 9) rfl))) Via.refl e0 S_EQUAL (g := (mkF m 1 #[.val (.ref a0)] [(.ref a0)])) rfl (hb hby d1_1)
  refine Go.st (S' := T1.setTop (mkF m 4 #[.val (.ref a0)] [(.ref s0), (.ref a0)])) st1 ?_
  refine Go.st (S' := T1.setTop (mkF m 7 #[.val (.ref a0)] [])) (fun _ kk => Jvm.RoadKit.acmp (g := (mkF m 4 #[.val (.ref a0)] [(.ref s0), (.ref a0)])) X1 hx rfl rfl rfl (pc0 := 4) (pc' := 7) (same := false) rfl (hb hby d1_4) rfl (decide_eq_false fun q => ne0 (Value.ref.inj q)) (by decide) (by decide) kk) ?_
  refine Go.st (S' := T1.setTop (mkF m 8 #[.val (.ref a0)] [(.ref a0)])) (fun _ kk => XS.aloadN X1.here hx rfl (hb hby d1_7) rfl rfl kk) ?_
  obtain ⟨T2, X2, e2, st2⟩ := getS2 X1 hx hZ hown (host := "") (Or.inl (hw _ (List.mem_of_getElem? (i := 45) rfl))) Via.refl e1 S_NOT_EQUAL (g := (mkF m 8 #[.val (.ref a0)] [(.ref a0)])) rfl (hb hby d1_8)
  refine Go.st (S' := T2.setTop (mkF m 11 #[.val (.ref a0)] [(.ref s1), (.ref a0)])) st2 ?_
  refine Go.st (S' := T2.setTop (mkF m 14 #[.val (.ref a0)] [])) (fun _ kk => Jvm.RoadKit.acmp (g := (mkF m 11 #[.val (.ref a0)] [(.ref s1), (.ref a0)])) X2 hx rfl rfl rfl (pc0 := 11) (pc' := 14) (same := false) rfl (hb hby d1_11) rfl (decide_eq_false fun q => ne1 (Value.ref.inj q)) (by decide) (by decide) kk) ?_
  refine Go.st (S' := T2.setTop (mkF m 15 #[.val (.ref a0)] [(.int (1 : Int32))])) (fun _ kk => XS.iconst X2.here hx rfl (hb hby d1_14) kk) ?_
  refine Go.st (S' := T2.setTop (mkF m 19 #[.val (.ref a0)] [(.int (1 : Int32))])) (fun _ kk => XS.goto X2.here hx rfl (pc0 := 15) (pc' := 19) rfl (hb hby d1_15) (by decide) (by decide) kk) ?_
  exact Go.retN X2 hx hlk (t := .boolean) Bd.returns (by simp) (hb hby d1_19) (⟨rfl, N0, e2⟩) (by decide) (by decide)
def PV0 (Z : State) (vm : Vm) : Prop := IB Z vm []
def LS (Z : State) (h : Heap) (vm : Vm) (ix : Nat) (xs : List Int32) (z : Int32) (a b : Addr) (k : ClassId) : Prop := LitV Z vm "com/example/winj/winj/storage/ComparisonOrdersPinLaw" ix a ∧ Exa Z h a "java/lang/String" ∧ Fld Z h a "java/lang/String" "coder" "B" (.int 0) ∧ Fld Z h a "java/lang/String" "value" "[B" (.ref b) ∧ Arv Z h b k .byte z (xs.map .int) (.int 0)
def Q_hf0 (Z : State) (r : Int32) (h0 : Heap) (v : Option Value) (h : Heap) (vm : Vm) (L : List Loc) : Prop := v = some (.int r) ∧ Fr h0.size L ∧ Ext h0 h ∧ ∃ (a0 b0 : Addr) (k0 : ClassId), LS Z h vm 7 ([61] : List Int32) (1 : Int32) a0 b0 k0
theorem d3_0 : decode method_2_code 0 = .ok (.aload_n 0, 1) := by decide +kernel
theorem d3_1 : decode method_2_code 1 = .ok (.ldc 7, 2) := by decide +kernel
theorem d3_3 : decode method_2_code 3 = .ok (.invokevirtual 9, 3) := by decide +kernel
theorem d3_6 : decode method_2_code 6 = .ok (.ifCond .eq 13, 3) := by decide +kernel
theorem d3_9 : decode method_2_code 9 = .ok (.iload_n 1, 1) := by decide +kernel
theorem d3_10 : decode method_2_code 10 = .ok (.ifCond .ne 7, 3) := by decide +kernel
theorem d3_13 : decode method_2_code 13 = .ok (.iconst 1, 1) := by decide +kernel
theorem d3_14 : decode method_2_code 14 = .ok (.goto 4, 3) := by decide +kernel
theorem d3_17 : decode method_2_code 17 = .ok (.iconst 0, 1) := by decide +kernel
theorem d3_18 : decode method_2_code 18 = .ok (.ireturn, 1) := by decide +kernel
theorem d3_19 : decode method_2_code 19 = .ok (.aload_n 0, 1) := by decide +kernel
theorem d3_20 : decode method_2_code 20 = .ok (.ldc 15, 2) := by decide +kernel
theorem d3_22 : decode method_2_code 22 = .ok (.invokevirtual 9, 3) := by decide +kernel
theorem d3_25 : decode method_2_code 25 = .ok (.ifCond .eq 13, 3) := by decide +kernel
theorem d3_28 : decode method_2_code 28 = .ok (.iload_n 1, 1) := by decide +kernel
theorem d3_29 : decode method_2_code 29 = .ok (.ifCond .eq 7, 3) := by decide +kernel
theorem d3_32 : decode method_2_code 32 = .ok (.iconst 1, 1) := by decide +kernel
theorem d3_33 : decode method_2_code 33 = .ok (.goto 4, 3) := by decide +kernel
theorem d3_36 : decode method_2_code 36 = .ok (.iconst 0, 1) := by decide +kernel
theorem d3_37 : decode method_2_code 37 = .ok (.ireturn, 1) := by decide +kernel
theorem d3_38 : decode method_2_code 38 = .ok (.aload_n 0, 1) := by decide +kernel
theorem d3_39 : decode method_2_code 39 = .ok (.ldc 17, 2) := by decide +kernel
theorem d3_41 : decode method_2_code 41 = .ok (.invokevirtual 9, 3) := by decide +kernel
theorem d3_44 : decode method_2_code 44 = .ok (.ifCond .eq 13, 3) := by decide +kernel
theorem d3_47 : decode method_2_code 47 = .ok (.iload_n 1, 1) := by decide +kernel
theorem d3_48 : decode method_2_code 48 = .ok (.ifCond .ge 7, 3) := by decide +kernel
theorem d3_51 : decode method_2_code 51 = .ok (.iconst 1, 1) := by decide +kernel
theorem d3_52 : decode method_2_code 52 = .ok (.goto 4, 3) := by decide +kernel
theorem d3_55 : decode method_2_code 55 = .ok (.iconst 0, 1) := by decide +kernel
theorem d3_56 : decode method_2_code 56 = .ok (.ireturn, 1) := by decide +kernel
theorem d3_57 : decode method_2_code 57 = .ok (.aload_n 0, 1) := by decide +kernel
theorem d3_58 : decode method_2_code 58 = .ok (.ldc 19, 2) := by decide +kernel
theorem d3_60 : decode method_2_code 60 = .ok (.invokevirtual 9, 3) := by decide +kernel
theorem d3_63 : decode method_2_code 63 = .ok (.ifCond .eq 13, 3) := by decide +kernel
theorem d3_66 : decode method_2_code 66 = .ok (.iload_n 1, 1) := by decide +kernel
theorem d3_67 : decode method_2_code 67 = .ok (.ifCond .gt 7, 3) := by decide +kernel
theorem d3_70 : decode method_2_code 70 = .ok (.iconst 1, 1) := by decide +kernel
theorem d3_71 : decode method_2_code 71 = .ok (.goto 4, 3) := by decide +kernel
theorem d3_74 : decode method_2_code 74 = .ok (.iconst 0, 1) := by decide +kernel
theorem d3_75 : decode method_2_code 75 = .ok (.ireturn, 1) := by decide +kernel
theorem d3_76 : decode method_2_code 76 = .ok (.aload_n 0, 1) := by decide +kernel
theorem d3_77 : decode method_2_code 77 = .ok (.ldc 21, 2) := by decide +kernel
theorem d3_79 : decode method_2_code 79 = .ok (.invokevirtual 9, 3) := by decide +kernel
theorem d3_82 : decode method_2_code 82 = .ok (.ifCond .eq 13, 3) := by decide +kernel
theorem d3_85 : decode method_2_code 85 = .ok (.iload_n 1, 1) := by decide +kernel
theorem d3_86 : decode method_2_code 86 = .ok (.ifCond .le 7, 3) := by decide +kernel
theorem d3_89 : decode method_2_code 89 = .ok (.iconst 1, 1) := by decide +kernel
theorem d3_90 : decode method_2_code 90 = .ok (.goto 4, 3) := by decide +kernel
theorem d3_93 : decode method_2_code 93 = .ok (.iconst 0, 1) := by decide +kernel
theorem d3_94 : decode method_2_code 94 = .ok (.ireturn, 1) := by decide +kernel
theorem d3_95 : decode method_2_code 95 = .ok (.aload_n 0, 1) := by decide +kernel
theorem d3_96 : decode method_2_code 96 = .ok (.ldc 23, 2) := by decide +kernel
theorem d3_98 : decode method_2_code 98 = .ok (.invokevirtual 9, 3) := by decide +kernel
theorem d3_101 : decode method_2_code 101 = .ok (.ifCond .eq 13, 3) := by decide +kernel
theorem d3_104 : decode method_2_code 104 = .ok (.iload_n 1, 1) := by decide +kernel
theorem d3_105 : decode method_2_code 105 = .ok (.ifCond .lt 7, 3) := by decide +kernel
theorem d3_108 : decode method_2_code 108 = .ok (.iconst 1, 1) := by decide +kernel
theorem d3_109 : decode method_2_code 109 = .ok (.goto 4, 3) := by decide +kernel
theorem d3_112 : decode method_2_code 112 = .ok (.iconst 0, 1) := by decide +kernel
theorem d3_113 : decode method_2_code 113 = .ok (.ireturn, 1) := by decide +kernel
theorem d3_114 : decode method_2_code 114 = .ok (.iconst 0, 1) := by decide +kernel
theorem d3_115 : decode method_2_code 115 = .ok (.ireturn, 1) := by decide +kernel
theorem pn_3 : plainName "com/example/winj/winj/storage/ComparisonOrdersPinLaw" = true := by first | (simp [plainName, overriddenIn]; done) | decide +kernel
theorem ef_3 (m : MethodId) (a0 : Addr) (p1 : Int32) : entryFrame m #[(.ref a0), (.int p1)] 2 = mkF m 0 #[.val (.ref a0), .val (.int p1)] [] := by first | (simp [entryFrame, mkF, argsToLocals, Value.category]; done) | rfl
set_option maxRecDepth 65536 in
set_option maxHeartbeats 4000000 in
theorem rmHf0 (l : Launch) (Z : State) (az : Array Value) (hw : ∀ d ∈ tables_1, d.before az Z = true) (ws : List Jvm.Cond) (a0 : Addr) (p1 : Int32) (zc : Int32) (d0 : Addr) (kd : ClassId) (h0 : Heap) (hC : Jvm.D.constsHeld consts_1 Z) (hcw : Jvm.Lit.compactW.before az Z = true) (nz : Nat) (O_z : Old Z nz h0) (S_C : Sta Z h0 "java/lang/String" "COMPACT_STRINGS" "Z" (.int zc)) (hzc : ¬ zc = 0) (E_a0 : Exa Z h0 a0 "java/lang/String") (FC_a0 : Fld Z h0 a0 "java/lang/String" "coder" "B" (.int 0)) (FV_a0 : Fld Z h0 a0 "java/lang/String" "value" "[B" (.ref d0)) (V_d0 : Arv Z h0 d0 kd .byte (1 : Int32) (([61] : List Int32).map .int) (.int 0)) (hp1 : p1 = (-1 : Int32)) :
    MetFree l (⟨"com/example/winj/winj/storage/ComparisonOrdersPinLaw", "holds", "(Ljava/lang/String;I)Z"⟩ : MethodName) (head1 (Jvm.Cond.code (⟨"com/example/winj/winj/storage/ComparisonOrdersPinLaw", "holds", "(Ljava/lang/String;I)Z"⟩ : MethodName) method_2_code 2 (some .boolean) :: ws) ({ frames := 2, cells := 2, slots := 8, locals := 28 } : Room)) (fun a U => a = #[(.ref a0), (.int p1)] ∧ Z.Warmed39 U.vm ∧ U.heap = h0 ∧ (PV0 Z) U.vm) (fun _ _ _ _ _ => True) (fun _ U o U' => ∃ v L, o = .returned v ∧ (Q_hf0 Z (0 : Int32) h0) v U'.heap U'.vm L ∧ ReturnedEndW U o U' L ({ frames := 2, cells := 2, slots := 8, locals := 28 } : Room).cells ({ frames := 2, cells := 2, slots := 8, locals := 28 } : Room).slots) := by
  refine MetFree.of_bodySF (plainFor_of_name pn_3) hisR ?_
  intro p e s m args below meth c s₁ Bd hml0 hP hK
  obtain ⟨rfl, hZ, hh, I⟩ := hP
  have hx := Bd.exec
  have hby := Bd.bytes
  have hlk : meth.locks = false := Bd.notSynchronized
  have hml : c.maxLocals = 2 := hml0
  have hown : s.vm.findClass "com/example/winj/winj/storage/ComparisonOrdersPinLaw" = some m.cls := findClass_of_methodNamed Bd.named
  have hnm := (name_of_methodNamed Bd.named Bd.method).1
  have X0 : Stand p l e ({ frames := 2, cells := 2, slots := 8, locals := 28 } : Room) s m #[(.ref a0), (.int p1)] below meth c s₁ [] 0 0 := Stand.of_body Bd
  have X0 : Stand p l e ({ frames := 2, cells := 2, slots := 8, locals := 28 } : Room) (s.setVm s.vm) m #[(.ref a0), (.int p1)] below meth c s₁ [] 0 0 := X0
  have e0 : s₁.heap = h0 := by rw [← hh, Bd.state]; rfl
  have hkp : ∀ (b : Addr) (cl : Cell), Z.heap[b]? = some cl → s.heap[b]? = some cl := by rw [hh]; exact own_keepOld O_z
  obtain ⟨n0, hn0⟩ : ∃ n, n = h0.size := ⟨_, rfl⟩
  have Z0 : n0 ≤ h0.size := Nat.le_of_eq hn0
  have hsz : n0 = s.heap.size := by rw [hn0, hh]
  have hS : s.Since s.vm n0 := (State.WarmedH.refl s).since n0
  have hk : n0 ≤ h0.size := Z0
  have N0 := Fr.nil n0
  show GoW p e below s ((Q_hf0 Z (0 : Int32) h0)) ({ frames := 2, cells := 2, slots := 8, locals := 28 } : Room).cells ({ frames := 2, cells := 2, slots := 8, locals := 28 } : Room).slots (s₁.setTop (entryFrame m #[(.ref a0), (.int p1)] 2))
  rw [ef_3 m a0 p1]
  subst hp1
  refine GoW.st (S' := s₁.setTop (mkF m 1 #[.val (.ref a0), .val (.int (-1 : Int32))] [(.ref a0)])) (fun _ kk => XS.aloadN X0.here hx rfl (hb hby d3_0) rfl rfl kk) ?_
  obtain ⟨b1, T1, h1, k1, v1, c1, X1, e1, E1, hS1, hk1, hZ1, ho1, E_b1, FC_b1, FV_b1, V_v1, -, -, I, Li_b1, st1⟩ := ldcSVL (s := s.setVm s.vm) (vm0 := s.vm) X0 hx hZ hown (hw _ (List.mem_of_getElem? (i := 21) rfl)) (own_wS hw) e0 ((State.WarmedH.refl _).since _) (Nat.le_refl _) (own_frm N0 (Nat.le_of_eq hsz.symm)) hkp I (by decide) (hC _ (List.mem_of_getElem? (i := 0) rfl)) hcw (vs := ([61] : List Int32).map .int) (z := (1 : Int32)) ⟨by decide, by decide⟩ (by decide) (by decide) (g := (mkF m 1 #[.val (.ref a0), .val (.int (-1 : Int32))] [(.ref a0)])) rfl (hb hby d3_1) (n := 4) (by decide) (by decide) (by decide : 0 + 2 ≤ _) (by decide : 0 + 8 ≤ _)
  have X1 : Stand p l e _ (s.setVm T1.vm) m _ below meth c T1 _ _ _ := X1
  have Li_b1 : LitV Z T1.vm "com/example/winj/winj/storage/ComparisonOrdersPinLaw" 7 b1 := Li_b1
  have O_z := O_z.ext E1
  have S_C := S_C.ext E1
  have E_a0 := E_a0.ext E1
  have FC_a0 := FC_a0.ext E1
  have FV_a0 := FV_a0.ext E1
  have V_d0 := V_d0.ext E1
  have Zs2 := Nat.le_trans Z0 E1.1
  have hk := Nat.le_trans hk E1.1
  have Kp3 := (Keep.refl h0 []).ext E1
  have hS := hS.trans (own_sinceM hS1 hk1) hk
  have hk := Nat.le_refl h1.size
  have hZ := hZ1
  have hown := ho1
  refine GoW.st (S' := T1.setTop (mkF m 3 #[.val (.ref a0), .val (.int (-1 : Int32))] [(.ref b1), (.ref a0)])) st1 ?_
  obtain ⟨cq4, kq4, q4a, q4b, q4c⟩ := isOf hZ e1 E_a0
  obtain ⟨_, _, ⟨T4, L4, k4, n4⟩, -, X4, ⟨Lc4, hQ4, l4, y4, z4⟩, st4⟩ := X1.virtualBack hx (y := (⟨"java/lang/String", "equals", "(Ljava/lang/Object;)Z"⟩ : MethodName)) (z := (⟨"java/lang/String", "equals", "(Ljava/lang/Object;)Z"⟩ : MethodName)) hown (mvT hZ (hw _ (List.mem_of_getElem? (i := 29) rfl))) (mvT hZ (hw _ (List.mem_of_getElem? (i := 30) rfl))) (notFace_of_selects (args := #[]) (mvT hZ (hw _ (List.mem_of_getElem? (i := 32) rfl)))) (mvT hZ (hw _ (List.mem_of_getElem? (i := 32) rfl))) (mvT hZ (hw _ (List.mem_of_getElem? (i := 31) rfl))) (by decide) (backOf (W := 0) (rmSE l Z az hw [] a0 b1 zc d0 v1 kd c1 (1 : Int32) (1 : Int32) ([61] : List Int32) ([61] : List Int32) h1 n0 Zs2 S_C hzc E_a0 FC_a0 FV_a0 V_d0 (by decide) E_b1 FC_b1 FV_b1 V_v1 (by decide)) hZ (hw _ (List.mem_of_getElem? (i := 33) rfl)) (hw _ (List.mem_of_getElem? (i := 22) rfl)) (by decide) (by decide)) q4a q4c (g := (mkF m 3 #[.val (.ref a0), .val (.int (-1 : Int32))] [(.ref b1), (.ref a0)])) rfl (by rw [hml]; rfl) (Steps.refl _) (argsL := [(.ref b1)]) (rest := []) (lenOf pd_3 rfl) rfl (by show 2 * 0 + _ ≤ _; exact Nat.le_of_eq rfl) (hb hby d3_3) (fun _ _ => ⟨rfl, e1, (by decide : 2 + 0 ≤ _), (by decide : 8 + 0 ≤ _)⟩)
  dsimp only [Pt.U, Pt.locs, Pt.cells, Pt.slots] at X4 l4 y4 z4 st4 hQ4
  subst l4 y4 z4
  obtain ⟨hv4, N4q, e4⟩ := hQ4
  rw [show own_eqI ([61] : List Int32) ([61] : List Int32) = (1 : Int32) from by decide] at hv4
  subst hv4
  have N4 := Fr.app N0 N4q
  refine GoW.tr (S' := T4.setTop (mkF m 6 #[.val (.ref a0), .val (.int (-1 : Int32))] [(.int (1 : Int32))])) st4 ?_
  refine GoW.st (S' := T4.setTop (mkF m 9 #[.val (.ref a0), .val (.int (-1 : Int32))] [])) (fun _ kk => XS.ifNo X4.here hx rfl (hb hby d3_6) rfl ((if0 _ _).trans (feq (by decide : ¬ ((1 : Int32) = (0 : Int32)))).1) kk) ?_
  refine GoW.st (S' := T4.setTop (mkF m 10 #[.val (.ref a0), .val (.int (-1 : Int32))] [(.int (-1 : Int32))])) (fun _ kk => XS.iloadN X4.here hx rfl (hb hby d3_9) rfl kk) ?_
  refine GoW.st (S' := T4.setTop (mkF m 17 #[.val (.ref a0), .val (.int (-1 : Int32))] [])) (fun _ kk => XS.ifYes X4.here hx rfl (pc0 := 10) (pc' := 17) rfl (hb hby d3_10) rfl ((if0 _ _).trans (feq (by decide : ¬ ((-1 : Int32) = (0 : Int32)))).2) (by decide) (by decide) kk) ?_
  refine GoW.st (S' := T4.setTop (mkF m 18 #[.val (.ref a0), .val (.int (-1 : Int32))] [(.int (0 : Int32))])) (fun _ kk => XS.iconst X4.here hx rfl (hb hby d3_17) kk) ?_
  have Li_b1' := LitV.stays (s := s) Li_b1 X4.warmed.wide
  exact GoW.retN X4 hx hlk hS (own_hk e4 hk) (t := .boolean) Bd.returns (by simp) (hb hby d3_18) (by rw [e4]; exact ⟨rfl, hn0 ▸ N4, own_extk Kp3, b1, v1, c1, ⟨Li_b1', E_b1, FC_b1, FV_b1, V_v1⟩⟩) (by decide) (by decide)
def PV_a0 (Z : State) (la0 : Addr) (vm : Vm) : Prop := LitV Z vm "com/example/winj/winj/storage/ComparisonOrdersPinLaw" 7 la0
def Q_ha (r : Int32) (h0 : Heap) (v : Option Value) (h : Heap) (vm : Vm) (L : List Loc) : Prop := v = some (.int r) ∧ Fr h0.size L ∧ h = h0
set_option maxRecDepth 65536 in
set_option maxHeartbeats 4000000 in
theorem rmHa0 (l : Launch) (Z : State) (az : Array Value) (hw : ∀ d ∈ tables_1, d.before az Z = true) (ws : List Jvm.Cond) (a0 : Addr) (p1 : Int32) (zc : Int32) (d0 : Addr) (kd : ClassId) (la0 lb0 : Addr) (lk0 : ClassId) (h0 : Heap) (hC : Jvm.D.constsHeld consts_1 Z) (hcw : Jvm.Lit.compactW.before az Z = true) (nz : Nat) (O_z : Old Z nz h0) (S_C : Sta Z h0 "java/lang/String" "COMPACT_STRINGS" "Z" (.int zc)) (hzc : ¬ zc = 0) (E_a0 : Exa Z h0 a0 "java/lang/String") (FC_a0 : Fld Z h0 a0 "java/lang/String" "coder" "B" (.int 0)) (FV_a0 : Fld Z h0 a0 "java/lang/String" "value" "[B" (.ref d0)) (V_d0 : Arv Z h0 d0 kd .byte (1 : Int32) (([61] : List Int32).map .int) (.int 0)) (E_la0 : Exa Z h0 la0 "java/lang/String") (FC_la0 : Fld Z h0 la0 "java/lang/String" "coder" "B" (.int 0)) (FV_la0 : Fld Z h0 la0 "java/lang/String" "value" "[B" (.ref lb0)) (V_lb0 : Arv Z h0 lb0 lk0 .byte (1 : Int32) (([61] : List Int32).map .int) (.int 0)) (hp1 : p1 = (1 : Int32)) :
    MetFree l (⟨"com/example/winj/winj/storage/ComparisonOrdersPinLaw", "holds", "(Ljava/lang/String;I)Z"⟩ : MethodName) (head1 (Jvm.Cond.code (⟨"com/example/winj/winj/storage/ComparisonOrdersPinLaw", "holds", "(Ljava/lang/String;I)Z"⟩ : MethodName) method_2_code 2 (some .boolean) :: ws) ({ frames := 2, cells := 0, slots := 0, locals := 28 } : Room)) (fun a U => a = #[(.ref a0), (.int p1)] ∧ Z.Warmed39 U.vm ∧ U.heap = h0 ∧ (PV_a0 Z la0) U.vm) (fun _ _ _ _ _ => True) (fun _ U o U' => ∃ v L, o = .returned v ∧ (Q_ha (0 : Int32) h0) v U'.heap U'.vm L ∧ ReturnedEndW U o U' L ({ frames := 2, cells := 0, slots := 0, locals := 28 } : Room).cells ({ frames := 2, cells := 0, slots := 0, locals := 28 } : Room).slots) := by
  refine MetFree.of_bodySF (plainFor_of_name pn_3) hisR ?_
  intro p e s m args below meth c s₁ Bd hml0 hP hK
  obtain ⟨rfl, hZ, hh, Li0⟩ := hP
  have hx := Bd.exec
  have hby := Bd.bytes
  have hlk : meth.locks = false := Bd.notSynchronized
  have hml : c.maxLocals = 2 := hml0
  have hown : s.vm.findClass "com/example/winj/winj/storage/ComparisonOrdersPinLaw" = some m.cls := findClass_of_methodNamed Bd.named
  have hnm := (name_of_methodNamed Bd.named Bd.method).1
  have X0 : Stand p l e ({ frames := 2, cells := 0, slots := 0, locals := 28 } : Room) s m #[(.ref a0), (.int p1)] below meth c s₁ [] 0 0 := Stand.of_body Bd
  have X0 : Stand p l e ({ frames := 2, cells := 0, slots := 0, locals := 28 } : Room) (s.setVm s.vm) m #[(.ref a0), (.int p1)] below meth c s₁ [] 0 0 := X0
  have e0 : s₁.heap = h0 := by rw [← hh, Bd.state]; rfl
  have hkp : ∀ (b : Addr) (cl : Cell), Z.heap[b]? = some cl → s.heap[b]? = some cl := by rw [hh]; exact own_keepOld O_z
  obtain ⟨n0, hn0⟩ : ∃ n, n = h0.size := ⟨_, rfl⟩
  have Z0 : n0 ≤ h0.size := Nat.le_of_eq hn0
  have hsz : n0 = s.heap.size := by rw [hn0, hh]
  have hS : s.Since s.vm n0 := (State.WarmedH.refl s).since n0
  have hk : n0 ≤ h0.size := Z0
  have N0 := Fr.nil n0
  show GoW p e below s ((Q_ha (0 : Int32) h0)) ({ frames := 2, cells := 0, slots := 0, locals := 28 } : Room).cells ({ frames := 2, cells := 0, slots := 0, locals := 28 } : Room).slots (s₁.setTop (entryFrame m #[(.ref a0), (.int p1)] 2))
  rw [ef_3 m a0 p1]
  subst hp1
  refine GoW.st (S' := s₁.setTop (mkF m 1 #[.val (.ref a0), .val (.int (1 : Int32))] [(.ref a0)])) (fun _ kk => XS.aloadN X0.here hx rfl (hb hby d3_0) rfl rfl kk) ?_
  refine GoW.st (S' := s₁.setTop (mkF m 3 #[.val (.ref a0), .val (.int (1 : Int32))] [(.ref la0), (.ref a0)])) (fun _ kk => ldcAgain X0 hx hZ hown (hw _ (List.mem_of_getElem? (i := 21) rfl)) Li0 (g := (mkF m 1 #[.val (.ref a0), .val (.int (1 : Int32))] [(.ref a0)])) rfl (hb hby d3_1) _ kk) ?_
  obtain ⟨cq1, kq1, q1a, q1b, q1c⟩ := isOf hZ e0 E_a0
  obtain ⟨_, _, ⟨T1, L1, k1, n1⟩, -, X1, ⟨Lc1, hQ1, l1, y1, z1⟩, st1⟩ := X0.virtualBack hx (y := (⟨"java/lang/String", "equals", "(Ljava/lang/Object;)Z"⟩ : MethodName)) (z := (⟨"java/lang/String", "equals", "(Ljava/lang/Object;)Z"⟩ : MethodName)) hown (mvT hZ (hw _ (List.mem_of_getElem? (i := 29) rfl))) (mvT hZ (hw _ (List.mem_of_getElem? (i := 30) rfl))) (notFace_of_selects (args := #[]) (mvT hZ (hw _ (List.mem_of_getElem? (i := 32) rfl)))) (mvT hZ (hw _ (List.mem_of_getElem? (i := 32) rfl))) (mvT hZ (hw _ (List.mem_of_getElem? (i := 31) rfl))) (by decide) (backOf (W := 0) (rmSE l Z az hw [] a0 la0 zc d0 lb0 kd lk0 (1 : Int32) (1 : Int32) ([61] : List Int32) ([61] : List Int32) h0 n0 Z0 S_C hzc E_a0 FC_a0 FV_a0 V_d0 (by decide) E_la0 FC_la0 FV_la0 V_lb0 (by decide)) hZ (hw _ (List.mem_of_getElem? (i := 33) rfl)) (hw _ (List.mem_of_getElem? (i := 22) rfl)) (by decide) (by decide)) q1a q1c (g := (mkF m 3 #[.val (.ref a0), .val (.int (1 : Int32))] [(.ref la0), (.ref a0)])) rfl (by rw [hml]; rfl) (Steps.refl _) (argsL := [(.ref la0)]) (rest := []) (lenOf pd_3 rfl) rfl (by show 2 * 0 + _ ≤ _; exact Nat.le_of_eq rfl) (hb hby d3_3) (fun _ _ => ⟨rfl, e0, (by decide : 0 + 0 ≤ _), (by decide : 0 + 0 ≤ _)⟩)
  dsimp only [Pt.U, Pt.locs, Pt.cells, Pt.slots] at X1 l1 y1 z1 st1 hQ1
  subst l1 y1 z1
  obtain ⟨hv1, N1q, e1⟩ := hQ1
  rw [show own_eqI ([61] : List Int32) ([61] : List Int32) = (1 : Int32) from by decide] at hv1
  subst hv1
  have N1 := Fr.app N0 N1q
  refine GoW.tr (S' := T1.setTop (mkF m 6 #[.val (.ref a0), .val (.int (1 : Int32))] [(.int (1 : Int32))])) st1 ?_
  refine GoW.st (S' := T1.setTop (mkF m 9 #[.val (.ref a0), .val (.int (1 : Int32))] [])) (fun _ kk => XS.ifNo X1.here hx rfl (hb hby d3_6) rfl ((if0 _ _).trans (feq (by decide : ¬ ((1 : Int32) = (0 : Int32)))).1) kk) ?_
  refine GoW.st (S' := T1.setTop (mkF m 10 #[.val (.ref a0), .val (.int (1 : Int32))] [(.int (1 : Int32))])) (fun _ kk => XS.iloadN X1.here hx rfl (hb hby d3_9) rfl kk) ?_
  refine GoW.st (S' := T1.setTop (mkF m 17 #[.val (.ref a0), .val (.int (1 : Int32))] [])) (fun _ kk => XS.ifYes X1.here hx rfl (pc0 := 10) (pc' := 17) rfl (hb hby d3_10) rfl ((if0 _ _).trans (feq (by decide : ¬ ((1 : Int32) = (0 : Int32)))).2) (by decide) (by decide) kk) ?_
  refine GoW.st (S' := T1.setTop (mkF m 18 #[.val (.ref a0), .val (.int (1 : Int32))] [(.int (0 : Int32))])) (fun _ kk => XS.iconst X1.here hx rfl (hb hby d3_17) kk) ?_
  exact GoW.retN X1 hx hlk hS (own_hk e1 hk) (t := .boolean) Bd.returns (by simp) (hb hby d3_18) (⟨rfl, hn0 ▸ N1, e1⟩) (by decide) (by decide)
def Q_hf1 (Z : State) (r : Int32) (h0 : Heap) (v : Option Value) (h : Heap) (vm : Vm) (L : List Loc) : Prop := v = some (.int r) ∧ Fr h0.size L ∧ Ext h0 h ∧ ∃ (a0 b0 : Addr) (k0 : ClassId) (a1 b1 : Addr) (k1 : ClassId), LS Z h vm 7 ([61] : List Int32) (1 : Int32) a0 b0 k0 ∧ LS Z h vm 15 ([60, 62] : List Int32) (2 : Int32) a1 b1 k1
set_option maxRecDepth 65536 in
set_option maxHeartbeats 4000000 in
theorem rmHf1 (l : Launch) (Z : State) (az : Array Value) (hw : ∀ d ∈ tables_1, d.before az Z = true) (ws : List Jvm.Cond) (a0 : Addr) (p1 : Int32) (zc : Int32) (d0 : Addr) (kd : ClassId) (h0 : Heap) (hC : Jvm.D.constsHeld consts_1 Z) (hcw : Jvm.Lit.compactW.before az Z = true) (nz : Nat) (O_z : Old Z nz h0) (S_C : Sta Z h0 "java/lang/String" "COMPACT_STRINGS" "Z" (.int zc)) (hzc : ¬ zc = 0) (E_a0 : Exa Z h0 a0 "java/lang/String") (FC_a0 : Fld Z h0 a0 "java/lang/String" "coder" "B" (.int 0)) (FV_a0 : Fld Z h0 a0 "java/lang/String" "value" "[B" (.ref d0)) (V_d0 : Arv Z h0 d0 kd .byte (2 : Int32) (([60, 62] : List Int32).map .int) (.int 0)) (hp1 : p1 = (-1 : Int32)) :
    MetFree l (⟨"com/example/winj/winj/storage/ComparisonOrdersPinLaw", "holds", "(Ljava/lang/String;I)Z"⟩ : MethodName) (head1 (Jvm.Cond.code (⟨"com/example/winj/winj/storage/ComparisonOrdersPinLaw", "holds", "(Ljava/lang/String;I)Z"⟩ : MethodName) method_2_code 2 (some .boolean) :: ws) ({ frames := 2, cells := 4, slots := 20, locals := 28 } : Room)) (fun a U => a = #[(.ref a0), (.int p1)] ∧ Z.Warmed39 U.vm ∧ U.heap = h0 ∧ (PV0 Z) U.vm) (fun _ _ _ _ _ => True) (fun _ U o U' => ∃ v L, o = .returned v ∧ (Q_hf1 Z (1 : Int32) h0) v U'.heap U'.vm L ∧ ReturnedEndW U o U' L ({ frames := 2, cells := 4, slots := 20, locals := 28 } : Room).cells ({ frames := 2, cells := 4, slots := 20, locals := 28 } : Room).slots) := by
  refine MetFree.of_bodySF (plainFor_of_name pn_3) hisR ?_
  intro p e s m args below meth c s₁ Bd hml0 hP hK
  obtain ⟨rfl, hZ, hh, I⟩ := hP
  have hx := Bd.exec
  have hby := Bd.bytes
  have hlk : meth.locks = false := Bd.notSynchronized
  have hml : c.maxLocals = 2 := hml0
  have hown : s.vm.findClass "com/example/winj/winj/storage/ComparisonOrdersPinLaw" = some m.cls := findClass_of_methodNamed Bd.named
  have hnm := (name_of_methodNamed Bd.named Bd.method).1
  have X0 : Stand p l e ({ frames := 2, cells := 4, slots := 20, locals := 28 } : Room) s m #[(.ref a0), (.int p1)] below meth c s₁ [] 0 0 := Stand.of_body Bd
  have X0 : Stand p l e ({ frames := 2, cells := 4, slots := 20, locals := 28 } : Room) (s.setVm s.vm) m #[(.ref a0), (.int p1)] below meth c s₁ [] 0 0 := X0
  have e0 : s₁.heap = h0 := by rw [← hh, Bd.state]; rfl
  have hkp : ∀ (b : Addr) (cl : Cell), Z.heap[b]? = some cl → s.heap[b]? = some cl := by rw [hh]; exact own_keepOld O_z
  obtain ⟨n0, hn0⟩ : ∃ n, n = h0.size := ⟨_, rfl⟩
  have Z0 : n0 ≤ h0.size := Nat.le_of_eq hn0
  have hsz : n0 = s.heap.size := by rw [hn0, hh]
  have hS : s.Since s.vm n0 := (State.WarmedH.refl s).since n0
  have hk : n0 ≤ h0.size := Z0
  have N0 := Fr.nil n0
  show GoW p e below s ((Q_hf1 Z (1 : Int32) h0)) ({ frames := 2, cells := 4, slots := 20, locals := 28 } : Room).cells ({ frames := 2, cells := 4, slots := 20, locals := 28 } : Room).slots (s₁.setTop (entryFrame m #[(.ref a0), (.int p1)] 2))
  rw [ef_3 m a0 p1]
  subst hp1
  refine GoW.st (S' := s₁.setTop (mkF m 1 #[.val (.ref a0), .val (.int (-1 : Int32))] [(.ref a0)])) (fun _ kk => XS.aloadN X0.here hx rfl (hb hby d3_0) rfl rfl kk) ?_
  obtain ⟨b1, T1, h1, k1, v1, c1, X1, e1, E1, hS1, hk1, hZ1, ho1, E_b1, FC_b1, FV_b1, V_v1, -, -, I, Li_b1, st1⟩ := ldcSVL (s := s.setVm s.vm) (vm0 := s.vm) X0 hx hZ hown (hw _ (List.mem_of_getElem? (i := 21) rfl)) (own_wS hw) e0 ((State.WarmedH.refl _).since _) (Nat.le_refl _) (own_frm N0 (Nat.le_of_eq hsz.symm)) hkp I (by decide) (hC _ (List.mem_of_getElem? (i := 0) rfl)) hcw (vs := ([61] : List Int32).map .int) (z := (1 : Int32)) ⟨by decide, by decide⟩ (by decide) (by decide) (g := (mkF m 1 #[.val (.ref a0), .val (.int (-1 : Int32))] [(.ref a0)])) rfl (hb hby d3_1) (n := 4) (by decide) (by decide) (by decide : 0 + 2 ≤ _) (by decide : 0 + 8 ≤ _)
  have X1 : Stand p l e _ (s.setVm T1.vm) m _ below meth c T1 _ _ _ := X1
  have Li_b1 : LitV Z T1.vm "com/example/winj/winj/storage/ComparisonOrdersPinLaw" 7 b1 := Li_b1
  have O_z := O_z.ext E1
  have S_C := S_C.ext E1
  have E_a0 := E_a0.ext E1
  have FC_a0 := FC_a0.ext E1
  have FV_a0 := FV_a0.ext E1
  have V_d0 := V_d0.ext E1
  have Zs2 := Nat.le_trans Z0 E1.1
  have hk := Nat.le_trans hk E1.1
  have Kp3 := (Keep.refl h0 []).ext E1
  have hS := hS.trans (own_sinceM hS1 hk1) hk
  have hk := Nat.le_refl h1.size
  have hZ := hZ1
  have hown := ho1
  refine GoW.st (S' := T1.setTop (mkF m 3 #[.val (.ref a0), .val (.int (-1 : Int32))] [(.ref b1), (.ref a0)])) st1 ?_
  obtain ⟨cq4, kq4, q4a, q4b, q4c⟩ := isOf hZ e1 E_a0
  obtain ⟨_, _, ⟨T4, L4, k4, n4⟩, -, X4, ⟨Lc4, hQ4, l4, y4, z4⟩, st4⟩ := X1.virtualBack hx (y := (⟨"java/lang/String", "equals", "(Ljava/lang/Object;)Z"⟩ : MethodName)) (z := (⟨"java/lang/String", "equals", "(Ljava/lang/Object;)Z"⟩ : MethodName)) hown (mvT hZ (hw _ (List.mem_of_getElem? (i := 29) rfl))) (mvT hZ (hw _ (List.mem_of_getElem? (i := 30) rfl))) (notFace_of_selects (args := #[]) (mvT hZ (hw _ (List.mem_of_getElem? (i := 32) rfl)))) (mvT hZ (hw _ (List.mem_of_getElem? (i := 32) rfl))) (mvT hZ (hw _ (List.mem_of_getElem? (i := 31) rfl))) (by decide) (backOf (W := 0) (rmSE l Z az hw [] a0 b1 zc d0 v1 kd c1 (2 : Int32) (1 : Int32) ([60, 62] : List Int32) ([61] : List Int32) h1 n0 Zs2 S_C hzc E_a0 FC_a0 FV_a0 V_d0 (by decide) E_b1 FC_b1 FV_b1 V_v1 (by decide)) hZ (hw _ (List.mem_of_getElem? (i := 33) rfl)) (hw _ (List.mem_of_getElem? (i := 22) rfl)) (by decide) (by decide)) q4a q4c (g := (mkF m 3 #[.val (.ref a0), .val (.int (-1 : Int32))] [(.ref b1), (.ref a0)])) rfl (by rw [hml]; rfl) (Steps.refl _) (argsL := [(.ref b1)]) (rest := []) (lenOf pd_3 rfl) rfl (by show 2 * 0 + _ ≤ _; exact Nat.le_of_eq rfl) (hb hby d3_3) (fun _ _ => ⟨rfl, e1, (by decide : 2 + 0 ≤ _), (by decide : 8 + 0 ≤ _)⟩)
  dsimp only [Pt.U, Pt.locs, Pt.cells, Pt.slots] at X4 l4 y4 z4 st4 hQ4
  subst l4 y4 z4
  obtain ⟨hv4, N4q, e4⟩ := hQ4
  rw [show own_eqI ([60, 62] : List Int32) ([61] : List Int32) = (0 : Int32) from by decide] at hv4
  subst hv4
  have N4 := Fr.app N0 N4q
  refine GoW.tr (S' := T4.setTop (mkF m 6 #[.val (.ref a0), .val (.int (-1 : Int32))] [(.int (0 : Int32))])) st4 ?_
  refine GoW.st (S' := T4.setTop (mkF m 19 #[.val (.ref a0), .val (.int (-1 : Int32))] [])) (fun _ kk => XS.ifYes X4.here hx rfl (pc0 := 6) (pc' := 19) rfl (hb hby d3_6) rfl ((if0 _ _).trans (teq (by decide : (0 : Int32) = (0 : Int32))).1) (by decide) (by decide) kk) ?_
  refine GoW.st (S' := T4.setTop (mkF m 20 #[.val (.ref a0), .val (.int (-1 : Int32))] [(.ref a0)])) (fun _ kk => XS.aloadN X4.here hx rfl (hb hby d3_19) rfl rfl kk) ?_
  obtain ⟨b5, T5, h5, k5, v5, c5, X5, e5, E5, hS5, hk5, hZ5, ho5, E_b5, FC_b5, FV_b5, V_v5, -, -, I, Li_b5, st5⟩ := ldcSVL (s := s.setVm T1.vm) (vm0 := T1.vm) X4 hx hZ hown (hw _ (List.mem_of_getElem? (i := 47) rfl)) (own_wS hw) e4 ((State.WarmedH.refl _).since _) (Nat.le_refl _) (own_frm N4 (Nat.le_of_eq hsz.symm)) hkp I (by decide) (hC _ (List.mem_of_getElem? (i := 1) rfl)) hcw (vs := ([60, 62] : List Int32).map .int) (z := (2 : Int32)) ⟨by decide, by decide⟩ (by decide) (by decide) (g := (mkF m 20 #[.val (.ref a0), .val (.int (-1 : Int32))] [(.ref a0)])) rfl (hb hby d3_20) (n := 8) (by decide) (by decide) (by decide : 2 + 2 ≤ _) (by decide : 8 + 12 ≤ _)
  have X5 : Stand p l e _ (s.setVm T5.vm) m _ below meth c T5 _ _ _ := X5
  have Li_b1 := LitV.stays (s := s) Li_b1 hS5.1
  have Li_b5 : LitV Z T5.vm "com/example/winj/winj/storage/ComparisonOrdersPinLaw" 15 b5 := Li_b5
  have O_z := O_z.ext E5
  have S_C := S_C.ext E5
  have E_a0 := E_a0.ext E5
  have FC_a0 := FC_a0.ext E5
  have FV_a0 := FV_a0.ext E5
  have V_d0 := V_d0.ext E5
  have E_b1 := E_b1.ext E5
  have FC_b1 := FC_b1.ext E5
  have FV_b1 := FV_b1.ext E5
  have V_v1 := V_v1.ext E5
  have Zs6 := Nat.le_trans Zs2 E5.1
  have hk := Nat.le_trans hk E5.1
  have Kp7 := Kp3.ext E5
  have hS := hS.trans (own_sinceM hS5 hk5) hk
  have hk := Nat.le_refl h5.size
  have hZ := hZ5
  have hown := ho5
  refine GoW.st (S' := T5.setTop (mkF m 22 #[.val (.ref a0), .val (.int (-1 : Int32))] [(.ref b5), (.ref a0)])) st5 ?_
  obtain ⟨cq8, kq8, q8a, q8b, q8c⟩ := isOf hZ e5 E_a0
  obtain ⟨_, _, ⟨T8, L8, k8, n8⟩, -, X8, ⟨Lc8, hQ8, l8, y8, z8⟩, st8⟩ := X5.virtualBack hx (y := (⟨"java/lang/String", "equals", "(Ljava/lang/Object;)Z"⟩ : MethodName)) (z := (⟨"java/lang/String", "equals", "(Ljava/lang/Object;)Z"⟩ : MethodName)) hown (mvT hZ (hw _ (List.mem_of_getElem? (i := 29) rfl))) (mvT hZ (hw _ (List.mem_of_getElem? (i := 30) rfl))) (notFace_of_selects (args := #[]) (mvT hZ (hw _ (List.mem_of_getElem? (i := 32) rfl)))) (mvT hZ (hw _ (List.mem_of_getElem? (i := 32) rfl))) (mvT hZ (hw _ (List.mem_of_getElem? (i := 31) rfl))) (by decide) (backOf (W := 0) (rmSE l Z az hw [] a0 b5 zc d0 v5 kd c5 (2 : Int32) (2 : Int32) ([60, 62] : List Int32) ([60, 62] : List Int32) h5 n0 Zs6 S_C hzc E_a0 FC_a0 FV_a0 V_d0 (by decide) E_b5 FC_b5 FV_b5 V_v5 (by decide)) hZ (hw _ (List.mem_of_getElem? (i := 33) rfl)) (hw _ (List.mem_of_getElem? (i := 22) rfl)) (by decide) (by decide)) q8a q8c (g := (mkF m 22 #[.val (.ref a0), .val (.int (-1 : Int32))] [(.ref b5), (.ref a0)])) rfl (by rw [hml]; rfl) (Steps.refl _) (argsL := [(.ref b5)]) (rest := []) (lenOf pd_3 rfl) rfl (by show 2 * 0 + _ ≤ _; exact Nat.le_of_eq rfl) (hb hby d3_22) (fun _ _ => ⟨rfl, e5, (by decide : 4 + 0 ≤ _), (by decide : 20 + 0 ≤ _)⟩)
  dsimp only [Pt.U, Pt.locs, Pt.cells, Pt.slots] at X8 l8 y8 z8 st8 hQ8
  subst l8 y8 z8
  obtain ⟨hv8, N8q, e8⟩ := hQ8
  rw [show own_eqI ([60, 62] : List Int32) ([60, 62] : List Int32) = (1 : Int32) from by decide] at hv8
  subst hv8
  have N8 := Fr.app N4 N8q
  refine GoW.tr (S' := T8.setTop (mkF m 25 #[.val (.ref a0), .val (.int (-1 : Int32))] [(.int (1 : Int32))])) st8 ?_
  refine GoW.st (S' := T8.setTop (mkF m 28 #[.val (.ref a0), .val (.int (-1 : Int32))] [])) (fun _ kk => XS.ifNo X8.here hx rfl (hb hby d3_25) rfl ((if0 _ _).trans (feq (by decide : ¬ ((1 : Int32) = (0 : Int32)))).1) kk) ?_
  refine GoW.st (S' := T8.setTop (mkF m 29 #[.val (.ref a0), .val (.int (-1 : Int32))] [(.int (-1 : Int32))])) (fun _ kk => XS.iloadN X8.here hx rfl (hb hby d3_28) rfl kk) ?_
  refine GoW.st (S' := T8.setTop (mkF m 32 #[.val (.ref a0), .val (.int (-1 : Int32))] [])) (fun _ kk => XS.ifNo X8.here hx rfl (hb hby d3_29) rfl ((if0 _ _).trans (feq (by decide : ¬ ((-1 : Int32) = (0 : Int32)))).1) kk) ?_
  refine GoW.st (S' := T8.setTop (mkF m 33 #[.val (.ref a0), .val (.int (-1 : Int32))] [(.int (1 : Int32))])) (fun _ kk => XS.iconst X8.here hx rfl (hb hby d3_32) kk) ?_
  refine GoW.st (S' := T8.setTop (mkF m 37 #[.val (.ref a0), .val (.int (-1 : Int32))] [(.int (1 : Int32))])) (fun _ kk => XS.goto X8.here hx rfl (pc0 := 33) (pc' := 37) rfl (hb hby d3_33) (by decide) (by decide) kk) ?_
  have Li_b1' := LitV.stays (s := s) Li_b1 X8.warmed.wide
  have Li_b5' := LitV.stays (s := s) Li_b5 X8.warmed.wide
  exact GoW.retN X8 hx hlk hS (own_hk e8 hk) (t := .boolean) Bd.returns (by simp) (hb hby d3_37) (by rw [e8]; exact ⟨rfl, hn0 ▸ N8, own_extk Kp7, b1, v1, c1, b5, v5, c5, ⟨Li_b1', E_b1, FC_b1, FV_b1, V_v1⟩, ⟨Li_b5', E_b5, FC_b5, FV_b5, V_v5⟩⟩) (by decide) (by decide)
def PV_a1 (Z : State) (la0 : Addr) (la1 : Addr) (vm : Vm) : Prop := LitV Z vm "com/example/winj/winj/storage/ComparisonOrdersPinLaw" 7 la0 ∧ LitV Z vm "com/example/winj/winj/storage/ComparisonOrdersPinLaw" 15 la1
set_option maxRecDepth 65536 in
set_option maxHeartbeats 4000000 in
theorem rmHa1 (l : Launch) (Z : State) (az : Array Value) (hw : ∀ d ∈ tables_1, d.before az Z = true) (ws : List Jvm.Cond) (a0 : Addr) (p1 : Int32) (zc : Int32) (d0 : Addr) (kd : ClassId) (la0 lb0 : Addr) (lk0 : ClassId) (la1 lb1 : Addr) (lk1 : ClassId) (h0 : Heap) (hC : Jvm.D.constsHeld consts_1 Z) (hcw : Jvm.Lit.compactW.before az Z = true) (nz : Nat) (O_z : Old Z nz h0) (S_C : Sta Z h0 "java/lang/String" "COMPACT_STRINGS" "Z" (.int zc)) (hzc : ¬ zc = 0) (E_a0 : Exa Z h0 a0 "java/lang/String") (FC_a0 : Fld Z h0 a0 "java/lang/String" "coder" "B" (.int 0)) (FV_a0 : Fld Z h0 a0 "java/lang/String" "value" "[B" (.ref d0)) (V_d0 : Arv Z h0 d0 kd .byte (2 : Int32) (([60, 62] : List Int32).map .int) (.int 0)) (E_la0 : Exa Z h0 la0 "java/lang/String") (FC_la0 : Fld Z h0 la0 "java/lang/String" "coder" "B" (.int 0)) (FV_la0 : Fld Z h0 la0 "java/lang/String" "value" "[B" (.ref lb0)) (V_lb0 : Arv Z h0 lb0 lk0 .byte (1 : Int32) (([61] : List Int32).map .int) (.int 0)) (E_la1 : Exa Z h0 la1 "java/lang/String") (FC_la1 : Fld Z h0 la1 "java/lang/String" "coder" "B" (.int 0)) (FV_la1 : Fld Z h0 la1 "java/lang/String" "value" "[B" (.ref lb1)) (V_lb1 : Arv Z h0 lb1 lk1 .byte (2 : Int32) (([60, 62] : List Int32).map .int) (.int 0)) (hp1 : p1 = (1 : Int32)) :
    MetFree l (⟨"com/example/winj/winj/storage/ComparisonOrdersPinLaw", "holds", "(Ljava/lang/String;I)Z"⟩ : MethodName) (head1 (Jvm.Cond.code (⟨"com/example/winj/winj/storage/ComparisonOrdersPinLaw", "holds", "(Ljava/lang/String;I)Z"⟩ : MethodName) method_2_code 2 (some .boolean) :: ws) ({ frames := 2, cells := 0, slots := 0, locals := 28 } : Room)) (fun a U => a = #[(.ref a0), (.int p1)] ∧ Z.Warmed39 U.vm ∧ U.heap = h0 ∧ (PV_a1 Z la0 la1) U.vm) (fun _ _ _ _ _ => True) (fun _ U o U' => ∃ v L, o = .returned v ∧ (Q_ha (1 : Int32) h0) v U'.heap U'.vm L ∧ ReturnedEndW U o U' L ({ frames := 2, cells := 0, slots := 0, locals := 28 } : Room).cells ({ frames := 2, cells := 0, slots := 0, locals := 28 } : Room).slots) := by
  refine MetFree.of_bodySF (plainFor_of_name pn_3) hisR ?_
  intro p e s m args below meth c s₁ Bd hml0 hP hK
  obtain ⟨rfl, hZ, hh, Li0, Li1⟩ := hP
  have hx := Bd.exec
  have hby := Bd.bytes
  have hlk : meth.locks = false := Bd.notSynchronized
  have hml : c.maxLocals = 2 := hml0
  have hown : s.vm.findClass "com/example/winj/winj/storage/ComparisonOrdersPinLaw" = some m.cls := findClass_of_methodNamed Bd.named
  have hnm := (name_of_methodNamed Bd.named Bd.method).1
  have X0 : Stand p l e ({ frames := 2, cells := 0, slots := 0, locals := 28 } : Room) s m #[(.ref a0), (.int p1)] below meth c s₁ [] 0 0 := Stand.of_body Bd
  have X0 : Stand p l e ({ frames := 2, cells := 0, slots := 0, locals := 28 } : Room) (s.setVm s.vm) m #[(.ref a0), (.int p1)] below meth c s₁ [] 0 0 := X0
  have e0 : s₁.heap = h0 := by rw [← hh, Bd.state]; rfl
  have hkp : ∀ (b : Addr) (cl : Cell), Z.heap[b]? = some cl → s.heap[b]? = some cl := by rw [hh]; exact own_keepOld O_z
  obtain ⟨n0, hn0⟩ : ∃ n, n = h0.size := ⟨_, rfl⟩
  have Z0 : n0 ≤ h0.size := Nat.le_of_eq hn0
  have hsz : n0 = s.heap.size := by rw [hn0, hh]
  have hS : s.Since s.vm n0 := (State.WarmedH.refl s).since n0
  have hk : n0 ≤ h0.size := Z0
  have N0 := Fr.nil n0
  show GoW p e below s ((Q_ha (1 : Int32) h0)) ({ frames := 2, cells := 0, slots := 0, locals := 28 } : Room).cells ({ frames := 2, cells := 0, slots := 0, locals := 28 } : Room).slots (s₁.setTop (entryFrame m #[(.ref a0), (.int p1)] 2))
  rw [ef_3 m a0 p1]
  subst hp1
  refine GoW.st (S' := s₁.setTop (mkF m 1 #[.val (.ref a0), .val (.int (1 : Int32))] [(.ref a0)])) (fun _ kk => XS.aloadN X0.here hx rfl (hb hby d3_0) rfl rfl kk) ?_
  refine GoW.st (S' := s₁.setTop (mkF m 3 #[.val (.ref a0), .val (.int (1 : Int32))] [(.ref la0), (.ref a0)])) (fun _ kk => ldcAgain X0 hx hZ hown (hw _ (List.mem_of_getElem? (i := 21) rfl)) Li0 (g := (mkF m 1 #[.val (.ref a0), .val (.int (1 : Int32))] [(.ref a0)])) rfl (hb hby d3_1) _ kk) ?_
  obtain ⟨cq1, kq1, q1a, q1b, q1c⟩ := isOf hZ e0 E_a0
  obtain ⟨_, _, ⟨T1, L1, k1, n1⟩, -, X1, ⟨Lc1, hQ1, l1, y1, z1⟩, st1⟩ := X0.virtualBack hx (y := (⟨"java/lang/String", "equals", "(Ljava/lang/Object;)Z"⟩ : MethodName)) (z := (⟨"java/lang/String", "equals", "(Ljava/lang/Object;)Z"⟩ : MethodName)) hown (mvT hZ (hw _ (List.mem_of_getElem? (i := 29) rfl))) (mvT hZ (hw _ (List.mem_of_getElem? (i := 30) rfl))) (notFace_of_selects (args := #[]) (mvT hZ (hw _ (List.mem_of_getElem? (i := 32) rfl)))) (mvT hZ (hw _ (List.mem_of_getElem? (i := 32) rfl))) (mvT hZ (hw _ (List.mem_of_getElem? (i := 31) rfl))) (by decide) (backOf (W := 0) (rmSE l Z az hw [] a0 la0 zc d0 lb0 kd lk0 (2 : Int32) (1 : Int32) ([60, 62] : List Int32) ([61] : List Int32) h0 n0 Z0 S_C hzc E_a0 FC_a0 FV_a0 V_d0 (by decide) E_la0 FC_la0 FV_la0 V_lb0 (by decide)) hZ (hw _ (List.mem_of_getElem? (i := 33) rfl)) (hw _ (List.mem_of_getElem? (i := 22) rfl)) (by decide) (by decide)) q1a q1c (g := (mkF m 3 #[.val (.ref a0), .val (.int (1 : Int32))] [(.ref la0), (.ref a0)])) rfl (by rw [hml]; rfl) (Steps.refl _) (argsL := [(.ref la0)]) (rest := []) (lenOf pd_3 rfl) rfl (by show 2 * 0 + _ ≤ _; exact Nat.le_of_eq rfl) (hb hby d3_3) (fun _ _ => ⟨rfl, e0, (by decide : 0 + 0 ≤ _), (by decide : 0 + 0 ≤ _)⟩)
  dsimp only [Pt.U, Pt.locs, Pt.cells, Pt.slots] at X1 l1 y1 z1 st1 hQ1
  subst l1 y1 z1
  obtain ⟨hv1, N1q, e1⟩ := hQ1
  rw [show own_eqI ([60, 62] : List Int32) ([61] : List Int32) = (0 : Int32) from by decide] at hv1
  subst hv1
  have N1 := Fr.app N0 N1q
  refine GoW.tr (S' := T1.setTop (mkF m 6 #[.val (.ref a0), .val (.int (1 : Int32))] [(.int (0 : Int32))])) st1 ?_
  refine GoW.st (S' := T1.setTop (mkF m 19 #[.val (.ref a0), .val (.int (1 : Int32))] [])) (fun _ kk => XS.ifYes X1.here hx rfl (pc0 := 6) (pc' := 19) rfl (hb hby d3_6) rfl ((if0 _ _).trans (teq (by decide : (0 : Int32) = (0 : Int32))).1) (by decide) (by decide) kk) ?_
  refine GoW.st (S' := T1.setTop (mkF m 20 #[.val (.ref a0), .val (.int (1 : Int32))] [(.ref a0)])) (fun _ kk => XS.aloadN X1.here hx rfl (hb hby d3_19) rfl rfl kk) ?_
  refine GoW.st (S' := T1.setTop (mkF m 22 #[.val (.ref a0), .val (.int (1 : Int32))] [(.ref la1), (.ref a0)])) (fun _ kk => ldcAgain X1 hx hZ hown (hw _ (List.mem_of_getElem? (i := 47) rfl)) Li1 (g := (mkF m 20 #[.val (.ref a0), .val (.int (1 : Int32))] [(.ref a0)])) rfl (hb hby d3_20) _ kk) ?_
  obtain ⟨cq2, kq2, q2a, q2b, q2c⟩ := isOf hZ e1 E_a0
  obtain ⟨_, _, ⟨T2, L2, k2, n2⟩, -, X2, ⟨Lc2, hQ2, l2, y2, z2⟩, st2⟩ := X1.virtualBack hx (y := (⟨"java/lang/String", "equals", "(Ljava/lang/Object;)Z"⟩ : MethodName)) (z := (⟨"java/lang/String", "equals", "(Ljava/lang/Object;)Z"⟩ : MethodName)) hown (mvT hZ (hw _ (List.mem_of_getElem? (i := 29) rfl))) (mvT hZ (hw _ (List.mem_of_getElem? (i := 30) rfl))) (notFace_of_selects (args := #[]) (mvT hZ (hw _ (List.mem_of_getElem? (i := 32) rfl)))) (mvT hZ (hw _ (List.mem_of_getElem? (i := 32) rfl))) (mvT hZ (hw _ (List.mem_of_getElem? (i := 31) rfl))) (by decide) (backOf (W := 0) (rmSE l Z az hw [] a0 la1 zc d0 lb1 kd lk1 (2 : Int32) (2 : Int32) ([60, 62] : List Int32) ([60, 62] : List Int32) h0 n0 Z0 S_C hzc E_a0 FC_a0 FV_a0 V_d0 (by decide) E_la1 FC_la1 FV_la1 V_lb1 (by decide)) hZ (hw _ (List.mem_of_getElem? (i := 33) rfl)) (hw _ (List.mem_of_getElem? (i := 22) rfl)) (by decide) (by decide)) q2a q2c (g := (mkF m 22 #[.val (.ref a0), .val (.int (1 : Int32))] [(.ref la1), (.ref a0)])) rfl (by rw [hml]; rfl) (Steps.refl _) (argsL := [(.ref la1)]) (rest := []) (lenOf pd_3 rfl) rfl (by show 2 * 0 + _ ≤ _; exact Nat.le_of_eq rfl) (hb hby d3_22) (fun _ _ => ⟨rfl, e1, (by decide : 0 + 0 ≤ _), (by decide : 0 + 0 ≤ _)⟩)
  dsimp only [Pt.U, Pt.locs, Pt.cells, Pt.slots] at X2 l2 y2 z2 st2 hQ2
  subst l2 y2 z2
  obtain ⟨hv2, N2q, e2⟩ := hQ2
  rw [show own_eqI ([60, 62] : List Int32) ([60, 62] : List Int32) = (1 : Int32) from by decide] at hv2
  subst hv2
  have N2 := Fr.app N1 N2q
  refine GoW.tr (S' := T2.setTop (mkF m 25 #[.val (.ref a0), .val (.int (1 : Int32))] [(.int (1 : Int32))])) st2 ?_
  refine GoW.st (S' := T2.setTop (mkF m 28 #[.val (.ref a0), .val (.int (1 : Int32))] [])) (fun _ kk => XS.ifNo X2.here hx rfl (hb hby d3_25) rfl ((if0 _ _).trans (feq (by decide : ¬ ((1 : Int32) = (0 : Int32)))).1) kk) ?_
  refine GoW.st (S' := T2.setTop (mkF m 29 #[.val (.ref a0), .val (.int (1 : Int32))] [(.int (1 : Int32))])) (fun _ kk => XS.iloadN X2.here hx rfl (hb hby d3_28) rfl kk) ?_
  refine GoW.st (S' := T2.setTop (mkF m 32 #[.val (.ref a0), .val (.int (1 : Int32))] [])) (fun _ kk => XS.ifNo X2.here hx rfl (hb hby d3_29) rfl ((if0 _ _).trans (feq (by decide : ¬ ((1 : Int32) = (0 : Int32)))).1) kk) ?_
  refine GoW.st (S' := T2.setTop (mkF m 33 #[.val (.ref a0), .val (.int (1 : Int32))] [(.int (1 : Int32))])) (fun _ kk => XS.iconst X2.here hx rfl (hb hby d3_32) kk) ?_
  refine GoW.st (S' := T2.setTop (mkF m 37 #[.val (.ref a0), .val (.int (1 : Int32))] [(.int (1 : Int32))])) (fun _ kk => XS.goto X2.here hx rfl (pc0 := 33) (pc' := 37) rfl (hb hby d3_33) (by decide) (by decide) kk) ?_
  exact GoW.retN X2 hx hlk hS (own_hk e2 hk) (t := .boolean) Bd.returns (by simp) (hb hby d3_37) (⟨rfl, hn0 ▸ N2, e2⟩) (by decide) (by decide)
def Q_hf2 (Z : State) (r : Int32) (h0 : Heap) (v : Option Value) (h : Heap) (vm : Vm) (L : List Loc) : Prop := v = some (.int r) ∧ Fr h0.size L ∧ Ext h0 h ∧ ∃ (a0 b0 : Addr) (k0 : ClassId) (a1 b1 : Addr) (k1 : ClassId) (a2 b2 : Addr) (k2 : ClassId), LS Z h vm 7 ([61] : List Int32) (1 : Int32) a0 b0 k0 ∧ LS Z h vm 15 ([60, 62] : List Int32) (2 : Int32) a1 b1 k1 ∧ LS Z h vm 17 ([60] : List Int32) (1 : Int32) a2 b2 k2
set_option maxRecDepth 65536 in
set_option maxHeartbeats 4000000 in
theorem rmHf2 (l : Launch) (Z : State) (az : Array Value) (hw : ∀ d ∈ tables_1, d.before az Z = true) (ws : List Jvm.Cond) (a0 : Addr) (p1 : Int32) (zc : Int32) (d0 : Addr) (kd : ClassId) (h0 : Heap) (hC : Jvm.D.constsHeld consts_1 Z) (hcw : Jvm.Lit.compactW.before az Z = true) (nz : Nat) (O_z : Old Z nz h0) (S_C : Sta Z h0 "java/lang/String" "COMPACT_STRINGS" "Z" (.int zc)) (hzc : ¬ zc = 0) (E_a0 : Exa Z h0 a0 "java/lang/String") (FC_a0 : Fld Z h0 a0 "java/lang/String" "coder" "B" (.int 0)) (FV_a0 : Fld Z h0 a0 "java/lang/String" "value" "[B" (.ref d0)) (V_d0 : Arv Z h0 d0 kd .byte (1 : Int32) (([60] : List Int32).map .int) (.int 0)) (hp1 : p1 = (-1 : Int32)) :
    MetFree l (⟨"com/example/winj/winj/storage/ComparisonOrdersPinLaw", "holds", "(Ljava/lang/String;I)Z"⟩ : MethodName) (head1 (Jvm.Cond.code (⟨"com/example/winj/winj/storage/ComparisonOrdersPinLaw", "holds", "(Ljava/lang/String;I)Z"⟩ : MethodName) method_2_code 2 (some .boolean) :: ws) ({ frames := 2, cells := 6, slots := 28, locals := 28 } : Room)) (fun a U => a = #[(.ref a0), (.int p1)] ∧ Z.Warmed39 U.vm ∧ U.heap = h0 ∧ (PV0 Z) U.vm) (fun _ _ _ _ _ => True) (fun _ U o U' => ∃ v L, o = .returned v ∧ (Q_hf2 Z (1 : Int32) h0) v U'.heap U'.vm L ∧ ReturnedEndW U o U' L ({ frames := 2, cells := 6, slots := 28, locals := 28 } : Room).cells ({ frames := 2, cells := 6, slots := 28, locals := 28 } : Room).slots) := by
  refine MetFree.of_bodySF (plainFor_of_name pn_3) hisR ?_
  intro p e s m args below meth c s₁ Bd hml0 hP hK
  obtain ⟨rfl, hZ, hh, I⟩ := hP
  have hx := Bd.exec
  have hby := Bd.bytes
  have hlk : meth.locks = false := Bd.notSynchronized
  have hml : c.maxLocals = 2 := hml0
  have hown : s.vm.findClass "com/example/winj/winj/storage/ComparisonOrdersPinLaw" = some m.cls := findClass_of_methodNamed Bd.named
  have hnm := (name_of_methodNamed Bd.named Bd.method).1
  have X0 : Stand p l e ({ frames := 2, cells := 6, slots := 28, locals := 28 } : Room) s m #[(.ref a0), (.int p1)] below meth c s₁ [] 0 0 := Stand.of_body Bd
  have X0 : Stand p l e ({ frames := 2, cells := 6, slots := 28, locals := 28 } : Room) (s.setVm s.vm) m #[(.ref a0), (.int p1)] below meth c s₁ [] 0 0 := X0
  have e0 : s₁.heap = h0 := by rw [← hh, Bd.state]; rfl
  have hkp : ∀ (b : Addr) (cl : Cell), Z.heap[b]? = some cl → s.heap[b]? = some cl := by rw [hh]; exact own_keepOld O_z
  obtain ⟨n0, hn0⟩ : ∃ n, n = h0.size := ⟨_, rfl⟩
  have Z0 : n0 ≤ h0.size := Nat.le_of_eq hn0
  have hsz : n0 = s.heap.size := by rw [hn0, hh]
  have hS : s.Since s.vm n0 := (State.WarmedH.refl s).since n0
  have hk : n0 ≤ h0.size := Z0
  have N0 := Fr.nil n0
  show GoW p e below s ((Q_hf2 Z (1 : Int32) h0)) ({ frames := 2, cells := 6, slots := 28, locals := 28 } : Room).cells ({ frames := 2, cells := 6, slots := 28, locals := 28 } : Room).slots (s₁.setTop (entryFrame m #[(.ref a0), (.int p1)] 2))
  rw [ef_3 m a0 p1]
  subst hp1
  refine GoW.st (S' := s₁.setTop (mkF m 1 #[.val (.ref a0), .val (.int (-1 : Int32))] [(.ref a0)])) (fun _ kk => XS.aloadN X0.here hx rfl (hb hby d3_0) rfl rfl kk) ?_
  obtain ⟨b1, T1, h1, k1, v1, c1, X1, e1, E1, hS1, hk1, hZ1, ho1, E_b1, FC_b1, FV_b1, V_v1, -, -, I, Li_b1, st1⟩ := ldcSVL (s := s.setVm s.vm) (vm0 := s.vm) X0 hx hZ hown (hw _ (List.mem_of_getElem? (i := 21) rfl)) (own_wS hw) e0 ((State.WarmedH.refl _).since _) (Nat.le_refl _) (own_frm N0 (Nat.le_of_eq hsz.symm)) hkp I (by decide) (hC _ (List.mem_of_getElem? (i := 0) rfl)) hcw (vs := ([61] : List Int32).map .int) (z := (1 : Int32)) ⟨by decide, by decide⟩ (by decide) (by decide) (g := (mkF m 1 #[.val (.ref a0), .val (.int (-1 : Int32))] [(.ref a0)])) rfl (hb hby d3_1) (n := 4) (by decide) (by decide) (by decide : 0 + 2 ≤ _) (by decide : 0 + 8 ≤ _)
  have X1 : Stand p l e _ (s.setVm T1.vm) m _ below meth c T1 _ _ _ := X1
  have Li_b1 : LitV Z T1.vm "com/example/winj/winj/storage/ComparisonOrdersPinLaw" 7 b1 := Li_b1
  have O_z := O_z.ext E1
  have S_C := S_C.ext E1
  have E_a0 := E_a0.ext E1
  have FC_a0 := FC_a0.ext E1
  have FV_a0 := FV_a0.ext E1
  have V_d0 := V_d0.ext E1
  have Zs2 := Nat.le_trans Z0 E1.1
  have hk := Nat.le_trans hk E1.1
  have Kp3 := (Keep.refl h0 []).ext E1
  have hS := hS.trans (own_sinceM hS1 hk1) hk
  have hk := Nat.le_refl h1.size
  have hZ := hZ1
  have hown := ho1
  refine GoW.st (S' := T1.setTop (mkF m 3 #[.val (.ref a0), .val (.int (-1 : Int32))] [(.ref b1), (.ref a0)])) st1 ?_
  obtain ⟨cq4, kq4, q4a, q4b, q4c⟩ := isOf hZ e1 E_a0
  obtain ⟨_, _, ⟨T4, L4, k4, n4⟩, -, X4, ⟨Lc4, hQ4, l4, y4, z4⟩, st4⟩ := X1.virtualBack hx (y := (⟨"java/lang/String", "equals", "(Ljava/lang/Object;)Z"⟩ : MethodName)) (z := (⟨"java/lang/String", "equals", "(Ljava/lang/Object;)Z"⟩ : MethodName)) hown (mvT hZ (hw _ (List.mem_of_getElem? (i := 29) rfl))) (mvT hZ (hw _ (List.mem_of_getElem? (i := 30) rfl))) (notFace_of_selects (args := #[]) (mvT hZ (hw _ (List.mem_of_getElem? (i := 32) rfl)))) (mvT hZ (hw _ (List.mem_of_getElem? (i := 32) rfl))) (mvT hZ (hw _ (List.mem_of_getElem? (i := 31) rfl))) (by decide) (backOf (W := 0) (rmSE l Z az hw [] a0 b1 zc d0 v1 kd c1 (1 : Int32) (1 : Int32) ([60] : List Int32) ([61] : List Int32) h1 n0 Zs2 S_C hzc E_a0 FC_a0 FV_a0 V_d0 (by decide) E_b1 FC_b1 FV_b1 V_v1 (by decide)) hZ (hw _ (List.mem_of_getElem? (i := 33) rfl)) (hw _ (List.mem_of_getElem? (i := 22) rfl)) (by decide) (by decide)) q4a q4c (g := (mkF m 3 #[.val (.ref a0), .val (.int (-1 : Int32))] [(.ref b1), (.ref a0)])) rfl (by rw [hml]; rfl) (Steps.refl _) (argsL := [(.ref b1)]) (rest := []) (lenOf pd_3 rfl) rfl (by show 2 * 0 + _ ≤ _; exact Nat.le_of_eq rfl) (hb hby d3_3) (fun _ _ => ⟨rfl, e1, (by decide : 2 + 0 ≤ _), (by decide : 8 + 0 ≤ _)⟩)
  dsimp only [Pt.U, Pt.locs, Pt.cells, Pt.slots] at X4 l4 y4 z4 st4 hQ4
  subst l4 y4 z4
  obtain ⟨hv4, N4q, e4⟩ := hQ4
  rw [show own_eqI ([60] : List Int32) ([61] : List Int32) = (0 : Int32) from by decide] at hv4
  subst hv4
  have N4 := Fr.app N0 N4q
  refine GoW.tr (S' := T4.setTop (mkF m 6 #[.val (.ref a0), .val (.int (-1 : Int32))] [(.int (0 : Int32))])) st4 ?_
  refine GoW.st (S' := T4.setTop (mkF m 19 #[.val (.ref a0), .val (.int (-1 : Int32))] [])) (fun _ kk => XS.ifYes X4.here hx rfl (pc0 := 6) (pc' := 19) rfl (hb hby d3_6) rfl ((if0 _ _).trans (teq (by decide : (0 : Int32) = (0 : Int32))).1) (by decide) (by decide) kk) ?_
  refine GoW.st (S' := T4.setTop (mkF m 20 #[.val (.ref a0), .val (.int (-1 : Int32))] [(.ref a0)])) (fun _ kk => XS.aloadN X4.here hx rfl (hb hby d3_19) rfl rfl kk) ?_
  obtain ⟨b5, T5, h5, k5, v5, c5, X5, e5, E5, hS5, hk5, hZ5, ho5, E_b5, FC_b5, FV_b5, V_v5, -, -, I, Li_b5, st5⟩ := ldcSVL (s := s.setVm T1.vm) (vm0 := T1.vm) X4 hx hZ hown (hw _ (List.mem_of_getElem? (i := 47) rfl)) (own_wS hw) e4 ((State.WarmedH.refl _).since _) (Nat.le_refl _) (own_frm N4 (Nat.le_of_eq hsz.symm)) hkp I (by decide) (hC _ (List.mem_of_getElem? (i := 1) rfl)) hcw (vs := ([60, 62] : List Int32).map .int) (z := (2 : Int32)) ⟨by decide, by decide⟩ (by decide) (by decide) (g := (mkF m 20 #[.val (.ref a0), .val (.int (-1 : Int32))] [(.ref a0)])) rfl (hb hby d3_20) (n := 8) (by decide) (by decide) (by decide : 2 + 2 ≤ _) (by decide : 8 + 12 ≤ _)
  have X5 : Stand p l e _ (s.setVm T5.vm) m _ below meth c T5 _ _ _ := X5
  have Li_b1 := LitV.stays (s := s) Li_b1 hS5.1
  have Li_b5 : LitV Z T5.vm "com/example/winj/winj/storage/ComparisonOrdersPinLaw" 15 b5 := Li_b5
  have O_z := O_z.ext E5
  have S_C := S_C.ext E5
  have E_a0 := E_a0.ext E5
  have FC_a0 := FC_a0.ext E5
  have FV_a0 := FV_a0.ext E5
  have V_d0 := V_d0.ext E5
  have E_b1 := E_b1.ext E5
  have FC_b1 := FC_b1.ext E5
  have FV_b1 := FV_b1.ext E5
  have V_v1 := V_v1.ext E5
  have Zs6 := Nat.le_trans Zs2 E5.1
  have hk := Nat.le_trans hk E5.1
  have Kp7 := Kp3.ext E5
  have hS := hS.trans (own_sinceM hS5 hk5) hk
  have hk := Nat.le_refl h5.size
  have hZ := hZ5
  have hown := ho5
  refine GoW.st (S' := T5.setTop (mkF m 22 #[.val (.ref a0), .val (.int (-1 : Int32))] [(.ref b5), (.ref a0)])) st5 ?_
  obtain ⟨cq8, kq8, q8a, q8b, q8c⟩ := isOf hZ e5 E_a0
  obtain ⟨_, _, ⟨T8, L8, k8, n8⟩, -, X8, ⟨Lc8, hQ8, l8, y8, z8⟩, st8⟩ := X5.virtualBack hx (y := (⟨"java/lang/String", "equals", "(Ljava/lang/Object;)Z"⟩ : MethodName)) (z := (⟨"java/lang/String", "equals", "(Ljava/lang/Object;)Z"⟩ : MethodName)) hown (mvT hZ (hw _ (List.mem_of_getElem? (i := 29) rfl))) (mvT hZ (hw _ (List.mem_of_getElem? (i := 30) rfl))) (notFace_of_selects (args := #[]) (mvT hZ (hw _ (List.mem_of_getElem? (i := 32) rfl)))) (mvT hZ (hw _ (List.mem_of_getElem? (i := 32) rfl))) (mvT hZ (hw _ (List.mem_of_getElem? (i := 31) rfl))) (by decide) (backOf (W := 0) (rmSE l Z az hw [] a0 b5 zc d0 v5 kd c5 (1 : Int32) (2 : Int32) ([60] : List Int32) ([60, 62] : List Int32) h5 n0 Zs6 S_C hzc E_a0 FC_a0 FV_a0 V_d0 (by decide) E_b5 FC_b5 FV_b5 V_v5 (by decide)) hZ (hw _ (List.mem_of_getElem? (i := 33) rfl)) (hw _ (List.mem_of_getElem? (i := 22) rfl)) (by decide) (by decide)) q8a q8c (g := (mkF m 22 #[.val (.ref a0), .val (.int (-1 : Int32))] [(.ref b5), (.ref a0)])) rfl (by rw [hml]; rfl) (Steps.refl _) (argsL := [(.ref b5)]) (rest := []) (lenOf pd_3 rfl) rfl (by show 2 * 0 + _ ≤ _; exact Nat.le_of_eq rfl) (hb hby d3_22) (fun _ _ => ⟨rfl, e5, (by decide : 4 + 0 ≤ _), (by decide : 20 + 0 ≤ _)⟩)
  dsimp only [Pt.U, Pt.locs, Pt.cells, Pt.slots] at X8 l8 y8 z8 st8 hQ8
  subst l8 y8 z8
  obtain ⟨hv8, N8q, e8⟩ := hQ8
  rw [show own_eqI ([60] : List Int32) ([60, 62] : List Int32) = (0 : Int32) from by decide] at hv8
  subst hv8
  have N8 := Fr.app N4 N8q
  refine GoW.tr (S' := T8.setTop (mkF m 25 #[.val (.ref a0), .val (.int (-1 : Int32))] [(.int (0 : Int32))])) st8 ?_
  refine GoW.st (S' := T8.setTop (mkF m 38 #[.val (.ref a0), .val (.int (-1 : Int32))] [])) (fun _ kk => XS.ifYes X8.here hx rfl (pc0 := 25) (pc' := 38) rfl (hb hby d3_25) rfl ((if0 _ _).trans (teq (by decide : (0 : Int32) = (0 : Int32))).1) (by decide) (by decide) kk) ?_
  refine GoW.st (S' := T8.setTop (mkF m 39 #[.val (.ref a0), .val (.int (-1 : Int32))] [(.ref a0)])) (fun _ kk => XS.aloadN X8.here hx rfl (hb hby d3_38) rfl rfl kk) ?_
  obtain ⟨b9, T9, h9, k9, v9, c9, X9, e9, E9, hS9, hk9, hZ9, ho9, E_b9, FC_b9, FV_b9, V_v9, -, -, I, Li_b9, st9⟩ := ldcSVL (s := s.setVm T5.vm) (vm0 := T5.vm) X8 hx hZ hown (hw _ (List.mem_of_getElem? (i := 48) rfl)) (own_wS hw) e8 ((State.WarmedH.refl _).since _) (Nat.le_refl _) (own_frm N8 (Nat.le_of_eq hsz.symm)) hkp I (by decide) (hC _ (List.mem_of_getElem? (i := 2) rfl)) hcw (vs := ([60] : List Int32).map .int) (z := (1 : Int32)) ⟨by decide, by decide⟩ (by decide) (by decide) (g := (mkF m 39 #[.val (.ref a0), .val (.int (-1 : Int32))] [(.ref a0)])) rfl (hb hby d3_39) (n := 4) (by decide) (by decide) (by decide : 4 + 2 ≤ _) (by decide : 20 + 8 ≤ _)
  have X9 : Stand p l e _ (s.setVm T9.vm) m _ below meth c T9 _ _ _ := X9
  have Li_b1 := LitV.stays (s := s) Li_b1 hS9.1
  have Li_b5 := LitV.stays (s := s) Li_b5 hS9.1
  have Li_b9 : LitV Z T9.vm "com/example/winj/winj/storage/ComparisonOrdersPinLaw" 17 b9 := Li_b9
  have O_z := O_z.ext E9
  have S_C := S_C.ext E9
  have E_a0 := E_a0.ext E9
  have FC_a0 := FC_a0.ext E9
  have FV_a0 := FV_a0.ext E9
  have V_d0 := V_d0.ext E9
  have E_b1 := E_b1.ext E9
  have FC_b1 := FC_b1.ext E9
  have FV_b1 := FV_b1.ext E9
  have V_v1 := V_v1.ext E9
  have E_b5 := E_b5.ext E9
  have FC_b5 := FC_b5.ext E9
  have FV_b5 := FV_b5.ext E9
  have V_v5 := V_v5.ext E9
  have Zs10 := Nat.le_trans Zs6 E9.1
  have hk := Nat.le_trans hk E9.1
  have Kp11 := Kp7.ext E9
  have hS := hS.trans (own_sinceM hS9 hk9) hk
  have hk := Nat.le_refl h9.size
  have hZ := hZ9
  have hown := ho9
  refine GoW.st (S' := T9.setTop (mkF m 41 #[.val (.ref a0), .val (.int (-1 : Int32))] [(.ref b9), (.ref a0)])) st9 ?_
  obtain ⟨cq12, kq12, q12a, q12b, q12c⟩ := isOf hZ e9 E_a0
  obtain ⟨_, _, ⟨T12, L12, k12, n12⟩, -, X12, ⟨Lc12, hQ12, l12, y12, z12⟩, st12⟩ := X9.virtualBack hx (y := (⟨"java/lang/String", "equals", "(Ljava/lang/Object;)Z"⟩ : MethodName)) (z := (⟨"java/lang/String", "equals", "(Ljava/lang/Object;)Z"⟩ : MethodName)) hown (mvT hZ (hw _ (List.mem_of_getElem? (i := 29) rfl))) (mvT hZ (hw _ (List.mem_of_getElem? (i := 30) rfl))) (notFace_of_selects (args := #[]) (mvT hZ (hw _ (List.mem_of_getElem? (i := 32) rfl)))) (mvT hZ (hw _ (List.mem_of_getElem? (i := 32) rfl))) (mvT hZ (hw _ (List.mem_of_getElem? (i := 31) rfl))) (by decide) (backOf (W := 0) (rmSE l Z az hw [] a0 b9 zc d0 v9 kd c9 (1 : Int32) (1 : Int32) ([60] : List Int32) ([60] : List Int32) h9 n0 Zs10 S_C hzc E_a0 FC_a0 FV_a0 V_d0 (by decide) E_b9 FC_b9 FV_b9 V_v9 (by decide)) hZ (hw _ (List.mem_of_getElem? (i := 33) rfl)) (hw _ (List.mem_of_getElem? (i := 22) rfl)) (by decide) (by decide)) q12a q12c (g := (mkF m 41 #[.val (.ref a0), .val (.int (-1 : Int32))] [(.ref b9), (.ref a0)])) rfl (by rw [hml]; rfl) (Steps.refl _) (argsL := [(.ref b9)]) (rest := []) (lenOf pd_3 rfl) rfl (by show 2 * 0 + _ ≤ _; exact Nat.le_of_eq rfl) (hb hby d3_41) (fun _ _ => ⟨rfl, e9, (by decide : 6 + 0 ≤ _), (by decide : 28 + 0 ≤ _)⟩)
  dsimp only [Pt.U, Pt.locs, Pt.cells, Pt.slots] at X12 l12 y12 z12 st12 hQ12
  subst l12 y12 z12
  obtain ⟨hv12, N12q, e12⟩ := hQ12
  rw [show own_eqI ([60] : List Int32) ([60] : List Int32) = (1 : Int32) from by decide] at hv12
  subst hv12
  have N12 := Fr.app N8 N12q
  refine GoW.tr (S' := T12.setTop (mkF m 44 #[.val (.ref a0), .val (.int (-1 : Int32))] [(.int (1 : Int32))])) st12 ?_
  refine GoW.st (S' := T12.setTop (mkF m 47 #[.val (.ref a0), .val (.int (-1 : Int32))] [])) (fun _ kk => XS.ifNo X12.here hx rfl (hb hby d3_44) rfl ((if0 _ _).trans (feq (by decide : ¬ ((1 : Int32) = (0 : Int32)))).1) kk) ?_
  refine GoW.st (S' := T12.setTop (mkF m 48 #[.val (.ref a0), .val (.int (-1 : Int32))] [(.int (-1 : Int32))])) (fun _ kk => XS.iloadN X12.here hx rfl (hb hby d3_47) rfl kk) ?_
  refine GoW.st (S' := T12.setTop (mkF m 51 #[.val (.ref a0), .val (.int (-1 : Int32))] [])) (fun _ kk => XS.ifNo X12.here hx rfl (hb hby d3_48) rfl ((if0 _ _).trans (tlt (by decide : (-1 : Int32) < (0 : Int32))).2.1) kk) ?_
  refine GoW.st (S' := T12.setTop (mkF m 52 #[.val (.ref a0), .val (.int (-1 : Int32))] [(.int (1 : Int32))])) (fun _ kk => XS.iconst X12.here hx rfl (hb hby d3_51) kk) ?_
  refine GoW.st (S' := T12.setTop (mkF m 56 #[.val (.ref a0), .val (.int (-1 : Int32))] [(.int (1 : Int32))])) (fun _ kk => XS.goto X12.here hx rfl (pc0 := 52) (pc' := 56) rfl (hb hby d3_52) (by decide) (by decide) kk) ?_
  have Li_b1' := LitV.stays (s := s) Li_b1 X12.warmed.wide
  have Li_b5' := LitV.stays (s := s) Li_b5 X12.warmed.wide
  have Li_b9' := LitV.stays (s := s) Li_b9 X12.warmed.wide
  exact GoW.retN X12 hx hlk hS (own_hk e12 hk) (t := .boolean) Bd.returns (by simp) (hb hby d3_56) (by rw [e12]; exact ⟨rfl, hn0 ▸ N12, own_extk Kp11, b1, v1, c1, b5, v5, c5, b9, v9, c9, ⟨Li_b1', E_b1, FC_b1, FV_b1, V_v1⟩, ⟨Li_b5', E_b5, FC_b5, FV_b5, V_v5⟩, ⟨Li_b9', E_b9, FC_b9, FV_b9, V_v9⟩⟩) (by decide) (by decide)
def PV_a2 (Z : State) (la0 : Addr) (la1 : Addr) (la2 : Addr) (vm : Vm) : Prop := LitV Z vm "com/example/winj/winj/storage/ComparisonOrdersPinLaw" 7 la0 ∧ LitV Z vm "com/example/winj/winj/storage/ComparisonOrdersPinLaw" 15 la1 ∧ LitV Z vm "com/example/winj/winj/storage/ComparisonOrdersPinLaw" 17 la2
set_option maxRecDepth 65536 in
set_option maxHeartbeats 4000000 in
theorem rmHa2 (l : Launch) (Z : State) (az : Array Value) (hw : ∀ d ∈ tables_1, d.before az Z = true) (ws : List Jvm.Cond) (a0 : Addr) (p1 : Int32) (zc : Int32) (d0 : Addr) (kd : ClassId) (la0 lb0 : Addr) (lk0 : ClassId) (la1 lb1 : Addr) (lk1 : ClassId) (la2 lb2 : Addr) (lk2 : ClassId) (h0 : Heap) (hC : Jvm.D.constsHeld consts_1 Z) (hcw : Jvm.Lit.compactW.before az Z = true) (nz : Nat) (O_z : Old Z nz h0) (S_C : Sta Z h0 "java/lang/String" "COMPACT_STRINGS" "Z" (.int zc)) (hzc : ¬ zc = 0) (E_a0 : Exa Z h0 a0 "java/lang/String") (FC_a0 : Fld Z h0 a0 "java/lang/String" "coder" "B" (.int 0)) (FV_a0 : Fld Z h0 a0 "java/lang/String" "value" "[B" (.ref d0)) (V_d0 : Arv Z h0 d0 kd .byte (1 : Int32) (([60] : List Int32).map .int) (.int 0)) (E_la0 : Exa Z h0 la0 "java/lang/String") (FC_la0 : Fld Z h0 la0 "java/lang/String" "coder" "B" (.int 0)) (FV_la0 : Fld Z h0 la0 "java/lang/String" "value" "[B" (.ref lb0)) (V_lb0 : Arv Z h0 lb0 lk0 .byte (1 : Int32) (([61] : List Int32).map .int) (.int 0)) (E_la1 : Exa Z h0 la1 "java/lang/String") (FC_la1 : Fld Z h0 la1 "java/lang/String" "coder" "B" (.int 0)) (FV_la1 : Fld Z h0 la1 "java/lang/String" "value" "[B" (.ref lb1)) (V_lb1 : Arv Z h0 lb1 lk1 .byte (2 : Int32) (([60, 62] : List Int32).map .int) (.int 0)) (E_la2 : Exa Z h0 la2 "java/lang/String") (FC_la2 : Fld Z h0 la2 "java/lang/String" "coder" "B" (.int 0)) (FV_la2 : Fld Z h0 la2 "java/lang/String" "value" "[B" (.ref lb2)) (V_lb2 : Arv Z h0 lb2 lk2 .byte (1 : Int32) (([60] : List Int32).map .int) (.int 0)) (hp1 : p1 = (1 : Int32)) :
    MetFree l (⟨"com/example/winj/winj/storage/ComparisonOrdersPinLaw", "holds", "(Ljava/lang/String;I)Z"⟩ : MethodName) (head1 (Jvm.Cond.code (⟨"com/example/winj/winj/storage/ComparisonOrdersPinLaw", "holds", "(Ljava/lang/String;I)Z"⟩ : MethodName) method_2_code 2 (some .boolean) :: ws) ({ frames := 2, cells := 0, slots := 0, locals := 28 } : Room)) (fun a U => a = #[(.ref a0), (.int p1)] ∧ Z.Warmed39 U.vm ∧ U.heap = h0 ∧ (PV_a2 Z la0 la1 la2) U.vm) (fun _ _ _ _ _ => True) (fun _ U o U' => ∃ v L, o = .returned v ∧ (Q_ha (0 : Int32) h0) v U'.heap U'.vm L ∧ ReturnedEndW U o U' L ({ frames := 2, cells := 0, slots := 0, locals := 28 } : Room).cells ({ frames := 2, cells := 0, slots := 0, locals := 28 } : Room).slots) := by
  refine MetFree.of_bodySF (plainFor_of_name pn_3) hisR ?_
  intro p e s m args below meth c s₁ Bd hml0 hP hK
  obtain ⟨rfl, hZ, hh, Li0, Li1, Li2⟩ := hP
  have hx := Bd.exec
  have hby := Bd.bytes
  have hlk : meth.locks = false := Bd.notSynchronized
  have hml : c.maxLocals = 2 := hml0
  have hown : s.vm.findClass "com/example/winj/winj/storage/ComparisonOrdersPinLaw" = some m.cls := findClass_of_methodNamed Bd.named
  have hnm := (name_of_methodNamed Bd.named Bd.method).1
  have X0 : Stand p l e ({ frames := 2, cells := 0, slots := 0, locals := 28 } : Room) s m #[(.ref a0), (.int p1)] below meth c s₁ [] 0 0 := Stand.of_body Bd
  have X0 : Stand p l e ({ frames := 2, cells := 0, slots := 0, locals := 28 } : Room) (s.setVm s.vm) m #[(.ref a0), (.int p1)] below meth c s₁ [] 0 0 := X0
  have e0 : s₁.heap = h0 := by rw [← hh, Bd.state]; rfl
  have hkp : ∀ (b : Addr) (cl : Cell), Z.heap[b]? = some cl → s.heap[b]? = some cl := by rw [hh]; exact own_keepOld O_z
  obtain ⟨n0, hn0⟩ : ∃ n, n = h0.size := ⟨_, rfl⟩
  have Z0 : n0 ≤ h0.size := Nat.le_of_eq hn0
  have hsz : n0 = s.heap.size := by rw [hn0, hh]
  have hS : s.Since s.vm n0 := (State.WarmedH.refl s).since n0
  have hk : n0 ≤ h0.size := Z0
  have N0 := Fr.nil n0
  show GoW p e below s ((Q_ha (0 : Int32) h0)) ({ frames := 2, cells := 0, slots := 0, locals := 28 } : Room).cells ({ frames := 2, cells := 0, slots := 0, locals := 28 } : Room).slots (s₁.setTop (entryFrame m #[(.ref a0), (.int p1)] 2))
  rw [ef_3 m a0 p1]
  subst hp1
  refine GoW.st (S' := s₁.setTop (mkF m 1 #[.val (.ref a0), .val (.int (1 : Int32))] [(.ref a0)])) (fun _ kk => XS.aloadN X0.here hx rfl (hb hby d3_0) rfl rfl kk) ?_
  refine GoW.st (S' := s₁.setTop (mkF m 3 #[.val (.ref a0), .val (.int (1 : Int32))] [(.ref la0), (.ref a0)])) (fun _ kk => ldcAgain X0 hx hZ hown (hw _ (List.mem_of_getElem? (i := 21) rfl)) Li0 (g := (mkF m 1 #[.val (.ref a0), .val (.int (1 : Int32))] [(.ref a0)])) rfl (hb hby d3_1) _ kk) ?_
  obtain ⟨cq1, kq1, q1a, q1b, q1c⟩ := isOf hZ e0 E_a0
  obtain ⟨_, _, ⟨T1, L1, k1, n1⟩, -, X1, ⟨Lc1, hQ1, l1, y1, z1⟩, st1⟩ := X0.virtualBack hx (y := (⟨"java/lang/String", "equals", "(Ljava/lang/Object;)Z"⟩ : MethodName)) (z := (⟨"java/lang/String", "equals", "(Ljava/lang/Object;)Z"⟩ : MethodName)) hown (mvT hZ (hw _ (List.mem_of_getElem? (i := 29) rfl))) (mvT hZ (hw _ (List.mem_of_getElem? (i := 30) rfl))) (notFace_of_selects (args := #[]) (mvT hZ (hw _ (List.mem_of_getElem? (i := 32) rfl)))) (mvT hZ (hw _ (List.mem_of_getElem? (i := 32) rfl))) (mvT hZ (hw _ (List.mem_of_getElem? (i := 31) rfl))) (by decide) (backOf (W := 0) (rmSE l Z az hw [] a0 la0 zc d0 lb0 kd lk0 (1 : Int32) (1 : Int32) ([60] : List Int32) ([61] : List Int32) h0 n0 Z0 S_C hzc E_a0 FC_a0 FV_a0 V_d0 (by decide) E_la0 FC_la0 FV_la0 V_lb0 (by decide)) hZ (hw _ (List.mem_of_getElem? (i := 33) rfl)) (hw _ (List.mem_of_getElem? (i := 22) rfl)) (by decide) (by decide)) q1a q1c (g := (mkF m 3 #[.val (.ref a0), .val (.int (1 : Int32))] [(.ref la0), (.ref a0)])) rfl (by rw [hml]; rfl) (Steps.refl _) (argsL := [(.ref la0)]) (rest := []) (lenOf pd_3 rfl) rfl (by show 2 * 0 + _ ≤ _; exact Nat.le_of_eq rfl) (hb hby d3_3) (fun _ _ => ⟨rfl, e0, (by decide : 0 + 0 ≤ _), (by decide : 0 + 0 ≤ _)⟩)
  dsimp only [Pt.U, Pt.locs, Pt.cells, Pt.slots] at X1 l1 y1 z1 st1 hQ1
  subst l1 y1 z1
  obtain ⟨hv1, N1q, e1⟩ := hQ1
  rw [show own_eqI ([60] : List Int32) ([61] : List Int32) = (0 : Int32) from by decide] at hv1
  subst hv1
  have N1 := Fr.app N0 N1q
  refine GoW.tr (S' := T1.setTop (mkF m 6 #[.val (.ref a0), .val (.int (1 : Int32))] [(.int (0 : Int32))])) st1 ?_
  refine GoW.st (S' := T1.setTop (mkF m 19 #[.val (.ref a0), .val (.int (1 : Int32))] [])) (fun _ kk => XS.ifYes X1.here hx rfl (pc0 := 6) (pc' := 19) rfl (hb hby d3_6) rfl ((if0 _ _).trans (teq (by decide : (0 : Int32) = (0 : Int32))).1) (by decide) (by decide) kk) ?_
  refine GoW.st (S' := T1.setTop (mkF m 20 #[.val (.ref a0), .val (.int (1 : Int32))] [(.ref a0)])) (fun _ kk => XS.aloadN X1.here hx rfl (hb hby d3_19) rfl rfl kk) ?_
  refine GoW.st (S' := T1.setTop (mkF m 22 #[.val (.ref a0), .val (.int (1 : Int32))] [(.ref la1), (.ref a0)])) (fun _ kk => ldcAgain X1 hx hZ hown (hw _ (List.mem_of_getElem? (i := 47) rfl)) Li1 (g := (mkF m 20 #[.val (.ref a0), .val (.int (1 : Int32))] [(.ref a0)])) rfl (hb hby d3_20) _ kk) ?_
  obtain ⟨cq2, kq2, q2a, q2b, q2c⟩ := isOf hZ e1 E_a0
  obtain ⟨_, _, ⟨T2, L2, k2, n2⟩, -, X2, ⟨Lc2, hQ2, l2, y2, z2⟩, st2⟩ := X1.virtualBack hx (y := (⟨"java/lang/String", "equals", "(Ljava/lang/Object;)Z"⟩ : MethodName)) (z := (⟨"java/lang/String", "equals", "(Ljava/lang/Object;)Z"⟩ : MethodName)) hown (mvT hZ (hw _ (List.mem_of_getElem? (i := 29) rfl))) (mvT hZ (hw _ (List.mem_of_getElem? (i := 30) rfl))) (notFace_of_selects (args := #[]) (mvT hZ (hw _ (List.mem_of_getElem? (i := 32) rfl)))) (mvT hZ (hw _ (List.mem_of_getElem? (i := 32) rfl))) (mvT hZ (hw _ (List.mem_of_getElem? (i := 31) rfl))) (by decide) (backOf (W := 0) (rmSE l Z az hw [] a0 la1 zc d0 lb1 kd lk1 (1 : Int32) (2 : Int32) ([60] : List Int32) ([60, 62] : List Int32) h0 n0 Z0 S_C hzc E_a0 FC_a0 FV_a0 V_d0 (by decide) E_la1 FC_la1 FV_la1 V_lb1 (by decide)) hZ (hw _ (List.mem_of_getElem? (i := 33) rfl)) (hw _ (List.mem_of_getElem? (i := 22) rfl)) (by decide) (by decide)) q2a q2c (g := (mkF m 22 #[.val (.ref a0), .val (.int (1 : Int32))] [(.ref la1), (.ref a0)])) rfl (by rw [hml]; rfl) (Steps.refl _) (argsL := [(.ref la1)]) (rest := []) (lenOf pd_3 rfl) rfl (by show 2 * 0 + _ ≤ _; exact Nat.le_of_eq rfl) (hb hby d3_22) (fun _ _ => ⟨rfl, e1, (by decide : 0 + 0 ≤ _), (by decide : 0 + 0 ≤ _)⟩)
  dsimp only [Pt.U, Pt.locs, Pt.cells, Pt.slots] at X2 l2 y2 z2 st2 hQ2
  subst l2 y2 z2
  obtain ⟨hv2, N2q, e2⟩ := hQ2
  rw [show own_eqI ([60] : List Int32) ([60, 62] : List Int32) = (0 : Int32) from by decide] at hv2
  subst hv2
  have N2 := Fr.app N1 N2q
  refine GoW.tr (S' := T2.setTop (mkF m 25 #[.val (.ref a0), .val (.int (1 : Int32))] [(.int (0 : Int32))])) st2 ?_
  refine GoW.st (S' := T2.setTop (mkF m 38 #[.val (.ref a0), .val (.int (1 : Int32))] [])) (fun _ kk => XS.ifYes X2.here hx rfl (pc0 := 25) (pc' := 38) rfl (hb hby d3_25) rfl ((if0 _ _).trans (teq (by decide : (0 : Int32) = (0 : Int32))).1) (by decide) (by decide) kk) ?_
  refine GoW.st (S' := T2.setTop (mkF m 39 #[.val (.ref a0), .val (.int (1 : Int32))] [(.ref a0)])) (fun _ kk => XS.aloadN X2.here hx rfl (hb hby d3_38) rfl rfl kk) ?_
  refine GoW.st (S' := T2.setTop (mkF m 41 #[.val (.ref a0), .val (.int (1 : Int32))] [(.ref la2), (.ref a0)])) (fun _ kk => ldcAgain X2 hx hZ hown (hw _ (List.mem_of_getElem? (i := 48) rfl)) Li2 (g := (mkF m 39 #[.val (.ref a0), .val (.int (1 : Int32))] [(.ref a0)])) rfl (hb hby d3_39) _ kk) ?_
  obtain ⟨cq3, kq3, q3a, q3b, q3c⟩ := isOf hZ e2 E_a0
  obtain ⟨_, _, ⟨T3, L3, k3, n3⟩, -, X3, ⟨Lc3, hQ3, l3, y3, z3⟩, st3⟩ := X2.virtualBack hx (y := (⟨"java/lang/String", "equals", "(Ljava/lang/Object;)Z"⟩ : MethodName)) (z := (⟨"java/lang/String", "equals", "(Ljava/lang/Object;)Z"⟩ : MethodName)) hown (mvT hZ (hw _ (List.mem_of_getElem? (i := 29) rfl))) (mvT hZ (hw _ (List.mem_of_getElem? (i := 30) rfl))) (notFace_of_selects (args := #[]) (mvT hZ (hw _ (List.mem_of_getElem? (i := 32) rfl)))) (mvT hZ (hw _ (List.mem_of_getElem? (i := 32) rfl))) (mvT hZ (hw _ (List.mem_of_getElem? (i := 31) rfl))) (by decide) (backOf (W := 0) (rmSE l Z az hw [] a0 la2 zc d0 lb2 kd lk2 (1 : Int32) (1 : Int32) ([60] : List Int32) ([60] : List Int32) h0 n0 Z0 S_C hzc E_a0 FC_a0 FV_a0 V_d0 (by decide) E_la2 FC_la2 FV_la2 V_lb2 (by decide)) hZ (hw _ (List.mem_of_getElem? (i := 33) rfl)) (hw _ (List.mem_of_getElem? (i := 22) rfl)) (by decide) (by decide)) q3a q3c (g := (mkF m 41 #[.val (.ref a0), .val (.int (1 : Int32))] [(.ref la2), (.ref a0)])) rfl (by rw [hml]; rfl) (Steps.refl _) (argsL := [(.ref la2)]) (rest := []) (lenOf pd_3 rfl) rfl (by show 2 * 0 + _ ≤ _; exact Nat.le_of_eq rfl) (hb hby d3_41) (fun _ _ => ⟨rfl, e2, (by decide : 0 + 0 ≤ _), (by decide : 0 + 0 ≤ _)⟩)
  dsimp only [Pt.U, Pt.locs, Pt.cells, Pt.slots] at X3 l3 y3 z3 st3 hQ3
  subst l3 y3 z3
  obtain ⟨hv3, N3q, e3⟩ := hQ3
  rw [show own_eqI ([60] : List Int32) ([60] : List Int32) = (1 : Int32) from by decide] at hv3
  subst hv3
  have N3 := Fr.app N2 N3q
  refine GoW.tr (S' := T3.setTop (mkF m 44 #[.val (.ref a0), .val (.int (1 : Int32))] [(.int (1 : Int32))])) st3 ?_
  refine GoW.st (S' := T3.setTop (mkF m 47 #[.val (.ref a0), .val (.int (1 : Int32))] [])) (fun _ kk => XS.ifNo X3.here hx rfl (hb hby d3_44) rfl ((if0 _ _).trans (feq (by decide : ¬ ((1 : Int32) = (0 : Int32)))).1) kk) ?_
  refine GoW.st (S' := T3.setTop (mkF m 48 #[.val (.ref a0), .val (.int (1 : Int32))] [(.int (1 : Int32))])) (fun _ kk => XS.iloadN X3.here hx rfl (hb hby d3_47) rfl kk) ?_
  refine GoW.st (S' := T3.setTop (mkF m 55 #[.val (.ref a0), .val (.int (1 : Int32))] [])) (fun _ kk => XS.ifYes X3.here hx rfl (pc0 := 48) (pc' := 55) rfl (hb hby d3_48) rfl ((if0 _ _).trans (flt (by decide : ¬ ((1 : Int32) < (0 : Int32)))).2.1) (by decide) (by decide) kk) ?_
  refine GoW.st (S' := T3.setTop (mkF m 56 #[.val (.ref a0), .val (.int (1 : Int32))] [(.int (0 : Int32))])) (fun _ kk => XS.iconst X3.here hx rfl (hb hby d3_55) kk) ?_
  exact GoW.retN X3 hx hlk hS (own_hk e3 hk) (t := .boolean) Bd.returns (by simp) (hb hby d3_56) (⟨rfl, hn0 ▸ N3, e3⟩) (by decide) (by decide)
def Q_hf3 (Z : State) (r : Int32) (h0 : Heap) (v : Option Value) (h : Heap) (vm : Vm) (L : List Loc) : Prop := v = some (.int r) ∧ Fr h0.size L ∧ Ext h0 h ∧ ∃ (a0 b0 : Addr) (k0 : ClassId) (a1 b1 : Addr) (k1 : ClassId) (a2 b2 : Addr) (k2 : ClassId) (a3 b3 : Addr) (k3 : ClassId), LS Z h vm 7 ([61] : List Int32) (1 : Int32) a0 b0 k0 ∧ LS Z h vm 15 ([60, 62] : List Int32) (2 : Int32) a1 b1 k1 ∧ LS Z h vm 17 ([60] : List Int32) (1 : Int32) a2 b2 k2 ∧ LS Z h vm 19 ([60, 61] : List Int32) (2 : Int32) a3 b3 k3
set_option maxRecDepth 65536 in
set_option maxHeartbeats 4000000 in
theorem rmHf3 (l : Launch) (Z : State) (az : Array Value) (hw : ∀ d ∈ tables_1, d.before az Z = true) (ws : List Jvm.Cond) (a0 : Addr) (p1 : Int32) (zc : Int32) (d0 : Addr) (kd : ClassId) (h0 : Heap) (hC : Jvm.D.constsHeld consts_1 Z) (hcw : Jvm.Lit.compactW.before az Z = true) (nz : Nat) (O_z : Old Z nz h0) (S_C : Sta Z h0 "java/lang/String" "COMPACT_STRINGS" "Z" (.int zc)) (hzc : ¬ zc = 0) (E_a0 : Exa Z h0 a0 "java/lang/String") (FC_a0 : Fld Z h0 a0 "java/lang/String" "coder" "B" (.int 0)) (FV_a0 : Fld Z h0 a0 "java/lang/String" "value" "[B" (.ref d0)) (V_d0 : Arv Z h0 d0 kd .byte (2 : Int32) (([60, 61] : List Int32).map .int) (.int 0)) (hp1 : p1 = (-1 : Int32)) :
    MetFree l (⟨"com/example/winj/winj/storage/ComparisonOrdersPinLaw", "holds", "(Ljava/lang/String;I)Z"⟩ : MethodName) (head1 (Jvm.Cond.code (⟨"com/example/winj/winj/storage/ComparisonOrdersPinLaw", "holds", "(Ljava/lang/String;I)Z"⟩ : MethodName) method_2_code 2 (some .boolean) :: ws) ({ frames := 2, cells := 8, slots := 40, locals := 28 } : Room)) (fun a U => a = #[(.ref a0), (.int p1)] ∧ Z.Warmed39 U.vm ∧ U.heap = h0 ∧ (PV0 Z) U.vm) (fun _ _ _ _ _ => True) (fun _ U o U' => ∃ v L, o = .returned v ∧ (Q_hf3 Z (1 : Int32) h0) v U'.heap U'.vm L ∧ ReturnedEndW U o U' L ({ frames := 2, cells := 8, slots := 40, locals := 28 } : Room).cells ({ frames := 2, cells := 8, slots := 40, locals := 28 } : Room).slots) := by
  refine MetFree.of_bodySF (plainFor_of_name pn_3) hisR ?_
  intro p e s m args below meth c s₁ Bd hml0 hP hK
  obtain ⟨rfl, hZ, hh, I⟩ := hP
  have hx := Bd.exec
  have hby := Bd.bytes
  have hlk : meth.locks = false := Bd.notSynchronized
  have hml : c.maxLocals = 2 := hml0
  have hown : s.vm.findClass "com/example/winj/winj/storage/ComparisonOrdersPinLaw" = some m.cls := findClass_of_methodNamed Bd.named
  have hnm := (name_of_methodNamed Bd.named Bd.method).1
  have X0 : Stand p l e ({ frames := 2, cells := 8, slots := 40, locals := 28 } : Room) s m #[(.ref a0), (.int p1)] below meth c s₁ [] 0 0 := Stand.of_body Bd
  have X0 : Stand p l e ({ frames := 2, cells := 8, slots := 40, locals := 28 } : Room) (s.setVm s.vm) m #[(.ref a0), (.int p1)] below meth c s₁ [] 0 0 := X0
  have e0 : s₁.heap = h0 := by rw [← hh, Bd.state]; rfl
  have hkp : ∀ (b : Addr) (cl : Cell), Z.heap[b]? = some cl → s.heap[b]? = some cl := by rw [hh]; exact own_keepOld O_z
  obtain ⟨n0, hn0⟩ : ∃ n, n = h0.size := ⟨_, rfl⟩
  have Z0 : n0 ≤ h0.size := Nat.le_of_eq hn0
  have hsz : n0 = s.heap.size := by rw [hn0, hh]
  have hS : s.Since s.vm n0 := (State.WarmedH.refl s).since n0
  have hk : n0 ≤ h0.size := Z0
  have N0 := Fr.nil n0
  show GoW p e below s ((Q_hf3 Z (1 : Int32) h0)) ({ frames := 2, cells := 8, slots := 40, locals := 28 } : Room).cells ({ frames := 2, cells := 8, slots := 40, locals := 28 } : Room).slots (s₁.setTop (entryFrame m #[(.ref a0), (.int p1)] 2))
  rw [ef_3 m a0 p1]
  subst hp1
  refine GoW.st (S' := s₁.setTop (mkF m 1 #[.val (.ref a0), .val (.int (-1 : Int32))] [(.ref a0)])) (fun _ kk => XS.aloadN X0.here hx rfl (hb hby d3_0) rfl rfl kk) ?_
  obtain ⟨b1, T1, h1, k1, v1, c1, X1, e1, E1, hS1, hk1, hZ1, ho1, E_b1, FC_b1, FV_b1, V_v1, -, -, I, Li_b1, st1⟩ := ldcSVL (s := s.setVm s.vm) (vm0 := s.vm) X0 hx hZ hown (hw _ (List.mem_of_getElem? (i := 21) rfl)) (own_wS hw) e0 ((State.WarmedH.refl _).since _) (Nat.le_refl _) (own_frm N0 (Nat.le_of_eq hsz.symm)) hkp I (by decide) (hC _ (List.mem_of_getElem? (i := 0) rfl)) hcw (vs := ([61] : List Int32).map .int) (z := (1 : Int32)) ⟨by decide, by decide⟩ (by decide) (by decide) (g := (mkF m 1 #[.val (.ref a0), .val (.int (-1 : Int32))] [(.ref a0)])) rfl (hb hby d3_1) (n := 4) (by decide) (by decide) (by decide : 0 + 2 ≤ _) (by decide : 0 + 8 ≤ _)
  have X1 : Stand p l e _ (s.setVm T1.vm) m _ below meth c T1 _ _ _ := X1
  have Li_b1 : LitV Z T1.vm "com/example/winj/winj/storage/ComparisonOrdersPinLaw" 7 b1 := Li_b1
  have O_z := O_z.ext E1
  have S_C := S_C.ext E1
  have E_a0 := E_a0.ext E1
  have FC_a0 := FC_a0.ext E1
  have FV_a0 := FV_a0.ext E1
  have V_d0 := V_d0.ext E1
  have Zs2 := Nat.le_trans Z0 E1.1
  have hk := Nat.le_trans hk E1.1
  have Kp3 := (Keep.refl h0 []).ext E1
  have hS := hS.trans (own_sinceM hS1 hk1) hk
  have hk := Nat.le_refl h1.size
  have hZ := hZ1
  have hown := ho1
  refine GoW.st (S' := T1.setTop (mkF m 3 #[.val (.ref a0), .val (.int (-1 : Int32))] [(.ref b1), (.ref a0)])) st1 ?_
  obtain ⟨cq4, kq4, q4a, q4b, q4c⟩ := isOf hZ e1 E_a0
  obtain ⟨_, _, ⟨T4, L4, k4, n4⟩, -, X4, ⟨Lc4, hQ4, l4, y4, z4⟩, st4⟩ := X1.virtualBack hx (y := (⟨"java/lang/String", "equals", "(Ljava/lang/Object;)Z"⟩ : MethodName)) (z := (⟨"java/lang/String", "equals", "(Ljava/lang/Object;)Z"⟩ : MethodName)) hown (mvT hZ (hw _ (List.mem_of_getElem? (i := 29) rfl))) (mvT hZ (hw _ (List.mem_of_getElem? (i := 30) rfl))) (notFace_of_selects (args := #[]) (mvT hZ (hw _ (List.mem_of_getElem? (i := 32) rfl)))) (mvT hZ (hw _ (List.mem_of_getElem? (i := 32) rfl))) (mvT hZ (hw _ (List.mem_of_getElem? (i := 31) rfl))) (by decide) (backOf (W := 0) (rmSE l Z az hw [] a0 b1 zc d0 v1 kd c1 (2 : Int32) (1 : Int32) ([60, 61] : List Int32) ([61] : List Int32) h1 n0 Zs2 S_C hzc E_a0 FC_a0 FV_a0 V_d0 (by decide) E_b1 FC_b1 FV_b1 V_v1 (by decide)) hZ (hw _ (List.mem_of_getElem? (i := 33) rfl)) (hw _ (List.mem_of_getElem? (i := 22) rfl)) (by decide) (by decide)) q4a q4c (g := (mkF m 3 #[.val (.ref a0), .val (.int (-1 : Int32))] [(.ref b1), (.ref a0)])) rfl (by rw [hml]; rfl) (Steps.refl _) (argsL := [(.ref b1)]) (rest := []) (lenOf pd_3 rfl) rfl (by show 2 * 0 + _ ≤ _; exact Nat.le_of_eq rfl) (hb hby d3_3) (fun _ _ => ⟨rfl, e1, (by decide : 2 + 0 ≤ _), (by decide : 8 + 0 ≤ _)⟩)
  dsimp only [Pt.U, Pt.locs, Pt.cells, Pt.slots] at X4 l4 y4 z4 st4 hQ4
  subst l4 y4 z4
  obtain ⟨hv4, N4q, e4⟩ := hQ4
  rw [show own_eqI ([60, 61] : List Int32) ([61] : List Int32) = (0 : Int32) from by decide] at hv4
  subst hv4
  have N4 := Fr.app N0 N4q
  refine GoW.tr (S' := T4.setTop (mkF m 6 #[.val (.ref a0), .val (.int (-1 : Int32))] [(.int (0 : Int32))])) st4 ?_
  refine GoW.st (S' := T4.setTop (mkF m 19 #[.val (.ref a0), .val (.int (-1 : Int32))] [])) (fun _ kk => XS.ifYes X4.here hx rfl (pc0 := 6) (pc' := 19) rfl (hb hby d3_6) rfl ((if0 _ _).trans (teq (by decide : (0 : Int32) = (0 : Int32))).1) (by decide) (by decide) kk) ?_
  refine GoW.st (S' := T4.setTop (mkF m 20 #[.val (.ref a0), .val (.int (-1 : Int32))] [(.ref a0)])) (fun _ kk => XS.aloadN X4.here hx rfl (hb hby d3_19) rfl rfl kk) ?_
  obtain ⟨b5, T5, h5, k5, v5, c5, X5, e5, E5, hS5, hk5, hZ5, ho5, E_b5, FC_b5, FV_b5, V_v5, -, -, I, Li_b5, st5⟩ := ldcSVL (s := s.setVm T1.vm) (vm0 := T1.vm) X4 hx hZ hown (hw _ (List.mem_of_getElem? (i := 47) rfl)) (own_wS hw) e4 ((State.WarmedH.refl _).since _) (Nat.le_refl _) (own_frm N4 (Nat.le_of_eq hsz.symm)) hkp I (by decide) (hC _ (List.mem_of_getElem? (i := 1) rfl)) hcw (vs := ([60, 62] : List Int32).map .int) (z := (2 : Int32)) ⟨by decide, by decide⟩ (by decide) (by decide) (g := (mkF m 20 #[.val (.ref a0), .val (.int (-1 : Int32))] [(.ref a0)])) rfl (hb hby d3_20) (n := 8) (by decide) (by decide) (by decide : 2 + 2 ≤ _) (by decide : 8 + 12 ≤ _)
  have X5 : Stand p l e _ (s.setVm T5.vm) m _ below meth c T5 _ _ _ := X5
  have Li_b1 := LitV.stays (s := s) Li_b1 hS5.1
  have Li_b5 : LitV Z T5.vm "com/example/winj/winj/storage/ComparisonOrdersPinLaw" 15 b5 := Li_b5
  have O_z := O_z.ext E5
  have S_C := S_C.ext E5
  have E_a0 := E_a0.ext E5
  have FC_a0 := FC_a0.ext E5
  have FV_a0 := FV_a0.ext E5
  have V_d0 := V_d0.ext E5
  have E_b1 := E_b1.ext E5
  have FC_b1 := FC_b1.ext E5
  have FV_b1 := FV_b1.ext E5
  have V_v1 := V_v1.ext E5
  have Zs6 := Nat.le_trans Zs2 E5.1
  have hk := Nat.le_trans hk E5.1
  have Kp7 := Kp3.ext E5
  have hS := hS.trans (own_sinceM hS5 hk5) hk
  have hk := Nat.le_refl h5.size
  have hZ := hZ5
  have hown := ho5
  refine GoW.st (S' := T5.setTop (mkF m 22 #[.val (.ref a0), .val (.int (-1 : Int32))] [(.ref b5), (.ref a0)])) st5 ?_
  obtain ⟨cq8, kq8, q8a, q8b, q8c⟩ := isOf hZ e5 E_a0
  obtain ⟨_, _, ⟨T8, L8, k8, n8⟩, -, X8, ⟨Lc8, hQ8, l8, y8, z8⟩, st8⟩ := X5.virtualBack hx (y := (⟨"java/lang/String", "equals", "(Ljava/lang/Object;)Z"⟩ : MethodName)) (z := (⟨"java/lang/String", "equals", "(Ljava/lang/Object;)Z"⟩ : MethodName)) hown (mvT hZ (hw _ (List.mem_of_getElem? (i := 29) rfl))) (mvT hZ (hw _ (List.mem_of_getElem? (i := 30) rfl))) (notFace_of_selects (args := #[]) (mvT hZ (hw _ (List.mem_of_getElem? (i := 32) rfl)))) (mvT hZ (hw _ (List.mem_of_getElem? (i := 32) rfl))) (mvT hZ (hw _ (List.mem_of_getElem? (i := 31) rfl))) (by decide) (backOf (W := 0) (rmSE l Z az hw [] a0 b5 zc d0 v5 kd c5 (2 : Int32) (2 : Int32) ([60, 61] : List Int32) ([60, 62] : List Int32) h5 n0 Zs6 S_C hzc E_a0 FC_a0 FV_a0 V_d0 (by decide) E_b5 FC_b5 FV_b5 V_v5 (by decide)) hZ (hw _ (List.mem_of_getElem? (i := 33) rfl)) (hw _ (List.mem_of_getElem? (i := 22) rfl)) (by decide) (by decide)) q8a q8c (g := (mkF m 22 #[.val (.ref a0), .val (.int (-1 : Int32))] [(.ref b5), (.ref a0)])) rfl (by rw [hml]; rfl) (Steps.refl _) (argsL := [(.ref b5)]) (rest := []) (lenOf pd_3 rfl) rfl (by show 2 * 0 + _ ≤ _; exact Nat.le_of_eq rfl) (hb hby d3_22) (fun _ _ => ⟨rfl, e5, (by decide : 4 + 0 ≤ _), (by decide : 20 + 0 ≤ _)⟩)
  dsimp only [Pt.U, Pt.locs, Pt.cells, Pt.slots] at X8 l8 y8 z8 st8 hQ8
  subst l8 y8 z8
  obtain ⟨hv8, N8q, e8⟩ := hQ8
  rw [show own_eqI ([60, 61] : List Int32) ([60, 62] : List Int32) = (0 : Int32) from by decide] at hv8
  subst hv8
  have N8 := Fr.app N4 N8q
  refine GoW.tr (S' := T8.setTop (mkF m 25 #[.val (.ref a0), .val (.int (-1 : Int32))] [(.int (0 : Int32))])) st8 ?_
  refine GoW.st (S' := T8.setTop (mkF m 38 #[.val (.ref a0), .val (.int (-1 : Int32))] [])) (fun _ kk => XS.ifYes X8.here hx rfl (pc0 := 25) (pc' := 38) rfl (hb hby d3_25) rfl ((if0 _ _).trans (teq (by decide : (0 : Int32) = (0 : Int32))).1) (by decide) (by decide) kk) ?_
  refine GoW.st (S' := T8.setTop (mkF m 39 #[.val (.ref a0), .val (.int (-1 : Int32))] [(.ref a0)])) (fun _ kk => XS.aloadN X8.here hx rfl (hb hby d3_38) rfl rfl kk) ?_
  obtain ⟨b9, T9, h9, k9, v9, c9, X9, e9, E9, hS9, hk9, hZ9, ho9, E_b9, FC_b9, FV_b9, V_v9, -, -, I, Li_b9, st9⟩ := ldcSVL (s := s.setVm T5.vm) (vm0 := T5.vm) X8 hx hZ hown (hw _ (List.mem_of_getElem? (i := 48) rfl)) (own_wS hw) e8 ((State.WarmedH.refl _).since _) (Nat.le_refl _) (own_frm N8 (Nat.le_of_eq hsz.symm)) hkp I (by decide) (hC _ (List.mem_of_getElem? (i := 2) rfl)) hcw (vs := ([60] : List Int32).map .int) (z := (1 : Int32)) ⟨by decide, by decide⟩ (by decide) (by decide) (g := (mkF m 39 #[.val (.ref a0), .val (.int (-1 : Int32))] [(.ref a0)])) rfl (hb hby d3_39) (n := 4) (by decide) (by decide) (by decide : 4 + 2 ≤ _) (by decide : 20 + 8 ≤ _)
  have X9 : Stand p l e _ (s.setVm T9.vm) m _ below meth c T9 _ _ _ := X9
  have Li_b1 := LitV.stays (s := s) Li_b1 hS9.1
  have Li_b5 := LitV.stays (s := s) Li_b5 hS9.1
  have Li_b9 : LitV Z T9.vm "com/example/winj/winj/storage/ComparisonOrdersPinLaw" 17 b9 := Li_b9
  have O_z := O_z.ext E9
  have S_C := S_C.ext E9
  have E_a0 := E_a0.ext E9
  have FC_a0 := FC_a0.ext E9
  have FV_a0 := FV_a0.ext E9
  have V_d0 := V_d0.ext E9
  have E_b1 := E_b1.ext E9
  have FC_b1 := FC_b1.ext E9
  have FV_b1 := FV_b1.ext E9
  have V_v1 := V_v1.ext E9
  have E_b5 := E_b5.ext E9
  have FC_b5 := FC_b5.ext E9
  have FV_b5 := FV_b5.ext E9
  have V_v5 := V_v5.ext E9
  have Zs10 := Nat.le_trans Zs6 E9.1
  have hk := Nat.le_trans hk E9.1
  have Kp11 := Kp7.ext E9
  have hS := hS.trans (own_sinceM hS9 hk9) hk
  have hk := Nat.le_refl h9.size
  have hZ := hZ9
  have hown := ho9
  refine GoW.st (S' := T9.setTop (mkF m 41 #[.val (.ref a0), .val (.int (-1 : Int32))] [(.ref b9), (.ref a0)])) st9 ?_
  obtain ⟨cq12, kq12, q12a, q12b, q12c⟩ := isOf hZ e9 E_a0
  obtain ⟨_, _, ⟨T12, L12, k12, n12⟩, -, X12, ⟨Lc12, hQ12, l12, y12, z12⟩, st12⟩ := X9.virtualBack hx (y := (⟨"java/lang/String", "equals", "(Ljava/lang/Object;)Z"⟩ : MethodName)) (z := (⟨"java/lang/String", "equals", "(Ljava/lang/Object;)Z"⟩ : MethodName)) hown (mvT hZ (hw _ (List.mem_of_getElem? (i := 29) rfl))) (mvT hZ (hw _ (List.mem_of_getElem? (i := 30) rfl))) (notFace_of_selects (args := #[]) (mvT hZ (hw _ (List.mem_of_getElem? (i := 32) rfl)))) (mvT hZ (hw _ (List.mem_of_getElem? (i := 32) rfl))) (mvT hZ (hw _ (List.mem_of_getElem? (i := 31) rfl))) (by decide) (backOf (W := 0) (rmSE l Z az hw [] a0 b9 zc d0 v9 kd c9 (2 : Int32) (1 : Int32) ([60, 61] : List Int32) ([60] : List Int32) h9 n0 Zs10 S_C hzc E_a0 FC_a0 FV_a0 V_d0 (by decide) E_b9 FC_b9 FV_b9 V_v9 (by decide)) hZ (hw _ (List.mem_of_getElem? (i := 33) rfl)) (hw _ (List.mem_of_getElem? (i := 22) rfl)) (by decide) (by decide)) q12a q12c (g := (mkF m 41 #[.val (.ref a0), .val (.int (-1 : Int32))] [(.ref b9), (.ref a0)])) rfl (by rw [hml]; rfl) (Steps.refl _) (argsL := [(.ref b9)]) (rest := []) (lenOf pd_3 rfl) rfl (by show 2 * 0 + _ ≤ _; exact Nat.le_of_eq rfl) (hb hby d3_41) (fun _ _ => ⟨rfl, e9, (by decide : 6 + 0 ≤ _), (by decide : 28 + 0 ≤ _)⟩)
  dsimp only [Pt.U, Pt.locs, Pt.cells, Pt.slots] at X12 l12 y12 z12 st12 hQ12
  subst l12 y12 z12
  obtain ⟨hv12, N12q, e12⟩ := hQ12
  rw [show own_eqI ([60, 61] : List Int32) ([60] : List Int32) = (0 : Int32) from by decide] at hv12
  subst hv12
  have N12 := Fr.app N8 N12q
  refine GoW.tr (S' := T12.setTop (mkF m 44 #[.val (.ref a0), .val (.int (-1 : Int32))] [(.int (0 : Int32))])) st12 ?_
  refine GoW.st (S' := T12.setTop (mkF m 57 #[.val (.ref a0), .val (.int (-1 : Int32))] [])) (fun _ kk => XS.ifYes X12.here hx rfl (pc0 := 44) (pc' := 57) rfl (hb hby d3_44) rfl ((if0 _ _).trans (teq (by decide : (0 : Int32) = (0 : Int32))).1) (by decide) (by decide) kk) ?_
  refine GoW.st (S' := T12.setTop (mkF m 58 #[.val (.ref a0), .val (.int (-1 : Int32))] [(.ref a0)])) (fun _ kk => XS.aloadN X12.here hx rfl (hb hby d3_57) rfl rfl kk) ?_
  obtain ⟨b13, T13, h13, k13, v13, c13, X13, e13, E13, hS13, hk13, hZ13, ho13, E_b13, FC_b13, FV_b13, V_v13, -, -, I, Li_b13, st13⟩ := ldcSVL (s := s.setVm T9.vm) (vm0 := T9.vm) X12 hx hZ hown (hw _ (List.mem_of_getElem? (i := 49) rfl)) (own_wS hw) e12 ((State.WarmedH.refl _).since _) (Nat.le_refl _) (own_frm N12 (Nat.le_of_eq hsz.symm)) hkp I (by decide) (hC _ (List.mem_of_getElem? (i := 3) rfl)) hcw (vs := ([60, 61] : List Int32).map .int) (z := (2 : Int32)) ⟨by decide, by decide⟩ (by decide) (by decide) (g := (mkF m 58 #[.val (.ref a0), .val (.int (-1 : Int32))] [(.ref a0)])) rfl (hb hby d3_58) (n := 8) (by decide) (by decide) (by decide : 6 + 2 ≤ _) (by decide : 28 + 12 ≤ _)
  have X13 : Stand p l e _ (s.setVm T13.vm) m _ below meth c T13 _ _ _ := X13
  have Li_b1 := LitV.stays (s := s) Li_b1 hS13.1
  have Li_b5 := LitV.stays (s := s) Li_b5 hS13.1
  have Li_b9 := LitV.stays (s := s) Li_b9 hS13.1
  have Li_b13 : LitV Z T13.vm "com/example/winj/winj/storage/ComparisonOrdersPinLaw" 19 b13 := Li_b13
  have O_z := O_z.ext E13
  have S_C := S_C.ext E13
  have E_a0 := E_a0.ext E13
  have FC_a0 := FC_a0.ext E13
  have FV_a0 := FV_a0.ext E13
  have V_d0 := V_d0.ext E13
  have E_b1 := E_b1.ext E13
  have FC_b1 := FC_b1.ext E13
  have FV_b1 := FV_b1.ext E13
  have V_v1 := V_v1.ext E13
  have E_b5 := E_b5.ext E13
  have FC_b5 := FC_b5.ext E13
  have FV_b5 := FV_b5.ext E13
  have V_v5 := V_v5.ext E13
  have E_b9 := E_b9.ext E13
  have FC_b9 := FC_b9.ext E13
  have FV_b9 := FV_b9.ext E13
  have V_v9 := V_v9.ext E13
  have Zs14 := Nat.le_trans Zs10 E13.1
  have hk := Nat.le_trans hk E13.1
  have Kp15 := Kp11.ext E13
  have hS := hS.trans (own_sinceM hS13 hk13) hk
  have hk := Nat.le_refl h13.size
  have hZ := hZ13
  have hown := ho13
  refine GoW.st (S' := T13.setTop (mkF m 60 #[.val (.ref a0), .val (.int (-1 : Int32))] [(.ref b13), (.ref a0)])) st13 ?_
  obtain ⟨cq16, kq16, q16a, q16b, q16c⟩ := isOf hZ e13 E_a0
  obtain ⟨_, _, ⟨T16, L16, k16, n16⟩, -, X16, ⟨Lc16, hQ16, l16, y16, z16⟩, st16⟩ := X13.virtualBack hx (y := (⟨"java/lang/String", "equals", "(Ljava/lang/Object;)Z"⟩ : MethodName)) (z := (⟨"java/lang/String", "equals", "(Ljava/lang/Object;)Z"⟩ : MethodName)) hown (mvT hZ (hw _ (List.mem_of_getElem? (i := 29) rfl))) (mvT hZ (hw _ (List.mem_of_getElem? (i := 30) rfl))) (notFace_of_selects (args := #[]) (mvT hZ (hw _ (List.mem_of_getElem? (i := 32) rfl)))) (mvT hZ (hw _ (List.mem_of_getElem? (i := 32) rfl))) (mvT hZ (hw _ (List.mem_of_getElem? (i := 31) rfl))) (by decide) (backOf (W := 0) (rmSE l Z az hw [] a0 b13 zc d0 v13 kd c13 (2 : Int32) (2 : Int32) ([60, 61] : List Int32) ([60, 61] : List Int32) h13 n0 Zs14 S_C hzc E_a0 FC_a0 FV_a0 V_d0 (by decide) E_b13 FC_b13 FV_b13 V_v13 (by decide)) hZ (hw _ (List.mem_of_getElem? (i := 33) rfl)) (hw _ (List.mem_of_getElem? (i := 22) rfl)) (by decide) (by decide)) q16a q16c (g := (mkF m 60 #[.val (.ref a0), .val (.int (-1 : Int32))] [(.ref b13), (.ref a0)])) rfl (by rw [hml]; rfl) (Steps.refl _) (argsL := [(.ref b13)]) (rest := []) (lenOf pd_3 rfl) rfl (by show 2 * 0 + _ ≤ _; exact Nat.le_of_eq rfl) (hb hby d3_60) (fun _ _ => ⟨rfl, e13, (by decide : 8 + 0 ≤ _), (by decide : 40 + 0 ≤ _)⟩)
  dsimp only [Pt.U, Pt.locs, Pt.cells, Pt.slots] at X16 l16 y16 z16 st16 hQ16
  subst l16 y16 z16
  obtain ⟨hv16, N16q, e16⟩ := hQ16
  rw [show own_eqI ([60, 61] : List Int32) ([60, 61] : List Int32) = (1 : Int32) from by decide] at hv16
  subst hv16
  have N16 := Fr.app N12 N16q
  refine GoW.tr (S' := T16.setTop (mkF m 63 #[.val (.ref a0), .val (.int (-1 : Int32))] [(.int (1 : Int32))])) st16 ?_
  refine GoW.st (S' := T16.setTop (mkF m 66 #[.val (.ref a0), .val (.int (-1 : Int32))] [])) (fun _ kk => XS.ifNo X16.here hx rfl (hb hby d3_63) rfl ((if0 _ _).trans (feq (by decide : ¬ ((1 : Int32) = (0 : Int32)))).1) kk) ?_
  refine GoW.st (S' := T16.setTop (mkF m 67 #[.val (.ref a0), .val (.int (-1 : Int32))] [(.int (-1 : Int32))])) (fun _ kk => XS.iloadN X16.here hx rfl (hb hby d3_66) rfl kk) ?_
  refine GoW.st (S' := T16.setTop (mkF m 70 #[.val (.ref a0), .val (.int (-1 : Int32))] [])) (fun _ kk => XS.ifNo X16.here hx rfl (hb hby d3_67) rfl ((if0 _ _).trans (flt (by decide : ¬ ((0 : Int32) < (-1 : Int32)))).2.2.1) kk) ?_
  refine GoW.st (S' := T16.setTop (mkF m 71 #[.val (.ref a0), .val (.int (-1 : Int32))] [(.int (1 : Int32))])) (fun _ kk => XS.iconst X16.here hx rfl (hb hby d3_70) kk) ?_
  refine GoW.st (S' := T16.setTop (mkF m 75 #[.val (.ref a0), .val (.int (-1 : Int32))] [(.int (1 : Int32))])) (fun _ kk => XS.goto X16.here hx rfl (pc0 := 71) (pc' := 75) rfl (hb hby d3_71) (by decide) (by decide) kk) ?_
  have Li_b1' := LitV.stays (s := s) Li_b1 X16.warmed.wide
  have Li_b5' := LitV.stays (s := s) Li_b5 X16.warmed.wide
  have Li_b9' := LitV.stays (s := s) Li_b9 X16.warmed.wide
  have Li_b13' := LitV.stays (s := s) Li_b13 X16.warmed.wide
  exact GoW.retN X16 hx hlk hS (own_hk e16 hk) (t := .boolean) Bd.returns (by simp) (hb hby d3_75) (by rw [e16]; exact ⟨rfl, hn0 ▸ N16, own_extk Kp15, b1, v1, c1, b5, v5, c5, b9, v9, c9, b13, v13, c13, ⟨Li_b1', E_b1, FC_b1, FV_b1, V_v1⟩, ⟨Li_b5', E_b5, FC_b5, FV_b5, V_v5⟩, ⟨Li_b9', E_b9, FC_b9, FV_b9, V_v9⟩, ⟨Li_b13', E_b13, FC_b13, FV_b13, V_v13⟩⟩) (by decide) (by decide)
def PV_a3 (Z : State) (la0 : Addr) (la1 : Addr) (la2 : Addr) (la3 : Addr) (vm : Vm) : Prop := LitV Z vm "com/example/winj/winj/storage/ComparisonOrdersPinLaw" 7 la0 ∧ LitV Z vm "com/example/winj/winj/storage/ComparisonOrdersPinLaw" 15 la1 ∧ LitV Z vm "com/example/winj/winj/storage/ComparisonOrdersPinLaw" 17 la2 ∧ LitV Z vm "com/example/winj/winj/storage/ComparisonOrdersPinLaw" 19 la3
set_option maxRecDepth 65536 in
set_option maxHeartbeats 4000000 in
theorem rmHa3 (l : Launch) (Z : State) (az : Array Value) (hw : ∀ d ∈ tables_1, d.before az Z = true) (ws : List Jvm.Cond) (a0 : Addr) (p1 : Int32) (zc : Int32) (d0 : Addr) (kd : ClassId) (la0 lb0 : Addr) (lk0 : ClassId) (la1 lb1 : Addr) (lk1 : ClassId) (la2 lb2 : Addr) (lk2 : ClassId) (la3 lb3 : Addr) (lk3 : ClassId) (h0 : Heap) (hC : Jvm.D.constsHeld consts_1 Z) (hcw : Jvm.Lit.compactW.before az Z = true) (nz : Nat) (O_z : Old Z nz h0) (S_C : Sta Z h0 "java/lang/String" "COMPACT_STRINGS" "Z" (.int zc)) (hzc : ¬ zc = 0) (E_a0 : Exa Z h0 a0 "java/lang/String") (FC_a0 : Fld Z h0 a0 "java/lang/String" "coder" "B" (.int 0)) (FV_a0 : Fld Z h0 a0 "java/lang/String" "value" "[B" (.ref d0)) (V_d0 : Arv Z h0 d0 kd .byte (2 : Int32) (([60, 61] : List Int32).map .int) (.int 0)) (E_la0 : Exa Z h0 la0 "java/lang/String") (FC_la0 : Fld Z h0 la0 "java/lang/String" "coder" "B" (.int 0)) (FV_la0 : Fld Z h0 la0 "java/lang/String" "value" "[B" (.ref lb0)) (V_lb0 : Arv Z h0 lb0 lk0 .byte (1 : Int32) (([61] : List Int32).map .int) (.int 0)) (E_la1 : Exa Z h0 la1 "java/lang/String") (FC_la1 : Fld Z h0 la1 "java/lang/String" "coder" "B" (.int 0)) (FV_la1 : Fld Z h0 la1 "java/lang/String" "value" "[B" (.ref lb1)) (V_lb1 : Arv Z h0 lb1 lk1 .byte (2 : Int32) (([60, 62] : List Int32).map .int) (.int 0)) (E_la2 : Exa Z h0 la2 "java/lang/String") (FC_la2 : Fld Z h0 la2 "java/lang/String" "coder" "B" (.int 0)) (FV_la2 : Fld Z h0 la2 "java/lang/String" "value" "[B" (.ref lb2)) (V_lb2 : Arv Z h0 lb2 lk2 .byte (1 : Int32) (([60] : List Int32).map .int) (.int 0)) (E_la3 : Exa Z h0 la3 "java/lang/String") (FC_la3 : Fld Z h0 la3 "java/lang/String" "coder" "B" (.int 0)) (FV_la3 : Fld Z h0 la3 "java/lang/String" "value" "[B" (.ref lb3)) (V_lb3 : Arv Z h0 lb3 lk3 .byte (2 : Int32) (([60, 61] : List Int32).map .int) (.int 0)) (hp1 : p1 = (1 : Int32)) :
    MetFree l (⟨"com/example/winj/winj/storage/ComparisonOrdersPinLaw", "holds", "(Ljava/lang/String;I)Z"⟩ : MethodName) (head1 (Jvm.Cond.code (⟨"com/example/winj/winj/storage/ComparisonOrdersPinLaw", "holds", "(Ljava/lang/String;I)Z"⟩ : MethodName) method_2_code 2 (some .boolean) :: ws) ({ frames := 2, cells := 0, slots := 0, locals := 28 } : Room)) (fun a U => a = #[(.ref a0), (.int p1)] ∧ Z.Warmed39 U.vm ∧ U.heap = h0 ∧ (PV_a3 Z la0 la1 la2 la3) U.vm) (fun _ _ _ _ _ => True) (fun _ U o U' => ∃ v L, o = .returned v ∧ (Q_ha (0 : Int32) h0) v U'.heap U'.vm L ∧ ReturnedEndW U o U' L ({ frames := 2, cells := 0, slots := 0, locals := 28 } : Room).cells ({ frames := 2, cells := 0, slots := 0, locals := 28 } : Room).slots) := by
  refine MetFree.of_bodySF (plainFor_of_name pn_3) hisR ?_
  intro p e s m args below meth c s₁ Bd hml0 hP hK
  obtain ⟨rfl, hZ, hh, Li0, Li1, Li2, Li3⟩ := hP
  have hx := Bd.exec
  have hby := Bd.bytes
  have hlk : meth.locks = false := Bd.notSynchronized
  have hml : c.maxLocals = 2 := hml0
  have hown : s.vm.findClass "com/example/winj/winj/storage/ComparisonOrdersPinLaw" = some m.cls := findClass_of_methodNamed Bd.named
  have hnm := (name_of_methodNamed Bd.named Bd.method).1
  have X0 : Stand p l e ({ frames := 2, cells := 0, slots := 0, locals := 28 } : Room) s m #[(.ref a0), (.int p1)] below meth c s₁ [] 0 0 := Stand.of_body Bd
  have X0 : Stand p l e ({ frames := 2, cells := 0, slots := 0, locals := 28 } : Room) (s.setVm s.vm) m #[(.ref a0), (.int p1)] below meth c s₁ [] 0 0 := X0
  have e0 : s₁.heap = h0 := by rw [← hh, Bd.state]; rfl
  have hkp : ∀ (b : Addr) (cl : Cell), Z.heap[b]? = some cl → s.heap[b]? = some cl := by rw [hh]; exact own_keepOld O_z
  obtain ⟨n0, hn0⟩ : ∃ n, n = h0.size := ⟨_, rfl⟩
  have Z0 : n0 ≤ h0.size := Nat.le_of_eq hn0
  have hsz : n0 = s.heap.size := by rw [hn0, hh]
  have hS : s.Since s.vm n0 := (State.WarmedH.refl s).since n0
  have hk : n0 ≤ h0.size := Z0
  have N0 := Fr.nil n0
  show GoW p e below s ((Q_ha (0 : Int32) h0)) ({ frames := 2, cells := 0, slots := 0, locals := 28 } : Room).cells ({ frames := 2, cells := 0, slots := 0, locals := 28 } : Room).slots (s₁.setTop (entryFrame m #[(.ref a0), (.int p1)] 2))
  rw [ef_3 m a0 p1]
  subst hp1
  refine GoW.st (S' := s₁.setTop (mkF m 1 #[.val (.ref a0), .val (.int (1 : Int32))] [(.ref a0)])) (fun _ kk => XS.aloadN X0.here hx rfl (hb hby d3_0) rfl rfl kk) ?_
  refine GoW.st (S' := s₁.setTop (mkF m 3 #[.val (.ref a0), .val (.int (1 : Int32))] [(.ref la0), (.ref a0)])) (fun _ kk => ldcAgain X0 hx hZ hown (hw _ (List.mem_of_getElem? (i := 21) rfl)) Li0 (g := (mkF m 1 #[.val (.ref a0), .val (.int (1 : Int32))] [(.ref a0)])) rfl (hb hby d3_1) _ kk) ?_
  obtain ⟨cq1, kq1, q1a, q1b, q1c⟩ := isOf hZ e0 E_a0
  obtain ⟨_, _, ⟨T1, L1, k1, n1⟩, -, X1, ⟨Lc1, hQ1, l1, y1, z1⟩, st1⟩ := X0.virtualBack hx (y := (⟨"java/lang/String", "equals", "(Ljava/lang/Object;)Z"⟩ : MethodName)) (z := (⟨"java/lang/String", "equals", "(Ljava/lang/Object;)Z"⟩ : MethodName)) hown (mvT hZ (hw _ (List.mem_of_getElem? (i := 29) rfl))) (mvT hZ (hw _ (List.mem_of_getElem? (i := 30) rfl))) (notFace_of_selects (args := #[]) (mvT hZ (hw _ (List.mem_of_getElem? (i := 32) rfl)))) (mvT hZ (hw _ (List.mem_of_getElem? (i := 32) rfl))) (mvT hZ (hw _ (List.mem_of_getElem? (i := 31) rfl))) (by decide) (backOf (W := 0) (rmSE l Z az hw [] a0 la0 zc d0 lb0 kd lk0 (2 : Int32) (1 : Int32) ([60, 61] : List Int32) ([61] : List Int32) h0 n0 Z0 S_C hzc E_a0 FC_a0 FV_a0 V_d0 (by decide) E_la0 FC_la0 FV_la0 V_lb0 (by decide)) hZ (hw _ (List.mem_of_getElem? (i := 33) rfl)) (hw _ (List.mem_of_getElem? (i := 22) rfl)) (by decide) (by decide)) q1a q1c (g := (mkF m 3 #[.val (.ref a0), .val (.int (1 : Int32))] [(.ref la0), (.ref a0)])) rfl (by rw [hml]; rfl) (Steps.refl _) (argsL := [(.ref la0)]) (rest := []) (lenOf pd_3 rfl) rfl (by show 2 * 0 + _ ≤ _; exact Nat.le_of_eq rfl) (hb hby d3_3) (fun _ _ => ⟨rfl, e0, (by decide : 0 + 0 ≤ _), (by decide : 0 + 0 ≤ _)⟩)
  dsimp only [Pt.U, Pt.locs, Pt.cells, Pt.slots] at X1 l1 y1 z1 st1 hQ1
  subst l1 y1 z1
  obtain ⟨hv1, N1q, e1⟩ := hQ1
  rw [show own_eqI ([60, 61] : List Int32) ([61] : List Int32) = (0 : Int32) from by decide] at hv1
  subst hv1
  have N1 := Fr.app N0 N1q
  refine GoW.tr (S' := T1.setTop (mkF m 6 #[.val (.ref a0), .val (.int (1 : Int32))] [(.int (0 : Int32))])) st1 ?_
  refine GoW.st (S' := T1.setTop (mkF m 19 #[.val (.ref a0), .val (.int (1 : Int32))] [])) (fun _ kk => XS.ifYes X1.here hx rfl (pc0 := 6) (pc' := 19) rfl (hb hby d3_6) rfl ((if0 _ _).trans (teq (by decide : (0 : Int32) = (0 : Int32))).1) (by decide) (by decide) kk) ?_
  refine GoW.st (S' := T1.setTop (mkF m 20 #[.val (.ref a0), .val (.int (1 : Int32))] [(.ref a0)])) (fun _ kk => XS.aloadN X1.here hx rfl (hb hby d3_19) rfl rfl kk) ?_
  refine GoW.st (S' := T1.setTop (mkF m 22 #[.val (.ref a0), .val (.int (1 : Int32))] [(.ref la1), (.ref a0)])) (fun _ kk => ldcAgain X1 hx hZ hown (hw _ (List.mem_of_getElem? (i := 47) rfl)) Li1 (g := (mkF m 20 #[.val (.ref a0), .val (.int (1 : Int32))] [(.ref a0)])) rfl (hb hby d3_20) _ kk) ?_
  obtain ⟨cq2, kq2, q2a, q2b, q2c⟩ := isOf hZ e1 E_a0
  obtain ⟨_, _, ⟨T2, L2, k2, n2⟩, -, X2, ⟨Lc2, hQ2, l2, y2, z2⟩, st2⟩ := X1.virtualBack hx (y := (⟨"java/lang/String", "equals", "(Ljava/lang/Object;)Z"⟩ : MethodName)) (z := (⟨"java/lang/String", "equals", "(Ljava/lang/Object;)Z"⟩ : MethodName)) hown (mvT hZ (hw _ (List.mem_of_getElem? (i := 29) rfl))) (mvT hZ (hw _ (List.mem_of_getElem? (i := 30) rfl))) (notFace_of_selects (args := #[]) (mvT hZ (hw _ (List.mem_of_getElem? (i := 32) rfl)))) (mvT hZ (hw _ (List.mem_of_getElem? (i := 32) rfl))) (mvT hZ (hw _ (List.mem_of_getElem? (i := 31) rfl))) (by decide) (backOf (W := 0) (rmSE l Z az hw [] a0 la1 zc d0 lb1 kd lk1 (2 : Int32) (2 : Int32) ([60, 61] : List Int32) ([60, 62] : List Int32) h0 n0 Z0 S_C hzc E_a0 FC_a0 FV_a0 V_d0 (by decide) E_la1 FC_la1 FV_la1 V_lb1 (by decide)) hZ (hw _ (List.mem_of_getElem? (i := 33) rfl)) (hw _ (List.mem_of_getElem? (i := 22) rfl)) (by decide) (by decide)) q2a q2c (g := (mkF m 22 #[.val (.ref a0), .val (.int (1 : Int32))] [(.ref la1), (.ref a0)])) rfl (by rw [hml]; rfl) (Steps.refl _) (argsL := [(.ref la1)]) (rest := []) (lenOf pd_3 rfl) rfl (by show 2 * 0 + _ ≤ _; exact Nat.le_of_eq rfl) (hb hby d3_22) (fun _ _ => ⟨rfl, e1, (by decide : 0 + 0 ≤ _), (by decide : 0 + 0 ≤ _)⟩)
  dsimp only [Pt.U, Pt.locs, Pt.cells, Pt.slots] at X2 l2 y2 z2 st2 hQ2
  subst l2 y2 z2
  obtain ⟨hv2, N2q, e2⟩ := hQ2
  rw [show own_eqI ([60, 61] : List Int32) ([60, 62] : List Int32) = (0 : Int32) from by decide] at hv2
  subst hv2
  have N2 := Fr.app N1 N2q
  refine GoW.tr (S' := T2.setTop (mkF m 25 #[.val (.ref a0), .val (.int (1 : Int32))] [(.int (0 : Int32))])) st2 ?_
  refine GoW.st (S' := T2.setTop (mkF m 38 #[.val (.ref a0), .val (.int (1 : Int32))] [])) (fun _ kk => XS.ifYes X2.here hx rfl (pc0 := 25) (pc' := 38) rfl (hb hby d3_25) rfl ((if0 _ _).trans (teq (by decide : (0 : Int32) = (0 : Int32))).1) (by decide) (by decide) kk) ?_
  refine GoW.st (S' := T2.setTop (mkF m 39 #[.val (.ref a0), .val (.int (1 : Int32))] [(.ref a0)])) (fun _ kk => XS.aloadN X2.here hx rfl (hb hby d3_38) rfl rfl kk) ?_
  refine GoW.st (S' := T2.setTop (mkF m 41 #[.val (.ref a0), .val (.int (1 : Int32))] [(.ref la2), (.ref a0)])) (fun _ kk => ldcAgain X2 hx hZ hown (hw _ (List.mem_of_getElem? (i := 48) rfl)) Li2 (g := (mkF m 39 #[.val (.ref a0), .val (.int (1 : Int32))] [(.ref a0)])) rfl (hb hby d3_39) _ kk) ?_
  obtain ⟨cq3, kq3, q3a, q3b, q3c⟩ := isOf hZ e2 E_a0
  obtain ⟨_, _, ⟨T3, L3, k3, n3⟩, -, X3, ⟨Lc3, hQ3, l3, y3, z3⟩, st3⟩ := X2.virtualBack hx (y := (⟨"java/lang/String", "equals", "(Ljava/lang/Object;)Z"⟩ : MethodName)) (z := (⟨"java/lang/String", "equals", "(Ljava/lang/Object;)Z"⟩ : MethodName)) hown (mvT hZ (hw _ (List.mem_of_getElem? (i := 29) rfl))) (mvT hZ (hw _ (List.mem_of_getElem? (i := 30) rfl))) (notFace_of_selects (args := #[]) (mvT hZ (hw _ (List.mem_of_getElem? (i := 32) rfl)))) (mvT hZ (hw _ (List.mem_of_getElem? (i := 32) rfl))) (mvT hZ (hw _ (List.mem_of_getElem? (i := 31) rfl))) (by decide) (backOf (W := 0) (rmSE l Z az hw [] a0 la2 zc d0 lb2 kd lk2 (2 : Int32) (1 : Int32) ([60, 61] : List Int32) ([60] : List Int32) h0 n0 Z0 S_C hzc E_a0 FC_a0 FV_a0 V_d0 (by decide) E_la2 FC_la2 FV_la2 V_lb2 (by decide)) hZ (hw _ (List.mem_of_getElem? (i := 33) rfl)) (hw _ (List.mem_of_getElem? (i := 22) rfl)) (by decide) (by decide)) q3a q3c (g := (mkF m 41 #[.val (.ref a0), .val (.int (1 : Int32))] [(.ref la2), (.ref a0)])) rfl (by rw [hml]; rfl) (Steps.refl _) (argsL := [(.ref la2)]) (rest := []) (lenOf pd_3 rfl) rfl (by show 2 * 0 + _ ≤ _; exact Nat.le_of_eq rfl) (hb hby d3_41) (fun _ _ => ⟨rfl, e2, (by decide : 0 + 0 ≤ _), (by decide : 0 + 0 ≤ _)⟩)
  dsimp only [Pt.U, Pt.locs, Pt.cells, Pt.slots] at X3 l3 y3 z3 st3 hQ3
  subst l3 y3 z3
  obtain ⟨hv3, N3q, e3⟩ := hQ3
  rw [show own_eqI ([60, 61] : List Int32) ([60] : List Int32) = (0 : Int32) from by decide] at hv3
  subst hv3
  have N3 := Fr.app N2 N3q
  refine GoW.tr (S' := T3.setTop (mkF m 44 #[.val (.ref a0), .val (.int (1 : Int32))] [(.int (0 : Int32))])) st3 ?_
  refine GoW.st (S' := T3.setTop (mkF m 57 #[.val (.ref a0), .val (.int (1 : Int32))] [])) (fun _ kk => XS.ifYes X3.here hx rfl (pc0 := 44) (pc' := 57) rfl (hb hby d3_44) rfl ((if0 _ _).trans (teq (by decide : (0 : Int32) = (0 : Int32))).1) (by decide) (by decide) kk) ?_
  refine GoW.st (S' := T3.setTop (mkF m 58 #[.val (.ref a0), .val (.int (1 : Int32))] [(.ref a0)])) (fun _ kk => XS.aloadN X3.here hx rfl (hb hby d3_57) rfl rfl kk) ?_
  refine GoW.st (S' := T3.setTop (mkF m 60 #[.val (.ref a0), .val (.int (1 : Int32))] [(.ref la3), (.ref a0)])) (fun _ kk => ldcAgain X3 hx hZ hown (hw _ (List.mem_of_getElem? (i := 49) rfl)) Li3 (g := (mkF m 58 #[.val (.ref a0), .val (.int (1 : Int32))] [(.ref a0)])) rfl (hb hby d3_58) _ kk) ?_
  obtain ⟨cq4, kq4, q4a, q4b, q4c⟩ := isOf hZ e3 E_a0
  obtain ⟨_, _, ⟨T4, L4, k4, n4⟩, -, X4, ⟨Lc4, hQ4, l4, y4, z4⟩, st4⟩ := X3.virtualBack hx (y := (⟨"java/lang/String", "equals", "(Ljava/lang/Object;)Z"⟩ : MethodName)) (z := (⟨"java/lang/String", "equals", "(Ljava/lang/Object;)Z"⟩ : MethodName)) hown (mvT hZ (hw _ (List.mem_of_getElem? (i := 29) rfl))) (mvT hZ (hw _ (List.mem_of_getElem? (i := 30) rfl))) (notFace_of_selects (args := #[]) (mvT hZ (hw _ (List.mem_of_getElem? (i := 32) rfl)))) (mvT hZ (hw _ (List.mem_of_getElem? (i := 32) rfl))) (mvT hZ (hw _ (List.mem_of_getElem? (i := 31) rfl))) (by decide) (backOf (W := 0) (rmSE l Z az hw [] a0 la3 zc d0 lb3 kd lk3 (2 : Int32) (2 : Int32) ([60, 61] : List Int32) ([60, 61] : List Int32) h0 n0 Z0 S_C hzc E_a0 FC_a0 FV_a0 V_d0 (by decide) E_la3 FC_la3 FV_la3 V_lb3 (by decide)) hZ (hw _ (List.mem_of_getElem? (i := 33) rfl)) (hw _ (List.mem_of_getElem? (i := 22) rfl)) (by decide) (by decide)) q4a q4c (g := (mkF m 60 #[.val (.ref a0), .val (.int (1 : Int32))] [(.ref la3), (.ref a0)])) rfl (by rw [hml]; rfl) (Steps.refl _) (argsL := [(.ref la3)]) (rest := []) (lenOf pd_3 rfl) rfl (by show 2 * 0 + _ ≤ _; exact Nat.le_of_eq rfl) (hb hby d3_60) (fun _ _ => ⟨rfl, e3, (by decide : 0 + 0 ≤ _), (by decide : 0 + 0 ≤ _)⟩)
  dsimp only [Pt.U, Pt.locs, Pt.cells, Pt.slots] at X4 l4 y4 z4 st4 hQ4
  subst l4 y4 z4
  obtain ⟨hv4, N4q, e4⟩ := hQ4
  rw [show own_eqI ([60, 61] : List Int32) ([60, 61] : List Int32) = (1 : Int32) from by decide] at hv4
  subst hv4
  have N4 := Fr.app N3 N4q
  refine GoW.tr (S' := T4.setTop (mkF m 63 #[.val (.ref a0), .val (.int (1 : Int32))] [(.int (1 : Int32))])) st4 ?_
  refine GoW.st (S' := T4.setTop (mkF m 66 #[.val (.ref a0), .val (.int (1 : Int32))] [])) (fun _ kk => XS.ifNo X4.here hx rfl (hb hby d3_63) rfl ((if0 _ _).trans (feq (by decide : ¬ ((1 : Int32) = (0 : Int32)))).1) kk) ?_
  refine GoW.st (S' := T4.setTop (mkF m 67 #[.val (.ref a0), .val (.int (1 : Int32))] [(.int (1 : Int32))])) (fun _ kk => XS.iloadN X4.here hx rfl (hb hby d3_66) rfl kk) ?_
  refine GoW.st (S' := T4.setTop (mkF m 74 #[.val (.ref a0), .val (.int (1 : Int32))] [])) (fun _ kk => XS.ifYes X4.here hx rfl (pc0 := 67) (pc' := 74) rfl (hb hby d3_67) rfl ((if0 _ _).trans (tlt (by decide : (0 : Int32) < (1 : Int32))).2.2.1) (by decide) (by decide) kk) ?_
  refine GoW.st (S' := T4.setTop (mkF m 75 #[.val (.ref a0), .val (.int (1 : Int32))] [(.int (0 : Int32))])) (fun _ kk => XS.iconst X4.here hx rfl (hb hby d3_74) kk) ?_
  exact GoW.retN X4 hx hlk hS (own_hk e4 hk) (t := .boolean) Bd.returns (by simp) (hb hby d3_75) (⟨rfl, hn0 ▸ N4, e4⟩) (by decide) (by decide)
def Q_hf4 (Z : State) (r : Int32) (h0 : Heap) (v : Option Value) (h : Heap) (vm : Vm) (L : List Loc) : Prop := v = some (.int r) ∧ Fr h0.size L ∧ Ext h0 h ∧ ∃ (a0 b0 : Addr) (k0 : ClassId) (a1 b1 : Addr) (k1 : ClassId) (a2 b2 : Addr) (k2 : ClassId) (a3 b3 : Addr) (k3 : ClassId) (a4 b4 : Addr) (k4 : ClassId), LS Z h vm 7 ([61] : List Int32) (1 : Int32) a0 b0 k0 ∧ LS Z h vm 15 ([60, 62] : List Int32) (2 : Int32) a1 b1 k1 ∧ LS Z h vm 17 ([60] : List Int32) (1 : Int32) a2 b2 k2 ∧ LS Z h vm 19 ([60, 61] : List Int32) (2 : Int32) a3 b3 k3 ∧ LS Z h vm 21 ([62] : List Int32) (1 : Int32) a4 b4 k4
set_option maxRecDepth 65536 in
set_option maxHeartbeats 4000000 in
theorem rmHf4 (l : Launch) (Z : State) (az : Array Value) (hw : ∀ d ∈ tables_1, d.before az Z = true) (ws : List Jvm.Cond) (a0 : Addr) (p1 : Int32) (zc : Int32) (d0 : Addr) (kd : ClassId) (h0 : Heap) (hC : Jvm.D.constsHeld consts_1 Z) (hcw : Jvm.Lit.compactW.before az Z = true) (nz : Nat) (O_z : Old Z nz h0) (S_C : Sta Z h0 "java/lang/String" "COMPACT_STRINGS" "Z" (.int zc)) (hzc : ¬ zc = 0) (E_a0 : Exa Z h0 a0 "java/lang/String") (FC_a0 : Fld Z h0 a0 "java/lang/String" "coder" "B" (.int 0)) (FV_a0 : Fld Z h0 a0 "java/lang/String" "value" "[B" (.ref d0)) (V_d0 : Arv Z h0 d0 kd .byte (1 : Int32) (([62] : List Int32).map .int) (.int 0)) (hp1 : p1 = (-1 : Int32)) :
    MetFree l (⟨"com/example/winj/winj/storage/ComparisonOrdersPinLaw", "holds", "(Ljava/lang/String;I)Z"⟩ : MethodName) (head1 (Jvm.Cond.code (⟨"com/example/winj/winj/storage/ComparisonOrdersPinLaw", "holds", "(Ljava/lang/String;I)Z"⟩ : MethodName) method_2_code 2 (some .boolean) :: ws) ({ frames := 2, cells := 10, slots := 48, locals := 28 } : Room)) (fun a U => a = #[(.ref a0), (.int p1)] ∧ Z.Warmed39 U.vm ∧ U.heap = h0 ∧ (PV0 Z) U.vm) (fun _ _ _ _ _ => True) (fun _ U o U' => ∃ v L, o = .returned v ∧ (Q_hf4 Z (0 : Int32) h0) v U'.heap U'.vm L ∧ ReturnedEndW U o U' L ({ frames := 2, cells := 10, slots := 48, locals := 28 } : Room).cells ({ frames := 2, cells := 10, slots := 48, locals := 28 } : Room).slots) := by
  refine MetFree.of_bodySF (plainFor_of_name pn_3) hisR ?_
  intro p e s m args below meth c s₁ Bd hml0 hP hK
  obtain ⟨rfl, hZ, hh, I⟩ := hP
  have hx := Bd.exec
  have hby := Bd.bytes
  have hlk : meth.locks = false := Bd.notSynchronized
  have hml : c.maxLocals = 2 := hml0
  have hown : s.vm.findClass "com/example/winj/winj/storage/ComparisonOrdersPinLaw" = some m.cls := findClass_of_methodNamed Bd.named
  have hnm := (name_of_methodNamed Bd.named Bd.method).1
  have X0 : Stand p l e ({ frames := 2, cells := 10, slots := 48, locals := 28 } : Room) s m #[(.ref a0), (.int p1)] below meth c s₁ [] 0 0 := Stand.of_body Bd
  have X0 : Stand p l e ({ frames := 2, cells := 10, slots := 48, locals := 28 } : Room) (s.setVm s.vm) m #[(.ref a0), (.int p1)] below meth c s₁ [] 0 0 := X0
  have e0 : s₁.heap = h0 := by rw [← hh, Bd.state]; rfl
  have hkp : ∀ (b : Addr) (cl : Cell), Z.heap[b]? = some cl → s.heap[b]? = some cl := by rw [hh]; exact own_keepOld O_z
  obtain ⟨n0, hn0⟩ : ∃ n, n = h0.size := ⟨_, rfl⟩
  have Z0 : n0 ≤ h0.size := Nat.le_of_eq hn0
  have hsz : n0 = s.heap.size := by rw [hn0, hh]
  have hS : s.Since s.vm n0 := (State.WarmedH.refl s).since n0
  have hk : n0 ≤ h0.size := Z0
  have N0 := Fr.nil n0
  show GoW p e below s ((Q_hf4 Z (0 : Int32) h0)) ({ frames := 2, cells := 10, slots := 48, locals := 28 } : Room).cells ({ frames := 2, cells := 10, slots := 48, locals := 28 } : Room).slots (s₁.setTop (entryFrame m #[(.ref a0), (.int p1)] 2))
  rw [ef_3 m a0 p1]
  subst hp1
  refine GoW.st (S' := s₁.setTop (mkF m 1 #[.val (.ref a0), .val (.int (-1 : Int32))] [(.ref a0)])) (fun _ kk => XS.aloadN X0.here hx rfl (hb hby d3_0) rfl rfl kk) ?_
  obtain ⟨b1, T1, h1, k1, v1, c1, X1, e1, E1, hS1, hk1, hZ1, ho1, E_b1, FC_b1, FV_b1, V_v1, -, -, I, Li_b1, st1⟩ := ldcSVL (s := s.setVm s.vm) (vm0 := s.vm) X0 hx hZ hown (hw _ (List.mem_of_getElem? (i := 21) rfl)) (own_wS hw) e0 ((State.WarmedH.refl _).since _) (Nat.le_refl _) (own_frm N0 (Nat.le_of_eq hsz.symm)) hkp I (by decide) (hC _ (List.mem_of_getElem? (i := 0) rfl)) hcw (vs := ([61] : List Int32).map .int) (z := (1 : Int32)) ⟨by decide, by decide⟩ (by decide) (by decide) (g := (mkF m 1 #[.val (.ref a0), .val (.int (-1 : Int32))] [(.ref a0)])) rfl (hb hby d3_1) (n := 4) (by decide) (by decide) (by decide : 0 + 2 ≤ _) (by decide : 0 + 8 ≤ _)
  have X1 : Stand p l e _ (s.setVm T1.vm) m _ below meth c T1 _ _ _ := X1
  have Li_b1 : LitV Z T1.vm "com/example/winj/winj/storage/ComparisonOrdersPinLaw" 7 b1 := Li_b1
  have O_z := O_z.ext E1
  have S_C := S_C.ext E1
  have E_a0 := E_a0.ext E1
  have FC_a0 := FC_a0.ext E1
  have FV_a0 := FV_a0.ext E1
  have V_d0 := V_d0.ext E1
  have Zs2 := Nat.le_trans Z0 E1.1
  have hk := Nat.le_trans hk E1.1
  have Kp3 := (Keep.refl h0 []).ext E1
  have hS := hS.trans (own_sinceM hS1 hk1) hk
  have hk := Nat.le_refl h1.size
  have hZ := hZ1
  have hown := ho1
  refine GoW.st (S' := T1.setTop (mkF m 3 #[.val (.ref a0), .val (.int (-1 : Int32))] [(.ref b1), (.ref a0)])) st1 ?_
  obtain ⟨cq4, kq4, q4a, q4b, q4c⟩ := isOf hZ e1 E_a0
  obtain ⟨_, _, ⟨T4, L4, k4, n4⟩, -, X4, ⟨Lc4, hQ4, l4, y4, z4⟩, st4⟩ := X1.virtualBack hx (y := (⟨"java/lang/String", "equals", "(Ljava/lang/Object;)Z"⟩ : MethodName)) (z := (⟨"java/lang/String", "equals", "(Ljava/lang/Object;)Z"⟩ : MethodName)) hown (mvT hZ (hw _ (List.mem_of_getElem? (i := 29) rfl))) (mvT hZ (hw _ (List.mem_of_getElem? (i := 30) rfl))) (notFace_of_selects (args := #[]) (mvT hZ (hw _ (List.mem_of_getElem? (i := 32) rfl)))) (mvT hZ (hw _ (List.mem_of_getElem? (i := 32) rfl))) (mvT hZ (hw _ (List.mem_of_getElem? (i := 31) rfl))) (by decide) (backOf (W := 0) (rmSE l Z az hw [] a0 b1 zc d0 v1 kd c1 (1 : Int32) (1 : Int32) ([62] : List Int32) ([61] : List Int32) h1 n0 Zs2 S_C hzc E_a0 FC_a0 FV_a0 V_d0 (by decide) E_b1 FC_b1 FV_b1 V_v1 (by decide)) hZ (hw _ (List.mem_of_getElem? (i := 33) rfl)) (hw _ (List.mem_of_getElem? (i := 22) rfl)) (by decide) (by decide)) q4a q4c (g := (mkF m 3 #[.val (.ref a0), .val (.int (-1 : Int32))] [(.ref b1), (.ref a0)])) rfl (by rw [hml]; rfl) (Steps.refl _) (argsL := [(.ref b1)]) (rest := []) (lenOf pd_3 rfl) rfl (by show 2 * 0 + _ ≤ _; exact Nat.le_of_eq rfl) (hb hby d3_3) (fun _ _ => ⟨rfl, e1, (by decide : 2 + 0 ≤ _), (by decide : 8 + 0 ≤ _)⟩)
  dsimp only [Pt.U, Pt.locs, Pt.cells, Pt.slots] at X4 l4 y4 z4 st4 hQ4
  subst l4 y4 z4
  obtain ⟨hv4, N4q, e4⟩ := hQ4
  rw [show own_eqI ([62] : List Int32) ([61] : List Int32) = (0 : Int32) from by decide] at hv4
  subst hv4
  have N4 := Fr.app N0 N4q
  refine GoW.tr (S' := T4.setTop (mkF m 6 #[.val (.ref a0), .val (.int (-1 : Int32))] [(.int (0 : Int32))])) st4 ?_
  refine GoW.st (S' := T4.setTop (mkF m 19 #[.val (.ref a0), .val (.int (-1 : Int32))] [])) (fun _ kk => XS.ifYes X4.here hx rfl (pc0 := 6) (pc' := 19) rfl (hb hby d3_6) rfl ((if0 _ _).trans (teq (by decide : (0 : Int32) = (0 : Int32))).1) (by decide) (by decide) kk) ?_
  refine GoW.st (S' := T4.setTop (mkF m 20 #[.val (.ref a0), .val (.int (-1 : Int32))] [(.ref a0)])) (fun _ kk => XS.aloadN X4.here hx rfl (hb hby d3_19) rfl rfl kk) ?_
  obtain ⟨b5, T5, h5, k5, v5, c5, X5, e5, E5, hS5, hk5, hZ5, ho5, E_b5, FC_b5, FV_b5, V_v5, -, -, I, Li_b5, st5⟩ := ldcSVL (s := s.setVm T1.vm) (vm0 := T1.vm) X4 hx hZ hown (hw _ (List.mem_of_getElem? (i := 47) rfl)) (own_wS hw) e4 ((State.WarmedH.refl _).since _) (Nat.le_refl _) (own_frm N4 (Nat.le_of_eq hsz.symm)) hkp I (by decide) (hC _ (List.mem_of_getElem? (i := 1) rfl)) hcw (vs := ([60, 62] : List Int32).map .int) (z := (2 : Int32)) ⟨by decide, by decide⟩ (by decide) (by decide) (g := (mkF m 20 #[.val (.ref a0), .val (.int (-1 : Int32))] [(.ref a0)])) rfl (hb hby d3_20) (n := 8) (by decide) (by decide) (by decide : 2 + 2 ≤ _) (by decide : 8 + 12 ≤ _)
  have X5 : Stand p l e _ (s.setVm T5.vm) m _ below meth c T5 _ _ _ := X5
  have Li_b1 := LitV.stays (s := s) Li_b1 hS5.1
  have Li_b5 : LitV Z T5.vm "com/example/winj/winj/storage/ComparisonOrdersPinLaw" 15 b5 := Li_b5
  have O_z := O_z.ext E5
  have S_C := S_C.ext E5
  have E_a0 := E_a0.ext E5
  have FC_a0 := FC_a0.ext E5
  have FV_a0 := FV_a0.ext E5
  have V_d0 := V_d0.ext E5
  have E_b1 := E_b1.ext E5
  have FC_b1 := FC_b1.ext E5
  have FV_b1 := FV_b1.ext E5
  have V_v1 := V_v1.ext E5
  have Zs6 := Nat.le_trans Zs2 E5.1
  have hk := Nat.le_trans hk E5.1
  have Kp7 := Kp3.ext E5
  have hS := hS.trans (own_sinceM hS5 hk5) hk
  have hk := Nat.le_refl h5.size
  have hZ := hZ5
  have hown := ho5
  refine GoW.st (S' := T5.setTop (mkF m 22 #[.val (.ref a0), .val (.int (-1 : Int32))] [(.ref b5), (.ref a0)])) st5 ?_
  obtain ⟨cq8, kq8, q8a, q8b, q8c⟩ := isOf hZ e5 E_a0
  obtain ⟨_, _, ⟨T8, L8, k8, n8⟩, -, X8, ⟨Lc8, hQ8, l8, y8, z8⟩, st8⟩ := X5.virtualBack hx (y := (⟨"java/lang/String", "equals", "(Ljava/lang/Object;)Z"⟩ : MethodName)) (z := (⟨"java/lang/String", "equals", "(Ljava/lang/Object;)Z"⟩ : MethodName)) hown (mvT hZ (hw _ (List.mem_of_getElem? (i := 29) rfl))) (mvT hZ (hw _ (List.mem_of_getElem? (i := 30) rfl))) (notFace_of_selects (args := #[]) (mvT hZ (hw _ (List.mem_of_getElem? (i := 32) rfl)))) (mvT hZ (hw _ (List.mem_of_getElem? (i := 32) rfl))) (mvT hZ (hw _ (List.mem_of_getElem? (i := 31) rfl))) (by decide) (backOf (W := 0) (rmSE l Z az hw [] a0 b5 zc d0 v5 kd c5 (1 : Int32) (2 : Int32) ([62] : List Int32) ([60, 62] : List Int32) h5 n0 Zs6 S_C hzc E_a0 FC_a0 FV_a0 V_d0 (by decide) E_b5 FC_b5 FV_b5 V_v5 (by decide)) hZ (hw _ (List.mem_of_getElem? (i := 33) rfl)) (hw _ (List.mem_of_getElem? (i := 22) rfl)) (by decide) (by decide)) q8a q8c (g := (mkF m 22 #[.val (.ref a0), .val (.int (-1 : Int32))] [(.ref b5), (.ref a0)])) rfl (by rw [hml]; rfl) (Steps.refl _) (argsL := [(.ref b5)]) (rest := []) (lenOf pd_3 rfl) rfl (by show 2 * 0 + _ ≤ _; exact Nat.le_of_eq rfl) (hb hby d3_22) (fun _ _ => ⟨rfl, e5, (by decide : 4 + 0 ≤ _), (by decide : 20 + 0 ≤ _)⟩)
  dsimp only [Pt.U, Pt.locs, Pt.cells, Pt.slots] at X8 l8 y8 z8 st8 hQ8
  subst l8 y8 z8
  obtain ⟨hv8, N8q, e8⟩ := hQ8
  rw [show own_eqI ([62] : List Int32) ([60, 62] : List Int32) = (0 : Int32) from by decide] at hv8
  subst hv8
  have N8 := Fr.app N4 N8q
  refine GoW.tr (S' := T8.setTop (mkF m 25 #[.val (.ref a0), .val (.int (-1 : Int32))] [(.int (0 : Int32))])) st8 ?_
  refine GoW.st (S' := T8.setTop (mkF m 38 #[.val (.ref a0), .val (.int (-1 : Int32))] [])) (fun _ kk => XS.ifYes X8.here hx rfl (pc0 := 25) (pc' := 38) rfl (hb hby d3_25) rfl ((if0 _ _).trans (teq (by decide : (0 : Int32) = (0 : Int32))).1) (by decide) (by decide) kk) ?_
  refine GoW.st (S' := T8.setTop (mkF m 39 #[.val (.ref a0), .val (.int (-1 : Int32))] [(.ref a0)])) (fun _ kk => XS.aloadN X8.here hx rfl (hb hby d3_38) rfl rfl kk) ?_
  obtain ⟨b9, T9, h9, k9, v9, c9, X9, e9, E9, hS9, hk9, hZ9, ho9, E_b9, FC_b9, FV_b9, V_v9, -, -, I, Li_b9, st9⟩ := ldcSVL (s := s.setVm T5.vm) (vm0 := T5.vm) X8 hx hZ hown (hw _ (List.mem_of_getElem? (i := 48) rfl)) (own_wS hw) e8 ((State.WarmedH.refl _).since _) (Nat.le_refl _) (own_frm N8 (Nat.le_of_eq hsz.symm)) hkp I (by decide) (hC _ (List.mem_of_getElem? (i := 2) rfl)) hcw (vs := ([60] : List Int32).map .int) (z := (1 : Int32)) ⟨by decide, by decide⟩ (by decide) (by decide) (g := (mkF m 39 #[.val (.ref a0), .val (.int (-1 : Int32))] [(.ref a0)])) rfl (hb hby d3_39) (n := 4) (by decide) (by decide) (by decide : 4 + 2 ≤ _) (by decide : 20 + 8 ≤ _)
  have X9 : Stand p l e _ (s.setVm T9.vm) m _ below meth c T9 _ _ _ := X9
  have Li_b1 := LitV.stays (s := s) Li_b1 hS9.1
  have Li_b5 := LitV.stays (s := s) Li_b5 hS9.1
  have Li_b9 : LitV Z T9.vm "com/example/winj/winj/storage/ComparisonOrdersPinLaw" 17 b9 := Li_b9
  have O_z := O_z.ext E9
  have S_C := S_C.ext E9
  have E_a0 := E_a0.ext E9
  have FC_a0 := FC_a0.ext E9
  have FV_a0 := FV_a0.ext E9
  have V_d0 := V_d0.ext E9
  have E_b1 := E_b1.ext E9
  have FC_b1 := FC_b1.ext E9
  have FV_b1 := FV_b1.ext E9
  have V_v1 := V_v1.ext E9
  have E_b5 := E_b5.ext E9
  have FC_b5 := FC_b5.ext E9
  have FV_b5 := FV_b5.ext E9
  have V_v5 := V_v5.ext E9
  have Zs10 := Nat.le_trans Zs6 E9.1
  have hk := Nat.le_trans hk E9.1
  have Kp11 := Kp7.ext E9
  have hS := hS.trans (own_sinceM hS9 hk9) hk
  have hk := Nat.le_refl h9.size
  have hZ := hZ9
  have hown := ho9
  refine GoW.st (S' := T9.setTop (mkF m 41 #[.val (.ref a0), .val (.int (-1 : Int32))] [(.ref b9), (.ref a0)])) st9 ?_
  obtain ⟨cq12, kq12, q12a, q12b, q12c⟩ := isOf hZ e9 E_a0
  obtain ⟨_, _, ⟨T12, L12, k12, n12⟩, -, X12, ⟨Lc12, hQ12, l12, y12, z12⟩, st12⟩ := X9.virtualBack hx (y := (⟨"java/lang/String", "equals", "(Ljava/lang/Object;)Z"⟩ : MethodName)) (z := (⟨"java/lang/String", "equals", "(Ljava/lang/Object;)Z"⟩ : MethodName)) hown (mvT hZ (hw _ (List.mem_of_getElem? (i := 29) rfl))) (mvT hZ (hw _ (List.mem_of_getElem? (i := 30) rfl))) (notFace_of_selects (args := #[]) (mvT hZ (hw _ (List.mem_of_getElem? (i := 32) rfl)))) (mvT hZ (hw _ (List.mem_of_getElem? (i := 32) rfl))) (mvT hZ (hw _ (List.mem_of_getElem? (i := 31) rfl))) (by decide) (backOf (W := 0) (rmSE l Z az hw [] a0 b9 zc d0 v9 kd c9 (1 : Int32) (1 : Int32) ([62] : List Int32) ([60] : List Int32) h9 n0 Zs10 S_C hzc E_a0 FC_a0 FV_a0 V_d0 (by decide) E_b9 FC_b9 FV_b9 V_v9 (by decide)) hZ (hw _ (List.mem_of_getElem? (i := 33) rfl)) (hw _ (List.mem_of_getElem? (i := 22) rfl)) (by decide) (by decide)) q12a q12c (g := (mkF m 41 #[.val (.ref a0), .val (.int (-1 : Int32))] [(.ref b9), (.ref a0)])) rfl (by rw [hml]; rfl) (Steps.refl _) (argsL := [(.ref b9)]) (rest := []) (lenOf pd_3 rfl) rfl (by show 2 * 0 + _ ≤ _; exact Nat.le_of_eq rfl) (hb hby d3_41) (fun _ _ => ⟨rfl, e9, (by decide : 6 + 0 ≤ _), (by decide : 28 + 0 ≤ _)⟩)
  dsimp only [Pt.U, Pt.locs, Pt.cells, Pt.slots] at X12 l12 y12 z12 st12 hQ12
  subst l12 y12 z12
  obtain ⟨hv12, N12q, e12⟩ := hQ12
  rw [show own_eqI ([62] : List Int32) ([60] : List Int32) = (0 : Int32) from by decide] at hv12
  subst hv12
  have N12 := Fr.app N8 N12q
  refine GoW.tr (S' := T12.setTop (mkF m 44 #[.val (.ref a0), .val (.int (-1 : Int32))] [(.int (0 : Int32))])) st12 ?_
  refine GoW.st (S' := T12.setTop (mkF m 57 #[.val (.ref a0), .val (.int (-1 : Int32))] [])) (fun _ kk => XS.ifYes X12.here hx rfl (pc0 := 44) (pc' := 57) rfl (hb hby d3_44) rfl ((if0 _ _).trans (teq (by decide : (0 : Int32) = (0 : Int32))).1) (by decide) (by decide) kk) ?_
  refine GoW.st (S' := T12.setTop (mkF m 58 #[.val (.ref a0), .val (.int (-1 : Int32))] [(.ref a0)])) (fun _ kk => XS.aloadN X12.here hx rfl (hb hby d3_57) rfl rfl kk) ?_
  obtain ⟨b13, T13, h13, k13, v13, c13, X13, e13, E13, hS13, hk13, hZ13, ho13, E_b13, FC_b13, FV_b13, V_v13, -, -, I, Li_b13, st13⟩ := ldcSVL (s := s.setVm T9.vm) (vm0 := T9.vm) X12 hx hZ hown (hw _ (List.mem_of_getElem? (i := 49) rfl)) (own_wS hw) e12 ((State.WarmedH.refl _).since _) (Nat.le_refl _) (own_frm N12 (Nat.le_of_eq hsz.symm)) hkp I (by decide) (hC _ (List.mem_of_getElem? (i := 3) rfl)) hcw (vs := ([60, 61] : List Int32).map .int) (z := (2 : Int32)) ⟨by decide, by decide⟩ (by decide) (by decide) (g := (mkF m 58 #[.val (.ref a0), .val (.int (-1 : Int32))] [(.ref a0)])) rfl (hb hby d3_58) (n := 8) (by decide) (by decide) (by decide : 6 + 2 ≤ _) (by decide : 28 + 12 ≤ _)
  have X13 : Stand p l e _ (s.setVm T13.vm) m _ below meth c T13 _ _ _ := X13
  have Li_b1 := LitV.stays (s := s) Li_b1 hS13.1
  have Li_b5 := LitV.stays (s := s) Li_b5 hS13.1
  have Li_b9 := LitV.stays (s := s) Li_b9 hS13.1
  have Li_b13 : LitV Z T13.vm "com/example/winj/winj/storage/ComparisonOrdersPinLaw" 19 b13 := Li_b13
  have O_z := O_z.ext E13
  have S_C := S_C.ext E13
  have E_a0 := E_a0.ext E13
  have FC_a0 := FC_a0.ext E13
  have FV_a0 := FV_a0.ext E13
  have V_d0 := V_d0.ext E13
  have E_b1 := E_b1.ext E13
  have FC_b1 := FC_b1.ext E13
  have FV_b1 := FV_b1.ext E13
  have V_v1 := V_v1.ext E13
  have E_b5 := E_b5.ext E13
  have FC_b5 := FC_b5.ext E13
  have FV_b5 := FV_b5.ext E13
  have V_v5 := V_v5.ext E13
  have E_b9 := E_b9.ext E13
  have FC_b9 := FC_b9.ext E13
  have FV_b9 := FV_b9.ext E13
  have V_v9 := V_v9.ext E13
  have Zs14 := Nat.le_trans Zs10 E13.1
  have hk := Nat.le_trans hk E13.1
  have Kp15 := Kp11.ext E13
  have hS := hS.trans (own_sinceM hS13 hk13) hk
  have hk := Nat.le_refl h13.size
  have hZ := hZ13
  have hown := ho13
  refine GoW.st (S' := T13.setTop (mkF m 60 #[.val (.ref a0), .val (.int (-1 : Int32))] [(.ref b13), (.ref a0)])) st13 ?_
  obtain ⟨cq16, kq16, q16a, q16b, q16c⟩ := isOf hZ e13 E_a0
  obtain ⟨_, _, ⟨T16, L16, k16, n16⟩, -, X16, ⟨Lc16, hQ16, l16, y16, z16⟩, st16⟩ := X13.virtualBack hx (y := (⟨"java/lang/String", "equals", "(Ljava/lang/Object;)Z"⟩ : MethodName)) (z := (⟨"java/lang/String", "equals", "(Ljava/lang/Object;)Z"⟩ : MethodName)) hown (mvT hZ (hw _ (List.mem_of_getElem? (i := 29) rfl))) (mvT hZ (hw _ (List.mem_of_getElem? (i := 30) rfl))) (notFace_of_selects (args := #[]) (mvT hZ (hw _ (List.mem_of_getElem? (i := 32) rfl)))) (mvT hZ (hw _ (List.mem_of_getElem? (i := 32) rfl))) (mvT hZ (hw _ (List.mem_of_getElem? (i := 31) rfl))) (by decide) (backOf (W := 0) (rmSE l Z az hw [] a0 b13 zc d0 v13 kd c13 (1 : Int32) (2 : Int32) ([62] : List Int32) ([60, 61] : List Int32) h13 n0 Zs14 S_C hzc E_a0 FC_a0 FV_a0 V_d0 (by decide) E_b13 FC_b13 FV_b13 V_v13 (by decide)) hZ (hw _ (List.mem_of_getElem? (i := 33) rfl)) (hw _ (List.mem_of_getElem? (i := 22) rfl)) (by decide) (by decide)) q16a q16c (g := (mkF m 60 #[.val (.ref a0), .val (.int (-1 : Int32))] [(.ref b13), (.ref a0)])) rfl (by rw [hml]; rfl) (Steps.refl _) (argsL := [(.ref b13)]) (rest := []) (lenOf pd_3 rfl) rfl (by show 2 * 0 + _ ≤ _; exact Nat.le_of_eq rfl) (hb hby d3_60) (fun _ _ => ⟨rfl, e13, (by decide : 8 + 0 ≤ _), (by decide : 40 + 0 ≤ _)⟩)
  dsimp only [Pt.U, Pt.locs, Pt.cells, Pt.slots] at X16 l16 y16 z16 st16 hQ16
  subst l16 y16 z16
  obtain ⟨hv16, N16q, e16⟩ := hQ16
  rw [show own_eqI ([62] : List Int32) ([60, 61] : List Int32) = (0 : Int32) from by decide] at hv16
  subst hv16
  have N16 := Fr.app N12 N16q
  refine GoW.tr (S' := T16.setTop (mkF m 63 #[.val (.ref a0), .val (.int (-1 : Int32))] [(.int (0 : Int32))])) st16 ?_
  refine GoW.st (S' := T16.setTop (mkF m 76 #[.val (.ref a0), .val (.int (-1 : Int32))] [])) (fun _ kk => XS.ifYes X16.here hx rfl (pc0 := 63) (pc' := 76) rfl (hb hby d3_63) rfl ((if0 _ _).trans (teq (by decide : (0 : Int32) = (0 : Int32))).1) (by decide) (by decide) kk) ?_
  refine GoW.st (S' := T16.setTop (mkF m 77 #[.val (.ref a0), .val (.int (-1 : Int32))] [(.ref a0)])) (fun _ kk => XS.aloadN X16.here hx rfl (hb hby d3_76) rfl rfl kk) ?_
  obtain ⟨b17, T17, h17, k17, v17, c17, X17, e17, E17, hS17, hk17, hZ17, ho17, E_b17, FC_b17, FV_b17, V_v17, -, -, I, Li_b17, st17⟩ := ldcSVL (s := s.setVm T13.vm) (vm0 := T13.vm) X16 hx hZ hown (hw _ (List.mem_of_getElem? (i := 55) rfl)) (own_wS hw) e16 ((State.WarmedH.refl _).since _) (Nat.le_refl _) (own_frm N16 (Nat.le_of_eq hsz.symm)) hkp I (by decide) (hC _ (List.mem_of_getElem? (i := 4) rfl)) hcw (vs := ([62] : List Int32).map .int) (z := (1 : Int32)) ⟨by decide, by decide⟩ (by decide) (by decide) (g := (mkF m 77 #[.val (.ref a0), .val (.int (-1 : Int32))] [(.ref a0)])) rfl (hb hby d3_77) (n := 4) (by decide) (by decide) (by decide : 8 + 2 ≤ _) (by decide : 40 + 8 ≤ _)
  have X17 : Stand p l e _ (s.setVm T17.vm) m _ below meth c T17 _ _ _ := X17
  have Li_b1 := LitV.stays (s := s) Li_b1 hS17.1
  have Li_b5 := LitV.stays (s := s) Li_b5 hS17.1
  have Li_b9 := LitV.stays (s := s) Li_b9 hS17.1
  have Li_b13 := LitV.stays (s := s) Li_b13 hS17.1
  have Li_b17 : LitV Z T17.vm "com/example/winj/winj/storage/ComparisonOrdersPinLaw" 21 b17 := Li_b17
  have O_z := O_z.ext E17
  have S_C := S_C.ext E17
  have E_a0 := E_a0.ext E17
  have FC_a0 := FC_a0.ext E17
  have FV_a0 := FV_a0.ext E17
  have V_d0 := V_d0.ext E17
  have E_b1 := E_b1.ext E17
  have FC_b1 := FC_b1.ext E17
  have FV_b1 := FV_b1.ext E17
  have V_v1 := V_v1.ext E17
  have E_b5 := E_b5.ext E17
  have FC_b5 := FC_b5.ext E17
  have FV_b5 := FV_b5.ext E17
  have V_v5 := V_v5.ext E17
  have E_b9 := E_b9.ext E17
  have FC_b9 := FC_b9.ext E17
  have FV_b9 := FV_b9.ext E17
  have V_v9 := V_v9.ext E17
  have E_b13 := E_b13.ext E17
  have FC_b13 := FC_b13.ext E17
  have FV_b13 := FV_b13.ext E17
  have V_v13 := V_v13.ext E17
  have Zs18 := Nat.le_trans Zs14 E17.1
  have hk := Nat.le_trans hk E17.1
  have Kp19 := Kp15.ext E17
  have hS := hS.trans (own_sinceM hS17 hk17) hk
  have hk := Nat.le_refl h17.size
  have hZ := hZ17
  have hown := ho17
  refine GoW.st (S' := T17.setTop (mkF m 79 #[.val (.ref a0), .val (.int (-1 : Int32))] [(.ref b17), (.ref a0)])) st17 ?_
  obtain ⟨cq20, kq20, q20a, q20b, q20c⟩ := isOf hZ e17 E_a0
  obtain ⟨_, _, ⟨T20, L20, k20, n20⟩, -, X20, ⟨Lc20, hQ20, l20, y20, z20⟩, st20⟩ := X17.virtualBack hx (y := (⟨"java/lang/String", "equals", "(Ljava/lang/Object;)Z"⟩ : MethodName)) (z := (⟨"java/lang/String", "equals", "(Ljava/lang/Object;)Z"⟩ : MethodName)) hown (mvT hZ (hw _ (List.mem_of_getElem? (i := 29) rfl))) (mvT hZ (hw _ (List.mem_of_getElem? (i := 30) rfl))) (notFace_of_selects (args := #[]) (mvT hZ (hw _ (List.mem_of_getElem? (i := 32) rfl)))) (mvT hZ (hw _ (List.mem_of_getElem? (i := 32) rfl))) (mvT hZ (hw _ (List.mem_of_getElem? (i := 31) rfl))) (by decide) (backOf (W := 0) (rmSE l Z az hw [] a0 b17 zc d0 v17 kd c17 (1 : Int32) (1 : Int32) ([62] : List Int32) ([62] : List Int32) h17 n0 Zs18 S_C hzc E_a0 FC_a0 FV_a0 V_d0 (by decide) E_b17 FC_b17 FV_b17 V_v17 (by decide)) hZ (hw _ (List.mem_of_getElem? (i := 33) rfl)) (hw _ (List.mem_of_getElem? (i := 22) rfl)) (by decide) (by decide)) q20a q20c (g := (mkF m 79 #[.val (.ref a0), .val (.int (-1 : Int32))] [(.ref b17), (.ref a0)])) rfl (by rw [hml]; rfl) (Steps.refl _) (argsL := [(.ref b17)]) (rest := []) (lenOf pd_3 rfl) rfl (by show 2 * 0 + _ ≤ _; exact Nat.le_of_eq rfl) (hb hby d3_79) (fun _ _ => ⟨rfl, e17, (by decide : 10 + 0 ≤ _), (by decide : 48 + 0 ≤ _)⟩)
  dsimp only [Pt.U, Pt.locs, Pt.cells, Pt.slots] at X20 l20 y20 z20 st20 hQ20
  subst l20 y20 z20
  obtain ⟨hv20, N20q, e20⟩ := hQ20
  rw [show own_eqI ([62] : List Int32) ([62] : List Int32) = (1 : Int32) from by decide] at hv20
  subst hv20
  have N20 := Fr.app N16 N20q
  refine GoW.tr (S' := T20.setTop (mkF m 82 #[.val (.ref a0), .val (.int (-1 : Int32))] [(.int (1 : Int32))])) st20 ?_
  refine GoW.st (S' := T20.setTop (mkF m 85 #[.val (.ref a0), .val (.int (-1 : Int32))] [])) (fun _ kk => XS.ifNo X20.here hx rfl (hb hby d3_82) rfl ((if0 _ _).trans (feq (by decide : ¬ ((1 : Int32) = (0 : Int32)))).1) kk) ?_
  refine GoW.st (S' := T20.setTop (mkF m 86 #[.val (.ref a0), .val (.int (-1 : Int32))] [(.int (-1 : Int32))])) (fun _ kk => XS.iloadN X20.here hx rfl (hb hby d3_85) rfl kk) ?_
  refine GoW.st (S' := T20.setTop (mkF m 93 #[.val (.ref a0), .val (.int (-1 : Int32))] [])) (fun _ kk => XS.ifYes X20.here hx rfl (pc0 := 86) (pc' := 93) rfl (hb hby d3_86) rfl ((if0 _ _).trans (flt (by decide : ¬ ((0 : Int32) < (-1 : Int32)))).2.2.2) (by decide) (by decide) kk) ?_
  refine GoW.st (S' := T20.setTop (mkF m 94 #[.val (.ref a0), .val (.int (-1 : Int32))] [(.int (0 : Int32))])) (fun _ kk => XS.iconst X20.here hx rfl (hb hby d3_93) kk) ?_
  have Li_b1' := LitV.stays (s := s) Li_b1 X20.warmed.wide
  have Li_b5' := LitV.stays (s := s) Li_b5 X20.warmed.wide
  have Li_b9' := LitV.stays (s := s) Li_b9 X20.warmed.wide
  have Li_b13' := LitV.stays (s := s) Li_b13 X20.warmed.wide
  have Li_b17' := LitV.stays (s := s) Li_b17 X20.warmed.wide
  exact GoW.retN X20 hx hlk hS (own_hk e20 hk) (t := .boolean) Bd.returns (by simp) (hb hby d3_94) (by rw [e20]; exact ⟨rfl, hn0 ▸ N20, own_extk Kp19, b1, v1, c1, b5, v5, c5, b9, v9, c9, b13, v13, c13, b17, v17, c17, ⟨Li_b1', E_b1, FC_b1, FV_b1, V_v1⟩, ⟨Li_b5', E_b5, FC_b5, FV_b5, V_v5⟩, ⟨Li_b9', E_b9, FC_b9, FV_b9, V_v9⟩, ⟨Li_b13', E_b13, FC_b13, FV_b13, V_v13⟩, ⟨Li_b17', E_b17, FC_b17, FV_b17, V_v17⟩⟩) (by decide) (by decide)
def PV_a4 (Z : State) (la0 : Addr) (la1 : Addr) (la2 : Addr) (la3 : Addr) (la4 : Addr) (vm : Vm) : Prop := LitV Z vm "com/example/winj/winj/storage/ComparisonOrdersPinLaw" 7 la0 ∧ LitV Z vm "com/example/winj/winj/storage/ComparisonOrdersPinLaw" 15 la1 ∧ LitV Z vm "com/example/winj/winj/storage/ComparisonOrdersPinLaw" 17 la2 ∧ LitV Z vm "com/example/winj/winj/storage/ComparisonOrdersPinLaw" 19 la3 ∧ LitV Z vm "com/example/winj/winj/storage/ComparisonOrdersPinLaw" 21 la4
set_option maxRecDepth 65536 in
set_option maxHeartbeats 4000000 in
theorem rmHa4 (l : Launch) (Z : State) (az : Array Value) (hw : ∀ d ∈ tables_1, d.before az Z = true) (ws : List Jvm.Cond) (a0 : Addr) (p1 : Int32) (zc : Int32) (d0 : Addr) (kd : ClassId) (la0 lb0 : Addr) (lk0 : ClassId) (la1 lb1 : Addr) (lk1 : ClassId) (la2 lb2 : Addr) (lk2 : ClassId) (la3 lb3 : Addr) (lk3 : ClassId) (la4 lb4 : Addr) (lk4 : ClassId) (h0 : Heap) (hC : Jvm.D.constsHeld consts_1 Z) (hcw : Jvm.Lit.compactW.before az Z = true) (nz : Nat) (O_z : Old Z nz h0) (S_C : Sta Z h0 "java/lang/String" "COMPACT_STRINGS" "Z" (.int zc)) (hzc : ¬ zc = 0) (E_a0 : Exa Z h0 a0 "java/lang/String") (FC_a0 : Fld Z h0 a0 "java/lang/String" "coder" "B" (.int 0)) (FV_a0 : Fld Z h0 a0 "java/lang/String" "value" "[B" (.ref d0)) (V_d0 : Arv Z h0 d0 kd .byte (1 : Int32) (([62] : List Int32).map .int) (.int 0)) (E_la0 : Exa Z h0 la0 "java/lang/String") (FC_la0 : Fld Z h0 la0 "java/lang/String" "coder" "B" (.int 0)) (FV_la0 : Fld Z h0 la0 "java/lang/String" "value" "[B" (.ref lb0)) (V_lb0 : Arv Z h0 lb0 lk0 .byte (1 : Int32) (([61] : List Int32).map .int) (.int 0)) (E_la1 : Exa Z h0 la1 "java/lang/String") (FC_la1 : Fld Z h0 la1 "java/lang/String" "coder" "B" (.int 0)) (FV_la1 : Fld Z h0 la1 "java/lang/String" "value" "[B" (.ref lb1)) (V_lb1 : Arv Z h0 lb1 lk1 .byte (2 : Int32) (([60, 62] : List Int32).map .int) (.int 0)) (E_la2 : Exa Z h0 la2 "java/lang/String") (FC_la2 : Fld Z h0 la2 "java/lang/String" "coder" "B" (.int 0)) (FV_la2 : Fld Z h0 la2 "java/lang/String" "value" "[B" (.ref lb2)) (V_lb2 : Arv Z h0 lb2 lk2 .byte (1 : Int32) (([60] : List Int32).map .int) (.int 0)) (E_la3 : Exa Z h0 la3 "java/lang/String") (FC_la3 : Fld Z h0 la3 "java/lang/String" "coder" "B" (.int 0)) (FV_la3 : Fld Z h0 la3 "java/lang/String" "value" "[B" (.ref lb3)) (V_lb3 : Arv Z h0 lb3 lk3 .byte (2 : Int32) (([60, 61] : List Int32).map .int) (.int 0)) (E_la4 : Exa Z h0 la4 "java/lang/String") (FC_la4 : Fld Z h0 la4 "java/lang/String" "coder" "B" (.int 0)) (FV_la4 : Fld Z h0 la4 "java/lang/String" "value" "[B" (.ref lb4)) (V_lb4 : Arv Z h0 lb4 lk4 .byte (1 : Int32) (([62] : List Int32).map .int) (.int 0)) (hp1 : p1 = (1 : Int32)) :
    MetFree l (⟨"com/example/winj/winj/storage/ComparisonOrdersPinLaw", "holds", "(Ljava/lang/String;I)Z"⟩ : MethodName) (head1 (Jvm.Cond.code (⟨"com/example/winj/winj/storage/ComparisonOrdersPinLaw", "holds", "(Ljava/lang/String;I)Z"⟩ : MethodName) method_2_code 2 (some .boolean) :: ws) ({ frames := 2, cells := 0, slots := 0, locals := 28 } : Room)) (fun a U => a = #[(.ref a0), (.int p1)] ∧ Z.Warmed39 U.vm ∧ U.heap = h0 ∧ (PV_a4 Z la0 la1 la2 la3 la4) U.vm) (fun _ _ _ _ _ => True) (fun _ U o U' => ∃ v L, o = .returned v ∧ (Q_ha (1 : Int32) h0) v U'.heap U'.vm L ∧ ReturnedEndW U o U' L ({ frames := 2, cells := 0, slots := 0, locals := 28 } : Room).cells ({ frames := 2, cells := 0, slots := 0, locals := 28 } : Room).slots) := by
  refine MetFree.of_bodySF (plainFor_of_name pn_3) hisR ?_
  intro p e s m args below meth c s₁ Bd hml0 hP hK
  obtain ⟨rfl, hZ, hh, Li0, Li1, Li2, Li3, Li4⟩ := hP
  have hx := Bd.exec
  have hby := Bd.bytes
  have hlk : meth.locks = false := Bd.notSynchronized
  have hml : c.maxLocals = 2 := hml0
  have hown : s.vm.findClass "com/example/winj/winj/storage/ComparisonOrdersPinLaw" = some m.cls := findClass_of_methodNamed Bd.named
  have hnm := (name_of_methodNamed Bd.named Bd.method).1
  have X0 : Stand p l e ({ frames := 2, cells := 0, slots := 0, locals := 28 } : Room) s m #[(.ref a0), (.int p1)] below meth c s₁ [] 0 0 := Stand.of_body Bd
  have X0 : Stand p l e ({ frames := 2, cells := 0, slots := 0, locals := 28 } : Room) (s.setVm s.vm) m #[(.ref a0), (.int p1)] below meth c s₁ [] 0 0 := X0
  have e0 : s₁.heap = h0 := by rw [← hh, Bd.state]; rfl
  have hkp : ∀ (b : Addr) (cl : Cell), Z.heap[b]? = some cl → s.heap[b]? = some cl := by rw [hh]; exact own_keepOld O_z
  obtain ⟨n0, hn0⟩ : ∃ n, n = h0.size := ⟨_, rfl⟩
  have Z0 : n0 ≤ h0.size := Nat.le_of_eq hn0
  have hsz : n0 = s.heap.size := by rw [hn0, hh]
  have hS : s.Since s.vm n0 := (State.WarmedH.refl s).since n0
  have hk : n0 ≤ h0.size := Z0
  have N0 := Fr.nil n0
  show GoW p e below s ((Q_ha (1 : Int32) h0)) ({ frames := 2, cells := 0, slots := 0, locals := 28 } : Room).cells ({ frames := 2, cells := 0, slots := 0, locals := 28 } : Room).slots (s₁.setTop (entryFrame m #[(.ref a0), (.int p1)] 2))
  rw [ef_3 m a0 p1]
  subst hp1
  refine GoW.st (S' := s₁.setTop (mkF m 1 #[.val (.ref a0), .val (.int (1 : Int32))] [(.ref a0)])) (fun _ kk => XS.aloadN X0.here hx rfl (hb hby d3_0) rfl rfl kk) ?_
  refine GoW.st (S' := s₁.setTop (mkF m 3 #[.val (.ref a0), .val (.int (1 : Int32))] [(.ref la0), (.ref a0)])) (fun _ kk => ldcAgain X0 hx hZ hown (hw _ (List.mem_of_getElem? (i := 21) rfl)) Li0 (g := (mkF m 1 #[.val (.ref a0), .val (.int (1 : Int32))] [(.ref a0)])) rfl (hb hby d3_1) _ kk) ?_
  obtain ⟨cq1, kq1, q1a, q1b, q1c⟩ := isOf hZ e0 E_a0
  obtain ⟨_, _, ⟨T1, L1, k1, n1⟩, -, X1, ⟨Lc1, hQ1, l1, y1, z1⟩, st1⟩ := X0.virtualBack hx (y := (⟨"java/lang/String", "equals", "(Ljava/lang/Object;)Z"⟩ : MethodName)) (z := (⟨"java/lang/String", "equals", "(Ljava/lang/Object;)Z"⟩ : MethodName)) hown (mvT hZ (hw _ (List.mem_of_getElem? (i := 29) rfl))) (mvT hZ (hw _ (List.mem_of_getElem? (i := 30) rfl))) (notFace_of_selects (args := #[]) (mvT hZ (hw _ (List.mem_of_getElem? (i := 32) rfl)))) (mvT hZ (hw _ (List.mem_of_getElem? (i := 32) rfl))) (mvT hZ (hw _ (List.mem_of_getElem? (i := 31) rfl))) (by decide) (backOf (W := 0) (rmSE l Z az hw [] a0 la0 zc d0 lb0 kd lk0 (1 : Int32) (1 : Int32) ([62] : List Int32) ([61] : List Int32) h0 n0 Z0 S_C hzc E_a0 FC_a0 FV_a0 V_d0 (by decide) E_la0 FC_la0 FV_la0 V_lb0 (by decide)) hZ (hw _ (List.mem_of_getElem? (i := 33) rfl)) (hw _ (List.mem_of_getElem? (i := 22) rfl)) (by decide) (by decide)) q1a q1c (g := (mkF m 3 #[.val (.ref a0), .val (.int (1 : Int32))] [(.ref la0), (.ref a0)])) rfl (by rw [hml]; rfl) (Steps.refl _) (argsL := [(.ref la0)]) (rest := []) (lenOf pd_3 rfl) rfl (by show 2 * 0 + _ ≤ _; exact Nat.le_of_eq rfl) (hb hby d3_3) (fun _ _ => ⟨rfl, e0, (by decide : 0 + 0 ≤ _), (by decide : 0 + 0 ≤ _)⟩)
  dsimp only [Pt.U, Pt.locs, Pt.cells, Pt.slots] at X1 l1 y1 z1 st1 hQ1
  subst l1 y1 z1
  obtain ⟨hv1, N1q, e1⟩ := hQ1
  rw [show own_eqI ([62] : List Int32) ([61] : List Int32) = (0 : Int32) from by decide] at hv1
  subst hv1
  have N1 := Fr.app N0 N1q
  refine GoW.tr (S' := T1.setTop (mkF m 6 #[.val (.ref a0), .val (.int (1 : Int32))] [(.int (0 : Int32))])) st1 ?_
  refine GoW.st (S' := T1.setTop (mkF m 19 #[.val (.ref a0), .val (.int (1 : Int32))] [])) (fun _ kk => XS.ifYes X1.here hx rfl (pc0 := 6) (pc' := 19) rfl (hb hby d3_6) rfl ((if0 _ _).trans (teq (by decide : (0 : Int32) = (0 : Int32))).1) (by decide) (by decide) kk) ?_
  refine GoW.st (S' := T1.setTop (mkF m 20 #[.val (.ref a0), .val (.int (1 : Int32))] [(.ref a0)])) (fun _ kk => XS.aloadN X1.here hx rfl (hb hby d3_19) rfl rfl kk) ?_
  refine GoW.st (S' := T1.setTop (mkF m 22 #[.val (.ref a0), .val (.int (1 : Int32))] [(.ref la1), (.ref a0)])) (fun _ kk => ldcAgain X1 hx hZ hown (hw _ (List.mem_of_getElem? (i := 47) rfl)) Li1 (g := (mkF m 20 #[.val (.ref a0), .val (.int (1 : Int32))] [(.ref a0)])) rfl (hb hby d3_20) _ kk) ?_
  obtain ⟨cq2, kq2, q2a, q2b, q2c⟩ := isOf hZ e1 E_a0
  obtain ⟨_, _, ⟨T2, L2, k2, n2⟩, -, X2, ⟨Lc2, hQ2, l2, y2, z2⟩, st2⟩ := X1.virtualBack hx (y := (⟨"java/lang/String", "equals", "(Ljava/lang/Object;)Z"⟩ : MethodName)) (z := (⟨"java/lang/String", "equals", "(Ljava/lang/Object;)Z"⟩ : MethodName)) hown (mvT hZ (hw _ (List.mem_of_getElem? (i := 29) rfl))) (mvT hZ (hw _ (List.mem_of_getElem? (i := 30) rfl))) (notFace_of_selects (args := #[]) (mvT hZ (hw _ (List.mem_of_getElem? (i := 32) rfl)))) (mvT hZ (hw _ (List.mem_of_getElem? (i := 32) rfl))) (mvT hZ (hw _ (List.mem_of_getElem? (i := 31) rfl))) (by decide) (backOf (W := 0) (rmSE l Z az hw [] a0 la1 zc d0 lb1 kd lk1 (1 : Int32) (2 : Int32) ([62] : List Int32) ([60, 62] : List Int32) h0 n0 Z0 S_C hzc E_a0 FC_a0 FV_a0 V_d0 (by decide) E_la1 FC_la1 FV_la1 V_lb1 (by decide)) hZ (hw _ (List.mem_of_getElem? (i := 33) rfl)) (hw _ (List.mem_of_getElem? (i := 22) rfl)) (by decide) (by decide)) q2a q2c (g := (mkF m 22 #[.val (.ref a0), .val (.int (1 : Int32))] [(.ref la1), (.ref a0)])) rfl (by rw [hml]; rfl) (Steps.refl _) (argsL := [(.ref la1)]) (rest := []) (lenOf pd_3 rfl) rfl (by show 2 * 0 + _ ≤ _; exact Nat.le_of_eq rfl) (hb hby d3_22) (fun _ _ => ⟨rfl, e1, (by decide : 0 + 0 ≤ _), (by decide : 0 + 0 ≤ _)⟩)
  dsimp only [Pt.U, Pt.locs, Pt.cells, Pt.slots] at X2 l2 y2 z2 st2 hQ2
  subst l2 y2 z2
  obtain ⟨hv2, N2q, e2⟩ := hQ2
  rw [show own_eqI ([62] : List Int32) ([60, 62] : List Int32) = (0 : Int32) from by decide] at hv2
  subst hv2
  have N2 := Fr.app N1 N2q
  refine GoW.tr (S' := T2.setTop (mkF m 25 #[.val (.ref a0), .val (.int (1 : Int32))] [(.int (0 : Int32))])) st2 ?_
  refine GoW.st (S' := T2.setTop (mkF m 38 #[.val (.ref a0), .val (.int (1 : Int32))] [])) (fun _ kk => XS.ifYes X2.here hx rfl (pc0 := 25) (pc' := 38) rfl (hb hby d3_25) rfl ((if0 _ _).trans (teq (by decide : (0 : Int32) = (0 : Int32))).1) (by decide) (by decide) kk) ?_
  refine GoW.st (S' := T2.setTop (mkF m 39 #[.val (.ref a0), .val (.int (1 : Int32))] [(.ref a0)])) (fun _ kk => XS.aloadN X2.here hx rfl (hb hby d3_38) rfl rfl kk) ?_
  refine GoW.st (S' := T2.setTop (mkF m 41 #[.val (.ref a0), .val (.int (1 : Int32))] [(.ref la2), (.ref a0)])) (fun _ kk => ldcAgain X2 hx hZ hown (hw _ (List.mem_of_getElem? (i := 48) rfl)) Li2 (g := (mkF m 39 #[.val (.ref a0), .val (.int (1 : Int32))] [(.ref a0)])) rfl (hb hby d3_39) _ kk) ?_
  obtain ⟨cq3, kq3, q3a, q3b, q3c⟩ := isOf hZ e2 E_a0
  obtain ⟨_, _, ⟨T3, L3, k3, n3⟩, -, X3, ⟨Lc3, hQ3, l3, y3, z3⟩, st3⟩ := X2.virtualBack hx (y := (⟨"java/lang/String", "equals", "(Ljava/lang/Object;)Z"⟩ : MethodName)) (z := (⟨"java/lang/String", "equals", "(Ljava/lang/Object;)Z"⟩ : MethodName)) hown (mvT hZ (hw _ (List.mem_of_getElem? (i := 29) rfl))) (mvT hZ (hw _ (List.mem_of_getElem? (i := 30) rfl))) (notFace_of_selects (args := #[]) (mvT hZ (hw _ (List.mem_of_getElem? (i := 32) rfl)))) (mvT hZ (hw _ (List.mem_of_getElem? (i := 32) rfl))) (mvT hZ (hw _ (List.mem_of_getElem? (i := 31) rfl))) (by decide) (backOf (W := 0) (rmSE l Z az hw [] a0 la2 zc d0 lb2 kd lk2 (1 : Int32) (1 : Int32) ([62] : List Int32) ([60] : List Int32) h0 n0 Z0 S_C hzc E_a0 FC_a0 FV_a0 V_d0 (by decide) E_la2 FC_la2 FV_la2 V_lb2 (by decide)) hZ (hw _ (List.mem_of_getElem? (i := 33) rfl)) (hw _ (List.mem_of_getElem? (i := 22) rfl)) (by decide) (by decide)) q3a q3c (g := (mkF m 41 #[.val (.ref a0), .val (.int (1 : Int32))] [(.ref la2), (.ref a0)])) rfl (by rw [hml]; rfl) (Steps.refl _) (argsL := [(.ref la2)]) (rest := []) (lenOf pd_3 rfl) rfl (by show 2 * 0 + _ ≤ _; exact Nat.le_of_eq rfl) (hb hby d3_41) (fun _ _ => ⟨rfl, e2, (by decide : 0 + 0 ≤ _), (by decide : 0 + 0 ≤ _)⟩)
  dsimp only [Pt.U, Pt.locs, Pt.cells, Pt.slots] at X3 l3 y3 z3 st3 hQ3
  subst l3 y3 z3
  obtain ⟨hv3, N3q, e3⟩ := hQ3
  rw [show own_eqI ([62] : List Int32) ([60] : List Int32) = (0 : Int32) from by decide] at hv3
  subst hv3
  have N3 := Fr.app N2 N3q
  refine GoW.tr (S' := T3.setTop (mkF m 44 #[.val (.ref a0), .val (.int (1 : Int32))] [(.int (0 : Int32))])) st3 ?_
  refine GoW.st (S' := T3.setTop (mkF m 57 #[.val (.ref a0), .val (.int (1 : Int32))] [])) (fun _ kk => XS.ifYes X3.here hx rfl (pc0 := 44) (pc' := 57) rfl (hb hby d3_44) rfl ((if0 _ _).trans (teq (by decide : (0 : Int32) = (0 : Int32))).1) (by decide) (by decide) kk) ?_
  refine GoW.st (S' := T3.setTop (mkF m 58 #[.val (.ref a0), .val (.int (1 : Int32))] [(.ref a0)])) (fun _ kk => XS.aloadN X3.here hx rfl (hb hby d3_57) rfl rfl kk) ?_
  refine GoW.st (S' := T3.setTop (mkF m 60 #[.val (.ref a0), .val (.int (1 : Int32))] [(.ref la3), (.ref a0)])) (fun _ kk => ldcAgain X3 hx hZ hown (hw _ (List.mem_of_getElem? (i := 49) rfl)) Li3 (g := (mkF m 58 #[.val (.ref a0), .val (.int (1 : Int32))] [(.ref a0)])) rfl (hb hby d3_58) _ kk) ?_
  obtain ⟨cq4, kq4, q4a, q4b, q4c⟩ := isOf hZ e3 E_a0
  obtain ⟨_, _, ⟨T4, L4, k4, n4⟩, -, X4, ⟨Lc4, hQ4, l4, y4, z4⟩, st4⟩ := X3.virtualBack hx (y := (⟨"java/lang/String", "equals", "(Ljava/lang/Object;)Z"⟩ : MethodName)) (z := (⟨"java/lang/String", "equals", "(Ljava/lang/Object;)Z"⟩ : MethodName)) hown (mvT hZ (hw _ (List.mem_of_getElem? (i := 29) rfl))) (mvT hZ (hw _ (List.mem_of_getElem? (i := 30) rfl))) (notFace_of_selects (args := #[]) (mvT hZ (hw _ (List.mem_of_getElem? (i := 32) rfl)))) (mvT hZ (hw _ (List.mem_of_getElem? (i := 32) rfl))) (mvT hZ (hw _ (List.mem_of_getElem? (i := 31) rfl))) (by decide) (backOf (W := 0) (rmSE l Z az hw [] a0 la3 zc d0 lb3 kd lk3 (1 : Int32) (2 : Int32) ([62] : List Int32) ([60, 61] : List Int32) h0 n0 Z0 S_C hzc E_a0 FC_a0 FV_a0 V_d0 (by decide) E_la3 FC_la3 FV_la3 V_lb3 (by decide)) hZ (hw _ (List.mem_of_getElem? (i := 33) rfl)) (hw _ (List.mem_of_getElem? (i := 22) rfl)) (by decide) (by decide)) q4a q4c (g := (mkF m 60 #[.val (.ref a0), .val (.int (1 : Int32))] [(.ref la3), (.ref a0)])) rfl (by rw [hml]; rfl) (Steps.refl _) (argsL := [(.ref la3)]) (rest := []) (lenOf pd_3 rfl) rfl (by show 2 * 0 + _ ≤ _; exact Nat.le_of_eq rfl) (hb hby d3_60) (fun _ _ => ⟨rfl, e3, (by decide : 0 + 0 ≤ _), (by decide : 0 + 0 ≤ _)⟩)
  dsimp only [Pt.U, Pt.locs, Pt.cells, Pt.slots] at X4 l4 y4 z4 st4 hQ4
  subst l4 y4 z4
  obtain ⟨hv4, N4q, e4⟩ := hQ4
  rw [show own_eqI ([62] : List Int32) ([60, 61] : List Int32) = (0 : Int32) from by decide] at hv4
  subst hv4
  have N4 := Fr.app N3 N4q
  refine GoW.tr (S' := T4.setTop (mkF m 63 #[.val (.ref a0), .val (.int (1 : Int32))] [(.int (0 : Int32))])) st4 ?_
  refine GoW.st (S' := T4.setTop (mkF m 76 #[.val (.ref a0), .val (.int (1 : Int32))] [])) (fun _ kk => XS.ifYes X4.here hx rfl (pc0 := 63) (pc' := 76) rfl (hb hby d3_63) rfl ((if0 _ _).trans (teq (by decide : (0 : Int32) = (0 : Int32))).1) (by decide) (by decide) kk) ?_
  refine GoW.st (S' := T4.setTop (mkF m 77 #[.val (.ref a0), .val (.int (1 : Int32))] [(.ref a0)])) (fun _ kk => XS.aloadN X4.here hx rfl (hb hby d3_76) rfl rfl kk) ?_
  refine GoW.st (S' := T4.setTop (mkF m 79 #[.val (.ref a0), .val (.int (1 : Int32))] [(.ref la4), (.ref a0)])) (fun _ kk => ldcAgain X4 hx hZ hown (hw _ (List.mem_of_getElem? (i := 55) rfl)) Li4 (g := (mkF m 77 #[.val (.ref a0), .val (.int (1 : Int32))] [(.ref a0)])) rfl (hb hby d3_77) _ kk) ?_
  obtain ⟨cq5, kq5, q5a, q5b, q5c⟩ := isOf hZ e4 E_a0
  obtain ⟨_, _, ⟨T5, L5, k5, n5⟩, -, X5, ⟨Lc5, hQ5, l5, y5, z5⟩, st5⟩ := X4.virtualBack hx (y := (⟨"java/lang/String", "equals", "(Ljava/lang/Object;)Z"⟩ : MethodName)) (z := (⟨"java/lang/String", "equals", "(Ljava/lang/Object;)Z"⟩ : MethodName)) hown (mvT hZ (hw _ (List.mem_of_getElem? (i := 29) rfl))) (mvT hZ (hw _ (List.mem_of_getElem? (i := 30) rfl))) (notFace_of_selects (args := #[]) (mvT hZ (hw _ (List.mem_of_getElem? (i := 32) rfl)))) (mvT hZ (hw _ (List.mem_of_getElem? (i := 32) rfl))) (mvT hZ (hw _ (List.mem_of_getElem? (i := 31) rfl))) (by decide) (backOf (W := 0) (rmSE l Z az hw [] a0 la4 zc d0 lb4 kd lk4 (1 : Int32) (1 : Int32) ([62] : List Int32) ([62] : List Int32) h0 n0 Z0 S_C hzc E_a0 FC_a0 FV_a0 V_d0 (by decide) E_la4 FC_la4 FV_la4 V_lb4 (by decide)) hZ (hw _ (List.mem_of_getElem? (i := 33) rfl)) (hw _ (List.mem_of_getElem? (i := 22) rfl)) (by decide) (by decide)) q5a q5c (g := (mkF m 79 #[.val (.ref a0), .val (.int (1 : Int32))] [(.ref la4), (.ref a0)])) rfl (by rw [hml]; rfl) (Steps.refl _) (argsL := [(.ref la4)]) (rest := []) (lenOf pd_3 rfl) rfl (by show 2 * 0 + _ ≤ _; exact Nat.le_of_eq rfl) (hb hby d3_79) (fun _ _ => ⟨rfl, e4, (by decide : 0 + 0 ≤ _), (by decide : 0 + 0 ≤ _)⟩)
  dsimp only [Pt.U, Pt.locs, Pt.cells, Pt.slots] at X5 l5 y5 z5 st5 hQ5
  subst l5 y5 z5
  obtain ⟨hv5, N5q, e5⟩ := hQ5
  rw [show own_eqI ([62] : List Int32) ([62] : List Int32) = (1 : Int32) from by decide] at hv5
  subst hv5
  have N5 := Fr.app N4 N5q
  refine GoW.tr (S' := T5.setTop (mkF m 82 #[.val (.ref a0), .val (.int (1 : Int32))] [(.int (1 : Int32))])) st5 ?_
  refine GoW.st (S' := T5.setTop (mkF m 85 #[.val (.ref a0), .val (.int (1 : Int32))] [])) (fun _ kk => XS.ifNo X5.here hx rfl (hb hby d3_82) rfl ((if0 _ _).trans (feq (by decide : ¬ ((1 : Int32) = (0 : Int32)))).1) kk) ?_
  refine GoW.st (S' := T5.setTop (mkF m 86 #[.val (.ref a0), .val (.int (1 : Int32))] [(.int (1 : Int32))])) (fun _ kk => XS.iloadN X5.here hx rfl (hb hby d3_85) rfl kk) ?_
  refine GoW.st (S' := T5.setTop (mkF m 89 #[.val (.ref a0), .val (.int (1 : Int32))] [])) (fun _ kk => XS.ifNo X5.here hx rfl (hb hby d3_86) rfl ((if0 _ _).trans (tlt (by decide : (0 : Int32) < (1 : Int32))).2.2.2) kk) ?_
  refine GoW.st (S' := T5.setTop (mkF m 90 #[.val (.ref a0), .val (.int (1 : Int32))] [(.int (1 : Int32))])) (fun _ kk => XS.iconst X5.here hx rfl (hb hby d3_89) kk) ?_
  refine GoW.st (S' := T5.setTop (mkF m 94 #[.val (.ref a0), .val (.int (1 : Int32))] [(.int (1 : Int32))])) (fun _ kk => XS.goto X5.here hx rfl (pc0 := 90) (pc' := 94) rfl (hb hby d3_90) (by decide) (by decide) kk) ?_
  exact GoW.retN X5 hx hlk hS (own_hk e5 hk) (t := .boolean) Bd.returns (by simp) (hb hby d3_94) (⟨rfl, hn0 ▸ N5, e5⟩) (by decide) (by decide)
def Q_hf5 (Z : State) (r : Int32) (h0 : Heap) (v : Option Value) (h : Heap) (vm : Vm) (L : List Loc) : Prop := v = some (.int r) ∧ Fr h0.size L ∧ Ext h0 h ∧ ∃ (a0 b0 : Addr) (k0 : ClassId) (a1 b1 : Addr) (k1 : ClassId) (a2 b2 : Addr) (k2 : ClassId) (a3 b3 : Addr) (k3 : ClassId) (a4 b4 : Addr) (k4 : ClassId) (a5 b5 : Addr) (k5 : ClassId), LS Z h vm 7 ([61] : List Int32) (1 : Int32) a0 b0 k0 ∧ LS Z h vm 15 ([60, 62] : List Int32) (2 : Int32) a1 b1 k1 ∧ LS Z h vm 17 ([60] : List Int32) (1 : Int32) a2 b2 k2 ∧ LS Z h vm 19 ([60, 61] : List Int32) (2 : Int32) a3 b3 k3 ∧ LS Z h vm 21 ([62] : List Int32) (1 : Int32) a4 b4 k4 ∧ LS Z h vm 23 ([62, 61] : List Int32) (2 : Int32) a5 b5 k5
set_option maxRecDepth 65536 in
set_option maxHeartbeats 4000000 in
theorem rmHf5 (l : Launch) (Z : State) (az : Array Value) (hw : ∀ d ∈ tables_1, d.before az Z = true) (ws : List Jvm.Cond) (a0 : Addr) (p1 : Int32) (zc : Int32) (d0 : Addr) (kd : ClassId) (h0 : Heap) (hC : Jvm.D.constsHeld consts_1 Z) (hcw : Jvm.Lit.compactW.before az Z = true) (nz : Nat) (O_z : Old Z nz h0) (S_C : Sta Z h0 "java/lang/String" "COMPACT_STRINGS" "Z" (.int zc)) (hzc : ¬ zc = 0) (E_a0 : Exa Z h0 a0 "java/lang/String") (FC_a0 : Fld Z h0 a0 "java/lang/String" "coder" "B" (.int 0)) (FV_a0 : Fld Z h0 a0 "java/lang/String" "value" "[B" (.ref d0)) (V_d0 : Arv Z h0 d0 kd .byte (2 : Int32) (([62, 61] : List Int32).map .int) (.int 0)) (hp1 : p1 = (-1 : Int32)) :
    MetFree l (⟨"com/example/winj/winj/storage/ComparisonOrdersPinLaw", "holds", "(Ljava/lang/String;I)Z"⟩ : MethodName) (head1 (Jvm.Cond.code (⟨"com/example/winj/winj/storage/ComparisonOrdersPinLaw", "holds", "(Ljava/lang/String;I)Z"⟩ : MethodName) method_2_code 2 (some .boolean) :: ws) ({ frames := 2, cells := 12, slots := 60, locals := 28 } : Room)) (fun a U => a = #[(.ref a0), (.int p1)] ∧ Z.Warmed39 U.vm ∧ U.heap = h0 ∧ (PV0 Z) U.vm) (fun _ _ _ _ _ => True) (fun _ U o U' => ∃ v L, o = .returned v ∧ (Q_hf5 Z (0 : Int32) h0) v U'.heap U'.vm L ∧ ReturnedEndW U o U' L ({ frames := 2, cells := 12, slots := 60, locals := 28 } : Room).cells ({ frames := 2, cells := 12, slots := 60, locals := 28 } : Room).slots) := by
  refine MetFree.of_bodySF (plainFor_of_name pn_3) hisR ?_
  intro p e s m args below meth c s₁ Bd hml0 hP hK
  obtain ⟨rfl, hZ, hh, I⟩ := hP
  have hx := Bd.exec
  have hby := Bd.bytes
  have hlk : meth.locks = false := Bd.notSynchronized
  have hml : c.maxLocals = 2 := hml0
  have hown : s.vm.findClass "com/example/winj/winj/storage/ComparisonOrdersPinLaw" = some m.cls := findClass_of_methodNamed Bd.named
  have hnm := (name_of_methodNamed Bd.named Bd.method).1
  have X0 : Stand p l e ({ frames := 2, cells := 12, slots := 60, locals := 28 } : Room) s m #[(.ref a0), (.int p1)] below meth c s₁ [] 0 0 := Stand.of_body Bd
  have X0 : Stand p l e ({ frames := 2, cells := 12, slots := 60, locals := 28 } : Room) (s.setVm s.vm) m #[(.ref a0), (.int p1)] below meth c s₁ [] 0 0 := X0
  have e0 : s₁.heap = h0 := by rw [← hh, Bd.state]; rfl
  have hkp : ∀ (b : Addr) (cl : Cell), Z.heap[b]? = some cl → s.heap[b]? = some cl := by rw [hh]; exact own_keepOld O_z
  obtain ⟨n0, hn0⟩ : ∃ n, n = h0.size := ⟨_, rfl⟩
  have Z0 : n0 ≤ h0.size := Nat.le_of_eq hn0
  have hsz : n0 = s.heap.size := by rw [hn0, hh]
  have hS : s.Since s.vm n0 := (State.WarmedH.refl s).since n0
  have hk : n0 ≤ h0.size := Z0
  have N0 := Fr.nil n0
  show GoW p e below s ((Q_hf5 Z (0 : Int32) h0)) ({ frames := 2, cells := 12, slots := 60, locals := 28 } : Room).cells ({ frames := 2, cells := 12, slots := 60, locals := 28 } : Room).slots (s₁.setTop (entryFrame m #[(.ref a0), (.int p1)] 2))
  rw [ef_3 m a0 p1]
  subst hp1
  refine GoW.st (S' := s₁.setTop (mkF m 1 #[.val (.ref a0), .val (.int (-1 : Int32))] [(.ref a0)])) (fun _ kk => XS.aloadN X0.here hx rfl (hb hby d3_0) rfl rfl kk) ?_
  obtain ⟨b1, T1, h1, k1, v1, c1, X1, e1, E1, hS1, hk1, hZ1, ho1, E_b1, FC_b1, FV_b1, V_v1, -, -, I, Li_b1, st1⟩ := ldcSVL (s := s.setVm s.vm) (vm0 := s.vm) X0 hx hZ hown (hw _ (List.mem_of_getElem? (i := 21) rfl)) (own_wS hw) e0 ((State.WarmedH.refl _).since _) (Nat.le_refl _) (own_frm N0 (Nat.le_of_eq hsz.symm)) hkp I (by decide) (hC _ (List.mem_of_getElem? (i := 0) rfl)) hcw (vs := ([61] : List Int32).map .int) (z := (1 : Int32)) ⟨by decide, by decide⟩ (by decide) (by decide) (g := (mkF m 1 #[.val (.ref a0), .val (.int (-1 : Int32))] [(.ref a0)])) rfl (hb hby d3_1) (n := 4) (by decide) (by decide) (by decide : 0 + 2 ≤ _) (by decide : 0 + 8 ≤ _)
  have X1 : Stand p l e _ (s.setVm T1.vm) m _ below meth c T1 _ _ _ := X1
  have Li_b1 : LitV Z T1.vm "com/example/winj/winj/storage/ComparisonOrdersPinLaw" 7 b1 := Li_b1
  have O_z := O_z.ext E1
  have S_C := S_C.ext E1
  have E_a0 := E_a0.ext E1
  have FC_a0 := FC_a0.ext E1
  have FV_a0 := FV_a0.ext E1
  have V_d0 := V_d0.ext E1
  have Zs2 := Nat.le_trans Z0 E1.1
  have hk := Nat.le_trans hk E1.1
  have Kp3 := (Keep.refl h0 []).ext E1
  have hS := hS.trans (own_sinceM hS1 hk1) hk
  have hk := Nat.le_refl h1.size
  have hZ := hZ1
  have hown := ho1
  refine GoW.st (S' := T1.setTop (mkF m 3 #[.val (.ref a0), .val (.int (-1 : Int32))] [(.ref b1), (.ref a0)])) st1 ?_
  obtain ⟨cq4, kq4, q4a, q4b, q4c⟩ := isOf hZ e1 E_a0
  obtain ⟨_, _, ⟨T4, L4, k4, n4⟩, -, X4, ⟨Lc4, hQ4, l4, y4, z4⟩, st4⟩ := X1.virtualBack hx (y := (⟨"java/lang/String", "equals", "(Ljava/lang/Object;)Z"⟩ : MethodName)) (z := (⟨"java/lang/String", "equals", "(Ljava/lang/Object;)Z"⟩ : MethodName)) hown (mvT hZ (hw _ (List.mem_of_getElem? (i := 29) rfl))) (mvT hZ (hw _ (List.mem_of_getElem? (i := 30) rfl))) (notFace_of_selects (args := #[]) (mvT hZ (hw _ (List.mem_of_getElem? (i := 32) rfl)))) (mvT hZ (hw _ (List.mem_of_getElem? (i := 32) rfl))) (mvT hZ (hw _ (List.mem_of_getElem? (i := 31) rfl))) (by decide) (backOf (W := 0) (rmSE l Z az hw [] a0 b1 zc d0 v1 kd c1 (2 : Int32) (1 : Int32) ([62, 61] : List Int32) ([61] : List Int32) h1 n0 Zs2 S_C hzc E_a0 FC_a0 FV_a0 V_d0 (by decide) E_b1 FC_b1 FV_b1 V_v1 (by decide)) hZ (hw _ (List.mem_of_getElem? (i := 33) rfl)) (hw _ (List.mem_of_getElem? (i := 22) rfl)) (by decide) (by decide)) q4a q4c (g := (mkF m 3 #[.val (.ref a0), .val (.int (-1 : Int32))] [(.ref b1), (.ref a0)])) rfl (by rw [hml]; rfl) (Steps.refl _) (argsL := [(.ref b1)]) (rest := []) (lenOf pd_3 rfl) rfl (by show 2 * 0 + _ ≤ _; exact Nat.le_of_eq rfl) (hb hby d3_3) (fun _ _ => ⟨rfl, e1, (by decide : 2 + 0 ≤ _), (by decide : 8 + 0 ≤ _)⟩)
  dsimp only [Pt.U, Pt.locs, Pt.cells, Pt.slots] at X4 l4 y4 z4 st4 hQ4
  subst l4 y4 z4
  obtain ⟨hv4, N4q, e4⟩ := hQ4
  rw [show own_eqI ([62, 61] : List Int32) ([61] : List Int32) = (0 : Int32) from by decide] at hv4
  subst hv4
  have N4 := Fr.app N0 N4q
  refine GoW.tr (S' := T4.setTop (mkF m 6 #[.val (.ref a0), .val (.int (-1 : Int32))] [(.int (0 : Int32))])) st4 ?_
  refine GoW.st (S' := T4.setTop (mkF m 19 #[.val (.ref a0), .val (.int (-1 : Int32))] [])) (fun _ kk => XS.ifYes X4.here hx rfl (pc0 := 6) (pc' := 19) rfl (hb hby d3_6) rfl ((if0 _ _).trans (teq (by decide : (0 : Int32) = (0 : Int32))).1) (by decide) (by decide) kk) ?_
  refine GoW.st (S' := T4.setTop (mkF m 20 #[.val (.ref a0), .val (.int (-1 : Int32))] [(.ref a0)])) (fun _ kk => XS.aloadN X4.here hx rfl (hb hby d3_19) rfl rfl kk) ?_
  obtain ⟨b5, T5, h5, k5, v5, c5, X5, e5, E5, hS5, hk5, hZ5, ho5, E_b5, FC_b5, FV_b5, V_v5, -, -, I, Li_b5, st5⟩ := ldcSVL (s := s.setVm T1.vm) (vm0 := T1.vm) X4 hx hZ hown (hw _ (List.mem_of_getElem? (i := 47) rfl)) (own_wS hw) e4 ((State.WarmedH.refl _).since _) (Nat.le_refl _) (own_frm N4 (Nat.le_of_eq hsz.symm)) hkp I (by decide) (hC _ (List.mem_of_getElem? (i := 1) rfl)) hcw (vs := ([60, 62] : List Int32).map .int) (z := (2 : Int32)) ⟨by decide, by decide⟩ (by decide) (by decide) (g := (mkF m 20 #[.val (.ref a0), .val (.int (-1 : Int32))] [(.ref a0)])) rfl (hb hby d3_20) (n := 8) (by decide) (by decide) (by decide : 2 + 2 ≤ _) (by decide : 8 + 12 ≤ _)
  have X5 : Stand p l e _ (s.setVm T5.vm) m _ below meth c T5 _ _ _ := X5
  have Li_b1 := LitV.stays (s := s) Li_b1 hS5.1
  have Li_b5 : LitV Z T5.vm "com/example/winj/winj/storage/ComparisonOrdersPinLaw" 15 b5 := Li_b5
  have O_z := O_z.ext E5
  have S_C := S_C.ext E5
  have E_a0 := E_a0.ext E5
  have FC_a0 := FC_a0.ext E5
  have FV_a0 := FV_a0.ext E5
  have V_d0 := V_d0.ext E5
  have E_b1 := E_b1.ext E5
  have FC_b1 := FC_b1.ext E5
  have FV_b1 := FV_b1.ext E5
  have V_v1 := V_v1.ext E5
  have Zs6 := Nat.le_trans Zs2 E5.1
  have hk := Nat.le_trans hk E5.1
  have Kp7 := Kp3.ext E5
  have hS := hS.trans (own_sinceM hS5 hk5) hk
  have hk := Nat.le_refl h5.size
  have hZ := hZ5
  have hown := ho5
  refine GoW.st (S' := T5.setTop (mkF m 22 #[.val (.ref a0), .val (.int (-1 : Int32))] [(.ref b5), (.ref a0)])) st5 ?_
  obtain ⟨cq8, kq8, q8a, q8b, q8c⟩ := isOf hZ e5 E_a0
  obtain ⟨_, _, ⟨T8, L8, k8, n8⟩, -, X8, ⟨Lc8, hQ8, l8, y8, z8⟩, st8⟩ := X5.virtualBack hx (y := (⟨"java/lang/String", "equals", "(Ljava/lang/Object;)Z"⟩ : MethodName)) (z := (⟨"java/lang/String", "equals", "(Ljava/lang/Object;)Z"⟩ : MethodName)) hown (mvT hZ (hw _ (List.mem_of_getElem? (i := 29) rfl))) (mvT hZ (hw _ (List.mem_of_getElem? (i := 30) rfl))) (notFace_of_selects (args := #[]) (mvT hZ (hw _ (List.mem_of_getElem? (i := 32) rfl)))) (mvT hZ (hw _ (List.mem_of_getElem? (i := 32) rfl))) (mvT hZ (hw _ (List.mem_of_getElem? (i := 31) rfl))) (by decide) (backOf (W := 0) (rmSE l Z az hw [] a0 b5 zc d0 v5 kd c5 (2 : Int32) (2 : Int32) ([62, 61] : List Int32) ([60, 62] : List Int32) h5 n0 Zs6 S_C hzc E_a0 FC_a0 FV_a0 V_d0 (by decide) E_b5 FC_b5 FV_b5 V_v5 (by decide)) hZ (hw _ (List.mem_of_getElem? (i := 33) rfl)) (hw _ (List.mem_of_getElem? (i := 22) rfl)) (by decide) (by decide)) q8a q8c (g := (mkF m 22 #[.val (.ref a0), .val (.int (-1 : Int32))] [(.ref b5), (.ref a0)])) rfl (by rw [hml]; rfl) (Steps.refl _) (argsL := [(.ref b5)]) (rest := []) (lenOf pd_3 rfl) rfl (by show 2 * 0 + _ ≤ _; exact Nat.le_of_eq rfl) (hb hby d3_22) (fun _ _ => ⟨rfl, e5, (by decide : 4 + 0 ≤ _), (by decide : 20 + 0 ≤ _)⟩)
  dsimp only [Pt.U, Pt.locs, Pt.cells, Pt.slots] at X8 l8 y8 z8 st8 hQ8
  subst l8 y8 z8
  obtain ⟨hv8, N8q, e8⟩ := hQ8
  rw [show own_eqI ([62, 61] : List Int32) ([60, 62] : List Int32) = (0 : Int32) from by decide] at hv8
  subst hv8
  have N8 := Fr.app N4 N8q
  refine GoW.tr (S' := T8.setTop (mkF m 25 #[.val (.ref a0), .val (.int (-1 : Int32))] [(.int (0 : Int32))])) st8 ?_
  refine GoW.st (S' := T8.setTop (mkF m 38 #[.val (.ref a0), .val (.int (-1 : Int32))] [])) (fun _ kk => XS.ifYes X8.here hx rfl (pc0 := 25) (pc' := 38) rfl (hb hby d3_25) rfl ((if0 _ _).trans (teq (by decide : (0 : Int32) = (0 : Int32))).1) (by decide) (by decide) kk) ?_
  refine GoW.st (S' := T8.setTop (mkF m 39 #[.val (.ref a0), .val (.int (-1 : Int32))] [(.ref a0)])) (fun _ kk => XS.aloadN X8.here hx rfl (hb hby d3_38) rfl rfl kk) ?_
  obtain ⟨b9, T9, h9, k9, v9, c9, X9, e9, E9, hS9, hk9, hZ9, ho9, E_b9, FC_b9, FV_b9, V_v9, -, -, I, Li_b9, st9⟩ := ldcSVL (s := s.setVm T5.vm) (vm0 := T5.vm) X8 hx hZ hown (hw _ (List.mem_of_getElem? (i := 48) rfl)) (own_wS hw) e8 ((State.WarmedH.refl _).since _) (Nat.le_refl _) (own_frm N8 (Nat.le_of_eq hsz.symm)) hkp I (by decide) (hC _ (List.mem_of_getElem? (i := 2) rfl)) hcw (vs := ([60] : List Int32).map .int) (z := (1 : Int32)) ⟨by decide, by decide⟩ (by decide) (by decide) (g := (mkF m 39 #[.val (.ref a0), .val (.int (-1 : Int32))] [(.ref a0)])) rfl (hb hby d3_39) (n := 4) (by decide) (by decide) (by decide : 4 + 2 ≤ _) (by decide : 20 + 8 ≤ _)
  have X9 : Stand p l e _ (s.setVm T9.vm) m _ below meth c T9 _ _ _ := X9
  have Li_b1 := LitV.stays (s := s) Li_b1 hS9.1
  have Li_b5 := LitV.stays (s := s) Li_b5 hS9.1
  have Li_b9 : LitV Z T9.vm "com/example/winj/winj/storage/ComparisonOrdersPinLaw" 17 b9 := Li_b9
  have O_z := O_z.ext E9
  have S_C := S_C.ext E9
  have E_a0 := E_a0.ext E9
  have FC_a0 := FC_a0.ext E9
  have FV_a0 := FV_a0.ext E9
  have V_d0 := V_d0.ext E9
  have E_b1 := E_b1.ext E9
  have FC_b1 := FC_b1.ext E9
  have FV_b1 := FV_b1.ext E9
  have V_v1 := V_v1.ext E9
  have E_b5 := E_b5.ext E9
  have FC_b5 := FC_b5.ext E9
  have FV_b5 := FV_b5.ext E9
  have V_v5 := V_v5.ext E9
  have Zs10 := Nat.le_trans Zs6 E9.1
  have hk := Nat.le_trans hk E9.1
  have Kp11 := Kp7.ext E9
  have hS := hS.trans (own_sinceM hS9 hk9) hk
  have hk := Nat.le_refl h9.size
  have hZ := hZ9
  have hown := ho9
  refine GoW.st (S' := T9.setTop (mkF m 41 #[.val (.ref a0), .val (.int (-1 : Int32))] [(.ref b9), (.ref a0)])) st9 ?_
  obtain ⟨cq12, kq12, q12a, q12b, q12c⟩ := isOf hZ e9 E_a0
  obtain ⟨_, _, ⟨T12, L12, k12, n12⟩, -, X12, ⟨Lc12, hQ12, l12, y12, z12⟩, st12⟩ := X9.virtualBack hx (y := (⟨"java/lang/String", "equals", "(Ljava/lang/Object;)Z"⟩ : MethodName)) (z := (⟨"java/lang/String", "equals", "(Ljava/lang/Object;)Z"⟩ : MethodName)) hown (mvT hZ (hw _ (List.mem_of_getElem? (i := 29) rfl))) (mvT hZ (hw _ (List.mem_of_getElem? (i := 30) rfl))) (notFace_of_selects (args := #[]) (mvT hZ (hw _ (List.mem_of_getElem? (i := 32) rfl)))) (mvT hZ (hw _ (List.mem_of_getElem? (i := 32) rfl))) (mvT hZ (hw _ (List.mem_of_getElem? (i := 31) rfl))) (by decide) (backOf (W := 0) (rmSE l Z az hw [] a0 b9 zc d0 v9 kd c9 (2 : Int32) (1 : Int32) ([62, 61] : List Int32) ([60] : List Int32) h9 n0 Zs10 S_C hzc E_a0 FC_a0 FV_a0 V_d0 (by decide) E_b9 FC_b9 FV_b9 V_v9 (by decide)) hZ (hw _ (List.mem_of_getElem? (i := 33) rfl)) (hw _ (List.mem_of_getElem? (i := 22) rfl)) (by decide) (by decide)) q12a q12c (g := (mkF m 41 #[.val (.ref a0), .val (.int (-1 : Int32))] [(.ref b9), (.ref a0)])) rfl (by rw [hml]; rfl) (Steps.refl _) (argsL := [(.ref b9)]) (rest := []) (lenOf pd_3 rfl) rfl (by show 2 * 0 + _ ≤ _; exact Nat.le_of_eq rfl) (hb hby d3_41) (fun _ _ => ⟨rfl, e9, (by decide : 6 + 0 ≤ _), (by decide : 28 + 0 ≤ _)⟩)
  dsimp only [Pt.U, Pt.locs, Pt.cells, Pt.slots] at X12 l12 y12 z12 st12 hQ12
  subst l12 y12 z12
  obtain ⟨hv12, N12q, e12⟩ := hQ12
  rw [show own_eqI ([62, 61] : List Int32) ([60] : List Int32) = (0 : Int32) from by decide] at hv12
  subst hv12
  have N12 := Fr.app N8 N12q
  refine GoW.tr (S' := T12.setTop (mkF m 44 #[.val (.ref a0), .val (.int (-1 : Int32))] [(.int (0 : Int32))])) st12 ?_
  refine GoW.st (S' := T12.setTop (mkF m 57 #[.val (.ref a0), .val (.int (-1 : Int32))] [])) (fun _ kk => XS.ifYes X12.here hx rfl (pc0 := 44) (pc' := 57) rfl (hb hby d3_44) rfl ((if0 _ _).trans (teq (by decide : (0 : Int32) = (0 : Int32))).1) (by decide) (by decide) kk) ?_
  refine GoW.st (S' := T12.setTop (mkF m 58 #[.val (.ref a0), .val (.int (-1 : Int32))] [(.ref a0)])) (fun _ kk => XS.aloadN X12.here hx rfl (hb hby d3_57) rfl rfl kk) ?_
  obtain ⟨b13, T13, h13, k13, v13, c13, X13, e13, E13, hS13, hk13, hZ13, ho13, E_b13, FC_b13, FV_b13, V_v13, -, -, I, Li_b13, st13⟩ := ldcSVL (s := s.setVm T9.vm) (vm0 := T9.vm) X12 hx hZ hown (hw _ (List.mem_of_getElem? (i := 49) rfl)) (own_wS hw) e12 ((State.WarmedH.refl _).since _) (Nat.le_refl _) (own_frm N12 (Nat.le_of_eq hsz.symm)) hkp I (by decide) (hC _ (List.mem_of_getElem? (i := 3) rfl)) hcw (vs := ([60, 61] : List Int32).map .int) (z := (2 : Int32)) ⟨by decide, by decide⟩ (by decide) (by decide) (g := (mkF m 58 #[.val (.ref a0), .val (.int (-1 : Int32))] [(.ref a0)])) rfl (hb hby d3_58) (n := 8) (by decide) (by decide) (by decide : 6 + 2 ≤ _) (by decide : 28 + 12 ≤ _)
  have X13 : Stand p l e _ (s.setVm T13.vm) m _ below meth c T13 _ _ _ := X13
  have Li_b1 := LitV.stays (s := s) Li_b1 hS13.1
  have Li_b5 := LitV.stays (s := s) Li_b5 hS13.1
  have Li_b9 := LitV.stays (s := s) Li_b9 hS13.1
  have Li_b13 : LitV Z T13.vm "com/example/winj/winj/storage/ComparisonOrdersPinLaw" 19 b13 := Li_b13
  have O_z := O_z.ext E13
  have S_C := S_C.ext E13
  have E_a0 := E_a0.ext E13
  have FC_a0 := FC_a0.ext E13
  have FV_a0 := FV_a0.ext E13
  have V_d0 := V_d0.ext E13
  have E_b1 := E_b1.ext E13
  have FC_b1 := FC_b1.ext E13
  have FV_b1 := FV_b1.ext E13
  have V_v1 := V_v1.ext E13
  have E_b5 := E_b5.ext E13
  have FC_b5 := FC_b5.ext E13
  have FV_b5 := FV_b5.ext E13
  have V_v5 := V_v5.ext E13
  have E_b9 := E_b9.ext E13
  have FC_b9 := FC_b9.ext E13
  have FV_b9 := FV_b9.ext E13
  have V_v9 := V_v9.ext E13
  have Zs14 := Nat.le_trans Zs10 E13.1
  have hk := Nat.le_trans hk E13.1
  have Kp15 := Kp11.ext E13
  have hS := hS.trans (own_sinceM hS13 hk13) hk
  have hk := Nat.le_refl h13.size
  have hZ := hZ13
  have hown := ho13
  refine GoW.st (S' := T13.setTop (mkF m 60 #[.val (.ref a0), .val (.int (-1 : Int32))] [(.ref b13), (.ref a0)])) st13 ?_
  obtain ⟨cq16, kq16, q16a, q16b, q16c⟩ := isOf hZ e13 E_a0
  obtain ⟨_, _, ⟨T16, L16, k16, n16⟩, -, X16, ⟨Lc16, hQ16, l16, y16, z16⟩, st16⟩ := X13.virtualBack hx (y := (⟨"java/lang/String", "equals", "(Ljava/lang/Object;)Z"⟩ : MethodName)) (z := (⟨"java/lang/String", "equals", "(Ljava/lang/Object;)Z"⟩ : MethodName)) hown (mvT hZ (hw _ (List.mem_of_getElem? (i := 29) rfl))) (mvT hZ (hw _ (List.mem_of_getElem? (i := 30) rfl))) (notFace_of_selects (args := #[]) (mvT hZ (hw _ (List.mem_of_getElem? (i := 32) rfl)))) (mvT hZ (hw _ (List.mem_of_getElem? (i := 32) rfl))) (mvT hZ (hw _ (List.mem_of_getElem? (i := 31) rfl))) (by decide) (backOf (W := 0) (rmSE l Z az hw [] a0 b13 zc d0 v13 kd c13 (2 : Int32) (2 : Int32) ([62, 61] : List Int32) ([60, 61] : List Int32) h13 n0 Zs14 S_C hzc E_a0 FC_a0 FV_a0 V_d0 (by decide) E_b13 FC_b13 FV_b13 V_v13 (by decide)) hZ (hw _ (List.mem_of_getElem? (i := 33) rfl)) (hw _ (List.mem_of_getElem? (i := 22) rfl)) (by decide) (by decide)) q16a q16c (g := (mkF m 60 #[.val (.ref a0), .val (.int (-1 : Int32))] [(.ref b13), (.ref a0)])) rfl (by rw [hml]; rfl) (Steps.refl _) (argsL := [(.ref b13)]) (rest := []) (lenOf pd_3 rfl) rfl (by show 2 * 0 + _ ≤ _; exact Nat.le_of_eq rfl) (hb hby d3_60) (fun _ _ => ⟨rfl, e13, (by decide : 8 + 0 ≤ _), (by decide : 40 + 0 ≤ _)⟩)
  dsimp only [Pt.U, Pt.locs, Pt.cells, Pt.slots] at X16 l16 y16 z16 st16 hQ16
  subst l16 y16 z16
  obtain ⟨hv16, N16q, e16⟩ := hQ16
  rw [show own_eqI ([62, 61] : List Int32) ([60, 61] : List Int32) = (0 : Int32) from by decide] at hv16
  subst hv16
  have N16 := Fr.app N12 N16q
  refine GoW.tr (S' := T16.setTop (mkF m 63 #[.val (.ref a0), .val (.int (-1 : Int32))] [(.int (0 : Int32))])) st16 ?_
  refine GoW.st (S' := T16.setTop (mkF m 76 #[.val (.ref a0), .val (.int (-1 : Int32))] [])) (fun _ kk => XS.ifYes X16.here hx rfl (pc0 := 63) (pc' := 76) rfl (hb hby d3_63) rfl ((if0 _ _).trans (teq (by decide : (0 : Int32) = (0 : Int32))).1) (by decide) (by decide) kk) ?_
  refine GoW.st (S' := T16.setTop (mkF m 77 #[.val (.ref a0), .val (.int (-1 : Int32))] [(.ref a0)])) (fun _ kk => XS.aloadN X16.here hx rfl (hb hby d3_76) rfl rfl kk) ?_
  obtain ⟨b17, T17, h17, k17, v17, c17, X17, e17, E17, hS17, hk17, hZ17, ho17, E_b17, FC_b17, FV_b17, V_v17, -, -, I, Li_b17, st17⟩ := ldcSVL (s := s.setVm T13.vm) (vm0 := T13.vm) X16 hx hZ hown (hw _ (List.mem_of_getElem? (i := 55) rfl)) (own_wS hw) e16 ((State.WarmedH.refl _).since _) (Nat.le_refl _) (own_frm N16 (Nat.le_of_eq hsz.symm)) hkp I (by decide) (hC _ (List.mem_of_getElem? (i := 4) rfl)) hcw (vs := ([62] : List Int32).map .int) (z := (1 : Int32)) ⟨by decide, by decide⟩ (by decide) (by decide) (g := (mkF m 77 #[.val (.ref a0), .val (.int (-1 : Int32))] [(.ref a0)])) rfl (hb hby d3_77) (n := 4) (by decide) (by decide) (by decide : 8 + 2 ≤ _) (by decide : 40 + 8 ≤ _)
  have X17 : Stand p l e _ (s.setVm T17.vm) m _ below meth c T17 _ _ _ := X17
  have Li_b1 := LitV.stays (s := s) Li_b1 hS17.1
  have Li_b5 := LitV.stays (s := s) Li_b5 hS17.1
  have Li_b9 := LitV.stays (s := s) Li_b9 hS17.1
  have Li_b13 := LitV.stays (s := s) Li_b13 hS17.1
  have Li_b17 : LitV Z T17.vm "com/example/winj/winj/storage/ComparisonOrdersPinLaw" 21 b17 := Li_b17
  have O_z := O_z.ext E17
  have S_C := S_C.ext E17
  have E_a0 := E_a0.ext E17
  have FC_a0 := FC_a0.ext E17
  have FV_a0 := FV_a0.ext E17
  have V_d0 := V_d0.ext E17
  have E_b1 := E_b1.ext E17
  have FC_b1 := FC_b1.ext E17
  have FV_b1 := FV_b1.ext E17
  have V_v1 := V_v1.ext E17
  have E_b5 := E_b5.ext E17
  have FC_b5 := FC_b5.ext E17
  have FV_b5 := FV_b5.ext E17
  have V_v5 := V_v5.ext E17
  have E_b9 := E_b9.ext E17
  have FC_b9 := FC_b9.ext E17
  have FV_b9 := FV_b9.ext E17
  have V_v9 := V_v9.ext E17
  have E_b13 := E_b13.ext E17
  have FC_b13 := FC_b13.ext E17
  have FV_b13 := FV_b13.ext E17
  have V_v13 := V_v13.ext E17
  have Zs18 := Nat.le_trans Zs14 E17.1
  have hk := Nat.le_trans hk E17.1
  have Kp19 := Kp15.ext E17
  have hS := hS.trans (own_sinceM hS17 hk17) hk
  have hk := Nat.le_refl h17.size
  have hZ := hZ17
  have hown := ho17
  refine GoW.st (S' := T17.setTop (mkF m 79 #[.val (.ref a0), .val (.int (-1 : Int32))] [(.ref b17), (.ref a0)])) st17 ?_
  obtain ⟨cq20, kq20, q20a, q20b, q20c⟩ := isOf hZ e17 E_a0
  obtain ⟨_, _, ⟨T20, L20, k20, n20⟩, -, X20, ⟨Lc20, hQ20, l20, y20, z20⟩, st20⟩ := X17.virtualBack hx (y := (⟨"java/lang/String", "equals", "(Ljava/lang/Object;)Z"⟩ : MethodName)) (z := (⟨"java/lang/String", "equals", "(Ljava/lang/Object;)Z"⟩ : MethodName)) hown (mvT hZ (hw _ (List.mem_of_getElem? (i := 29) rfl))) (mvT hZ (hw _ (List.mem_of_getElem? (i := 30) rfl))) (notFace_of_selects (args := #[]) (mvT hZ (hw _ (List.mem_of_getElem? (i := 32) rfl)))) (mvT hZ (hw _ (List.mem_of_getElem? (i := 32) rfl))) (mvT hZ (hw _ (List.mem_of_getElem? (i := 31) rfl))) (by decide) (backOf (W := 0) (rmSE l Z az hw [] a0 b17 zc d0 v17 kd c17 (2 : Int32) (1 : Int32) ([62, 61] : List Int32) ([62] : List Int32) h17 n0 Zs18 S_C hzc E_a0 FC_a0 FV_a0 V_d0 (by decide) E_b17 FC_b17 FV_b17 V_v17 (by decide)) hZ (hw _ (List.mem_of_getElem? (i := 33) rfl)) (hw _ (List.mem_of_getElem? (i := 22) rfl)) (by decide) (by decide)) q20a q20c (g := (mkF m 79 #[.val (.ref a0), .val (.int (-1 : Int32))] [(.ref b17), (.ref a0)])) rfl (by rw [hml]; rfl) (Steps.refl _) (argsL := [(.ref b17)]) (rest := []) (lenOf pd_3 rfl) rfl (by show 2 * 0 + _ ≤ _; exact Nat.le_of_eq rfl) (hb hby d3_79) (fun _ _ => ⟨rfl, e17, (by decide : 10 + 0 ≤ _), (by decide : 48 + 0 ≤ _)⟩)
  dsimp only [Pt.U, Pt.locs, Pt.cells, Pt.slots] at X20 l20 y20 z20 st20 hQ20
  subst l20 y20 z20
  obtain ⟨hv20, N20q, e20⟩ := hQ20
  rw [show own_eqI ([62, 61] : List Int32) ([62] : List Int32) = (0 : Int32) from by decide] at hv20
  subst hv20
  have N20 := Fr.app N16 N20q
  refine GoW.tr (S' := T20.setTop (mkF m 82 #[.val (.ref a0), .val (.int (-1 : Int32))] [(.int (0 : Int32))])) st20 ?_
  refine GoW.st (S' := T20.setTop (mkF m 95 #[.val (.ref a0), .val (.int (-1 : Int32))] [])) (fun _ kk => XS.ifYes X20.here hx rfl (pc0 := 82) (pc' := 95) rfl (hb hby d3_82) rfl ((if0 _ _).trans (teq (by decide : (0 : Int32) = (0 : Int32))).1) (by decide) (by decide) kk) ?_
  refine GoW.st (S' := T20.setTop (mkF m 96 #[.val (.ref a0), .val (.int (-1 : Int32))] [(.ref a0)])) (fun _ kk => XS.aloadN X20.here hx rfl (hb hby d3_95) rfl rfl kk) ?_
  obtain ⟨b21, T21, h21, k21, v21, c21, X21, e21, E21, hS21, hk21, hZ21, ho21, E_b21, FC_b21, FV_b21, V_v21, -, -, I, Li_b21, st21⟩ := ldcSVL (s := s.setVm T17.vm) (vm0 := T17.vm) X20 hx hZ hown (hw _ (List.mem_of_getElem? (i := 56) rfl)) (own_wS hw) e20 ((State.WarmedH.refl _).since _) (Nat.le_refl _) (own_frm N20 (Nat.le_of_eq hsz.symm)) hkp I (by decide) (hC _ (List.mem_of_getElem? (i := 5) rfl)) hcw (vs := ([62, 61] : List Int32).map .int) (z := (2 : Int32)) ⟨by decide, by decide⟩ (by decide) (by decide) (g := (mkF m 96 #[.val (.ref a0), .val (.int (-1 : Int32))] [(.ref a0)])) rfl (hb hby d3_96) (n := 8) (by decide) (by decide) (by decide : 10 + 2 ≤ _) (by decide : 48 + 12 ≤ _)
  have X21 : Stand p l e _ (s.setVm T21.vm) m _ below meth c T21 _ _ _ := X21
  have Li_b1 := LitV.stays (s := s) Li_b1 hS21.1
  have Li_b5 := LitV.stays (s := s) Li_b5 hS21.1
  have Li_b9 := LitV.stays (s := s) Li_b9 hS21.1
  have Li_b13 := LitV.stays (s := s) Li_b13 hS21.1
  have Li_b17 := LitV.stays (s := s) Li_b17 hS21.1
  have Li_b21 : LitV Z T21.vm "com/example/winj/winj/storage/ComparisonOrdersPinLaw" 23 b21 := Li_b21
  have O_z := O_z.ext E21
  have S_C := S_C.ext E21
  have E_a0 := E_a0.ext E21
  have FC_a0 := FC_a0.ext E21
  have FV_a0 := FV_a0.ext E21
  have V_d0 := V_d0.ext E21
  have E_b1 := E_b1.ext E21
  have FC_b1 := FC_b1.ext E21
  have FV_b1 := FV_b1.ext E21
  have V_v1 := V_v1.ext E21
  have E_b5 := E_b5.ext E21
  have FC_b5 := FC_b5.ext E21
  have FV_b5 := FV_b5.ext E21
  have V_v5 := V_v5.ext E21
  have E_b9 := E_b9.ext E21
  have FC_b9 := FC_b9.ext E21
  have FV_b9 := FV_b9.ext E21
  have V_v9 := V_v9.ext E21
  have E_b13 := E_b13.ext E21
  have FC_b13 := FC_b13.ext E21
  have FV_b13 := FV_b13.ext E21
  have V_v13 := V_v13.ext E21
  have E_b17 := E_b17.ext E21
  have FC_b17 := FC_b17.ext E21
  have FV_b17 := FV_b17.ext E21
  have V_v17 := V_v17.ext E21
  have Zs22 := Nat.le_trans Zs18 E21.1
  have hk := Nat.le_trans hk E21.1
  have Kp23 := Kp19.ext E21
  have hS := hS.trans (own_sinceM hS21 hk21) hk
  have hk := Nat.le_refl h21.size
  have hZ := hZ21
  have hown := ho21
  refine GoW.st (S' := T21.setTop (mkF m 98 #[.val (.ref a0), .val (.int (-1 : Int32))] [(.ref b21), (.ref a0)])) st21 ?_
  obtain ⟨cq24, kq24, q24a, q24b, q24c⟩ := isOf hZ e21 E_a0
  obtain ⟨_, _, ⟨T24, L24, k24, n24⟩, -, X24, ⟨Lc24, hQ24, l24, y24, z24⟩, st24⟩ := X21.virtualBack hx (y := (⟨"java/lang/String", "equals", "(Ljava/lang/Object;)Z"⟩ : MethodName)) (z := (⟨"java/lang/String", "equals", "(Ljava/lang/Object;)Z"⟩ : MethodName)) hown (mvT hZ (hw _ (List.mem_of_getElem? (i := 29) rfl))) (mvT hZ (hw _ (List.mem_of_getElem? (i := 30) rfl))) (notFace_of_selects (args := #[]) (mvT hZ (hw _ (List.mem_of_getElem? (i := 32) rfl)))) (mvT hZ (hw _ (List.mem_of_getElem? (i := 32) rfl))) (mvT hZ (hw _ (List.mem_of_getElem? (i := 31) rfl))) (by decide) (backOf (W := 0) (rmSE l Z az hw [] a0 b21 zc d0 v21 kd c21 (2 : Int32) (2 : Int32) ([62, 61] : List Int32) ([62, 61] : List Int32) h21 n0 Zs22 S_C hzc E_a0 FC_a0 FV_a0 V_d0 (by decide) E_b21 FC_b21 FV_b21 V_v21 (by decide)) hZ (hw _ (List.mem_of_getElem? (i := 33) rfl)) (hw _ (List.mem_of_getElem? (i := 22) rfl)) (by decide) (by decide)) q24a q24c (g := (mkF m 98 #[.val (.ref a0), .val (.int (-1 : Int32))] [(.ref b21), (.ref a0)])) rfl (by rw [hml]; rfl) (Steps.refl _) (argsL := [(.ref b21)]) (rest := []) (lenOf pd_3 rfl) rfl (by show 2 * 0 + _ ≤ _; exact Nat.le_of_eq rfl) (hb hby d3_98) (fun _ _ => ⟨rfl, e21, (by decide : 12 + 0 ≤ _), (by decide : 60 + 0 ≤ _)⟩)
  dsimp only [Pt.U, Pt.locs, Pt.cells, Pt.slots] at X24 l24 y24 z24 st24 hQ24
  subst l24 y24 z24
  obtain ⟨hv24, N24q, e24⟩ := hQ24
  rw [show own_eqI ([62, 61] : List Int32) ([62, 61] : List Int32) = (1 : Int32) from by decide] at hv24
  subst hv24
  have N24 := Fr.app N20 N24q
  refine GoW.tr (S' := T24.setTop (mkF m 101 #[.val (.ref a0), .val (.int (-1 : Int32))] [(.int (1 : Int32))])) st24 ?_
  refine GoW.st (S' := T24.setTop (mkF m 104 #[.val (.ref a0), .val (.int (-1 : Int32))] [])) (fun _ kk => XS.ifNo X24.here hx rfl (hb hby d3_101) rfl ((if0 _ _).trans (feq (by decide : ¬ ((1 : Int32) = (0 : Int32)))).1) kk) ?_
  refine GoW.st (S' := T24.setTop (mkF m 105 #[.val (.ref a0), .val (.int (-1 : Int32))] [(.int (-1 : Int32))])) (fun _ kk => XS.iloadN X24.here hx rfl (hb hby d3_104) rfl kk) ?_
  refine GoW.st (S' := T24.setTop (mkF m 112 #[.val (.ref a0), .val (.int (-1 : Int32))] [])) (fun _ kk => XS.ifYes X24.here hx rfl (pc0 := 105) (pc' := 112) rfl (hb hby d3_105) rfl ((if0 _ _).trans (tlt (by decide : (-1 : Int32) < (0 : Int32))).1) (by decide) (by decide) kk) ?_
  refine GoW.st (S' := T24.setTop (mkF m 113 #[.val (.ref a0), .val (.int (-1 : Int32))] [(.int (0 : Int32))])) (fun _ kk => XS.iconst X24.here hx rfl (hb hby d3_112) kk) ?_
  have Li_b1' := LitV.stays (s := s) Li_b1 X24.warmed.wide
  have Li_b5' := LitV.stays (s := s) Li_b5 X24.warmed.wide
  have Li_b9' := LitV.stays (s := s) Li_b9 X24.warmed.wide
  have Li_b13' := LitV.stays (s := s) Li_b13 X24.warmed.wide
  have Li_b17' := LitV.stays (s := s) Li_b17 X24.warmed.wide
  have Li_b21' := LitV.stays (s := s) Li_b21 X24.warmed.wide
  exact GoW.retN X24 hx hlk hS (own_hk e24 hk) (t := .boolean) Bd.returns (by simp) (hb hby d3_113) (by rw [e24]; exact ⟨rfl, hn0 ▸ N24, own_extk Kp23, b1, v1, c1, b5, v5, c5, b9, v9, c9, b13, v13, c13, b17, v17, c17, b21, v21, c21, ⟨Li_b1', E_b1, FC_b1, FV_b1, V_v1⟩, ⟨Li_b5', E_b5, FC_b5, FV_b5, V_v5⟩, ⟨Li_b9', E_b9, FC_b9, FV_b9, V_v9⟩, ⟨Li_b13', E_b13, FC_b13, FV_b13, V_v13⟩, ⟨Li_b17', E_b17, FC_b17, FV_b17, V_v17⟩, ⟨Li_b21', E_b21, FC_b21, FV_b21, V_v21⟩⟩) (by decide) (by decide)
def PV_a5 (Z : State) (la0 : Addr) (la1 : Addr) (la2 : Addr) (la3 : Addr) (la4 : Addr) (la5 : Addr) (vm : Vm) : Prop := LitV Z vm "com/example/winj/winj/storage/ComparisonOrdersPinLaw" 7 la0 ∧ LitV Z vm "com/example/winj/winj/storage/ComparisonOrdersPinLaw" 15 la1 ∧ LitV Z vm "com/example/winj/winj/storage/ComparisonOrdersPinLaw" 17 la2 ∧ LitV Z vm "com/example/winj/winj/storage/ComparisonOrdersPinLaw" 19 la3 ∧ LitV Z vm "com/example/winj/winj/storage/ComparisonOrdersPinLaw" 21 la4 ∧ LitV Z vm "com/example/winj/winj/storage/ComparisonOrdersPinLaw" 23 la5
set_option maxRecDepth 65536 in
set_option maxHeartbeats 4000000 in
theorem rmHa5 (l : Launch) (Z : State) (az : Array Value) (hw : ∀ d ∈ tables_1, d.before az Z = true) (ws : List Jvm.Cond) (a0 : Addr) (p1 : Int32) (zc : Int32) (d0 : Addr) (kd : ClassId) (la0 lb0 : Addr) (lk0 : ClassId) (la1 lb1 : Addr) (lk1 : ClassId) (la2 lb2 : Addr) (lk2 : ClassId) (la3 lb3 : Addr) (lk3 : ClassId) (la4 lb4 : Addr) (lk4 : ClassId) (la5 lb5 : Addr) (lk5 : ClassId) (h0 : Heap) (hC : Jvm.D.constsHeld consts_1 Z) (hcw : Jvm.Lit.compactW.before az Z = true) (nz : Nat) (O_z : Old Z nz h0) (S_C : Sta Z h0 "java/lang/String" "COMPACT_STRINGS" "Z" (.int zc)) (hzc : ¬ zc = 0) (E_a0 : Exa Z h0 a0 "java/lang/String") (FC_a0 : Fld Z h0 a0 "java/lang/String" "coder" "B" (.int 0)) (FV_a0 : Fld Z h0 a0 "java/lang/String" "value" "[B" (.ref d0)) (V_d0 : Arv Z h0 d0 kd .byte (2 : Int32) (([62, 61] : List Int32).map .int) (.int 0)) (E_la0 : Exa Z h0 la0 "java/lang/String") (FC_la0 : Fld Z h0 la0 "java/lang/String" "coder" "B" (.int 0)) (FV_la0 : Fld Z h0 la0 "java/lang/String" "value" "[B" (.ref lb0)) (V_lb0 : Arv Z h0 lb0 lk0 .byte (1 : Int32) (([61] : List Int32).map .int) (.int 0)) (E_la1 : Exa Z h0 la1 "java/lang/String") (FC_la1 : Fld Z h0 la1 "java/lang/String" "coder" "B" (.int 0)) (FV_la1 : Fld Z h0 la1 "java/lang/String" "value" "[B" (.ref lb1)) (V_lb1 : Arv Z h0 lb1 lk1 .byte (2 : Int32) (([60, 62] : List Int32).map .int) (.int 0)) (E_la2 : Exa Z h0 la2 "java/lang/String") (FC_la2 : Fld Z h0 la2 "java/lang/String" "coder" "B" (.int 0)) (FV_la2 : Fld Z h0 la2 "java/lang/String" "value" "[B" (.ref lb2)) (V_lb2 : Arv Z h0 lb2 lk2 .byte (1 : Int32) (([60] : List Int32).map .int) (.int 0)) (E_la3 : Exa Z h0 la3 "java/lang/String") (FC_la3 : Fld Z h0 la3 "java/lang/String" "coder" "B" (.int 0)) (FV_la3 : Fld Z h0 la3 "java/lang/String" "value" "[B" (.ref lb3)) (V_lb3 : Arv Z h0 lb3 lk3 .byte (2 : Int32) (([60, 61] : List Int32).map .int) (.int 0)) (E_la4 : Exa Z h0 la4 "java/lang/String") (FC_la4 : Fld Z h0 la4 "java/lang/String" "coder" "B" (.int 0)) (FV_la4 : Fld Z h0 la4 "java/lang/String" "value" "[B" (.ref lb4)) (V_lb4 : Arv Z h0 lb4 lk4 .byte (1 : Int32) (([62] : List Int32).map .int) (.int 0)) (E_la5 : Exa Z h0 la5 "java/lang/String") (FC_la5 : Fld Z h0 la5 "java/lang/String" "coder" "B" (.int 0)) (FV_la5 : Fld Z h0 la5 "java/lang/String" "value" "[B" (.ref lb5)) (V_lb5 : Arv Z h0 lb5 lk5 .byte (2 : Int32) (([62, 61] : List Int32).map .int) (.int 0)) (hp1 : p1 = (1 : Int32)) :
    MetFree l (⟨"com/example/winj/winj/storage/ComparisonOrdersPinLaw", "holds", "(Ljava/lang/String;I)Z"⟩ : MethodName) (head1 (Jvm.Cond.code (⟨"com/example/winj/winj/storage/ComparisonOrdersPinLaw", "holds", "(Ljava/lang/String;I)Z"⟩ : MethodName) method_2_code 2 (some .boolean) :: ws) ({ frames := 2, cells := 0, slots := 0, locals := 28 } : Room)) (fun a U => a = #[(.ref a0), (.int p1)] ∧ Z.Warmed39 U.vm ∧ U.heap = h0 ∧ (PV_a5 Z la0 la1 la2 la3 la4 la5) U.vm) (fun _ _ _ _ _ => True) (fun _ U o U' => ∃ v L, o = .returned v ∧ (Q_ha (1 : Int32) h0) v U'.heap U'.vm L ∧ ReturnedEndW U o U' L ({ frames := 2, cells := 0, slots := 0, locals := 28 } : Room).cells ({ frames := 2, cells := 0, slots := 0, locals := 28 } : Room).slots) := by
  refine MetFree.of_bodySF (plainFor_of_name pn_3) hisR ?_
  intro p e s m args below meth c s₁ Bd hml0 hP hK
  obtain ⟨rfl, hZ, hh, Li0, Li1, Li2, Li3, Li4, Li5⟩ := hP
  have hx := Bd.exec
  have hby := Bd.bytes
  have hlk : meth.locks = false := Bd.notSynchronized
  have hml : c.maxLocals = 2 := hml0
  have hown : s.vm.findClass "com/example/winj/winj/storage/ComparisonOrdersPinLaw" = some m.cls := findClass_of_methodNamed Bd.named
  have hnm := (name_of_methodNamed Bd.named Bd.method).1
  have X0 : Stand p l e ({ frames := 2, cells := 0, slots := 0, locals := 28 } : Room) s m #[(.ref a0), (.int p1)] below meth c s₁ [] 0 0 := Stand.of_body Bd
  have X0 : Stand p l e ({ frames := 2, cells := 0, slots := 0, locals := 28 } : Room) (s.setVm s.vm) m #[(.ref a0), (.int p1)] below meth c s₁ [] 0 0 := X0
  have e0 : s₁.heap = h0 := by rw [← hh, Bd.state]; rfl
  have hkp : ∀ (b : Addr) (cl : Cell), Z.heap[b]? = some cl → s.heap[b]? = some cl := by rw [hh]; exact own_keepOld O_z
  obtain ⟨n0, hn0⟩ : ∃ n, n = h0.size := ⟨_, rfl⟩
  have Z0 : n0 ≤ h0.size := Nat.le_of_eq hn0
  have hsz : n0 = s.heap.size := by rw [hn0, hh]
  have hS : s.Since s.vm n0 := (State.WarmedH.refl s).since n0
  have hk : n0 ≤ h0.size := Z0
  have N0 := Fr.nil n0
  show GoW p e below s ((Q_ha (1 : Int32) h0)) ({ frames := 2, cells := 0, slots := 0, locals := 28 } : Room).cells ({ frames := 2, cells := 0, slots := 0, locals := 28 } : Room).slots (s₁.setTop (entryFrame m #[(.ref a0), (.int p1)] 2))
  rw [ef_3 m a0 p1]
  subst hp1
  refine GoW.st (S' := s₁.setTop (mkF m 1 #[.val (.ref a0), .val (.int (1 : Int32))] [(.ref a0)])) (fun _ kk => XS.aloadN X0.here hx rfl (hb hby d3_0) rfl rfl kk) ?_
  refine GoW.st (S' := s₁.setTop (mkF m 3 #[.val (.ref a0), .val (.int (1 : Int32))] [(.ref la0), (.ref a0)])) (fun _ kk => ldcAgain X0 hx hZ hown (hw _ (List.mem_of_getElem? (i := 21) rfl)) Li0 (g := (mkF m 1 #[.val (.ref a0), .val (.int (1 : Int32))] [(.ref a0)])) rfl (hb hby d3_1) _ kk) ?_
  obtain ⟨cq1, kq1, q1a, q1b, q1c⟩ := isOf hZ e0 E_a0
  obtain ⟨_, _, ⟨T1, L1, k1, n1⟩, -, X1, ⟨Lc1, hQ1, l1, y1, z1⟩, st1⟩ := X0.virtualBack hx (y := (⟨"java/lang/String", "equals", "(Ljava/lang/Object;)Z"⟩ : MethodName)) (z := (⟨"java/lang/String", "equals", "(Ljava/lang/Object;)Z"⟩ : MethodName)) hown (mvT hZ (hw _ (List.mem_of_getElem? (i := 29) rfl))) (mvT hZ (hw _ (List.mem_of_getElem? (i := 30) rfl))) (notFace_of_selects (args := #[]) (mvT hZ (hw _ (List.mem_of_getElem? (i := 32) rfl)))) (mvT hZ (hw _ (List.mem_of_getElem? (i := 32) rfl))) (mvT hZ (hw _ (List.mem_of_getElem? (i := 31) rfl))) (by decide) (backOf (W := 0) (rmSE l Z az hw [] a0 la0 zc d0 lb0 kd lk0 (2 : Int32) (1 : Int32) ([62, 61] : List Int32) ([61] : List Int32) h0 n0 Z0 S_C hzc E_a0 FC_a0 FV_a0 V_d0 (by decide) E_la0 FC_la0 FV_la0 V_lb0 (by decide)) hZ (hw _ (List.mem_of_getElem? (i := 33) rfl)) (hw _ (List.mem_of_getElem? (i := 22) rfl)) (by decide) (by decide)) q1a q1c (g := (mkF m 3 #[.val (.ref a0), .val (.int (1 : Int32))] [(.ref la0), (.ref a0)])) rfl (by rw [hml]; rfl) (Steps.refl _) (argsL := [(.ref la0)]) (rest := []) (lenOf pd_3 rfl) rfl (by show 2 * 0 + _ ≤ _; exact Nat.le_of_eq rfl) (hb hby d3_3) (fun _ _ => ⟨rfl, e0, (by decide : 0 + 0 ≤ _), (by decide : 0 + 0 ≤ _)⟩)
  dsimp only [Pt.U, Pt.locs, Pt.cells, Pt.slots] at X1 l1 y1 z1 st1 hQ1
  subst l1 y1 z1
  obtain ⟨hv1, N1q, e1⟩ := hQ1
  rw [show own_eqI ([62, 61] : List Int32) ([61] : List Int32) = (0 : Int32) from by decide] at hv1
  subst hv1
  have N1 := Fr.app N0 N1q
  refine GoW.tr (S' := T1.setTop (mkF m 6 #[.val (.ref a0), .val (.int (1 : Int32))] [(.int (0 : Int32))])) st1 ?_
  refine GoW.st (S' := T1.setTop (mkF m 19 #[.val (.ref a0), .val (.int (1 : Int32))] [])) (fun _ kk => XS.ifYes X1.here hx rfl (pc0 := 6) (pc' := 19) rfl (hb hby d3_6) rfl ((if0 _ _).trans (teq (by decide : (0 : Int32) = (0 : Int32))).1) (by decide) (by decide) kk) ?_
  refine GoW.st (S' := T1.setTop (mkF m 20 #[.val (.ref a0), .val (.int (1 : Int32))] [(.ref a0)])) (fun _ kk => XS.aloadN X1.here hx rfl (hb hby d3_19) rfl rfl kk) ?_
  refine GoW.st (S' := T1.setTop (mkF m 22 #[.val (.ref a0), .val (.int (1 : Int32))] [(.ref la1), (.ref a0)])) (fun _ kk => ldcAgain X1 hx hZ hown (hw _ (List.mem_of_getElem? (i := 47) rfl)) Li1 (g := (mkF m 20 #[.val (.ref a0), .val (.int (1 : Int32))] [(.ref a0)])) rfl (hb hby d3_20) _ kk) ?_
  obtain ⟨cq2, kq2, q2a, q2b, q2c⟩ := isOf hZ e1 E_a0
  obtain ⟨_, _, ⟨T2, L2, k2, n2⟩, -, X2, ⟨Lc2, hQ2, l2, y2, z2⟩, st2⟩ := X1.virtualBack hx (y := (⟨"java/lang/String", "equals", "(Ljava/lang/Object;)Z"⟩ : MethodName)) (z := (⟨"java/lang/String", "equals", "(Ljava/lang/Object;)Z"⟩ : MethodName)) hown (mvT hZ (hw _ (List.mem_of_getElem? (i := 29) rfl))) (mvT hZ (hw _ (List.mem_of_getElem? (i := 30) rfl))) (notFace_of_selects (args := #[]) (mvT hZ (hw _ (List.mem_of_getElem? (i := 32) rfl)))) (mvT hZ (hw _ (List.mem_of_getElem? (i := 32) rfl))) (mvT hZ (hw _ (List.mem_of_getElem? (i := 31) rfl))) (by decide) (backOf (W := 0) (rmSE l Z az hw [] a0 la1 zc d0 lb1 kd lk1 (2 : Int32) (2 : Int32) ([62, 61] : List Int32) ([60, 62] : List Int32) h0 n0 Z0 S_C hzc E_a0 FC_a0 FV_a0 V_d0 (by decide) E_la1 FC_la1 FV_la1 V_lb1 (by decide)) hZ (hw _ (List.mem_of_getElem? (i := 33) rfl)) (hw _ (List.mem_of_getElem? (i := 22) rfl)) (by decide) (by decide)) q2a q2c (g := (mkF m 22 #[.val (.ref a0), .val (.int (1 : Int32))] [(.ref la1), (.ref a0)])) rfl (by rw [hml]; rfl) (Steps.refl _) (argsL := [(.ref la1)]) (rest := []) (lenOf pd_3 rfl) rfl (by show 2 * 0 + _ ≤ _; exact Nat.le_of_eq rfl) (hb hby d3_22) (fun _ _ => ⟨rfl, e1, (by decide : 0 + 0 ≤ _), (by decide : 0 + 0 ≤ _)⟩)
  dsimp only [Pt.U, Pt.locs, Pt.cells, Pt.slots] at X2 l2 y2 z2 st2 hQ2
  subst l2 y2 z2
  obtain ⟨hv2, N2q, e2⟩ := hQ2
  rw [show own_eqI ([62, 61] : List Int32) ([60, 62] : List Int32) = (0 : Int32) from by decide] at hv2
  subst hv2
  have N2 := Fr.app N1 N2q
  refine GoW.tr (S' := T2.setTop (mkF m 25 #[.val (.ref a0), .val (.int (1 : Int32))] [(.int (0 : Int32))])) st2 ?_
  refine GoW.st (S' := T2.setTop (mkF m 38 #[.val (.ref a0), .val (.int (1 : Int32))] [])) (fun _ kk => XS.ifYes X2.here hx rfl (pc0 := 25) (pc' := 38) rfl (hb hby d3_25) rfl ((if0 _ _).trans (teq (by decide : (0 : Int32) = (0 : Int32))).1) (by decide) (by decide) kk) ?_
  refine GoW.st (S' := T2.setTop (mkF m 39 #[.val (.ref a0), .val (.int (1 : Int32))] [(.ref a0)])) (fun _ kk => XS.aloadN X2.here hx rfl (hb hby d3_38) rfl rfl kk) ?_
  refine GoW.st (S' := T2.setTop (mkF m 41 #[.val (.ref a0), .val (.int (1 : Int32))] [(.ref la2), (.ref a0)])) (fun _ kk => ldcAgain X2 hx hZ hown (hw _ (List.mem_of_getElem? (i := 48) rfl)) Li2 (g := (mkF m 39 #[.val (.ref a0), .val (.int (1 : Int32))] [(.ref a0)])) rfl (hb hby d3_39) _ kk) ?_
  obtain ⟨cq3, kq3, q3a, q3b, q3c⟩ := isOf hZ e2 E_a0
  obtain ⟨_, _, ⟨T3, L3, k3, n3⟩, -, X3, ⟨Lc3, hQ3, l3, y3, z3⟩, st3⟩ := X2.virtualBack hx (y := (⟨"java/lang/String", "equals", "(Ljava/lang/Object;)Z"⟩ : MethodName)) (z := (⟨"java/lang/String", "equals", "(Ljava/lang/Object;)Z"⟩ : MethodName)) hown (mvT hZ (hw _ (List.mem_of_getElem? (i := 29) rfl))) (mvT hZ (hw _ (List.mem_of_getElem? (i := 30) rfl))) (notFace_of_selects (args := #[]) (mvT hZ (hw _ (List.mem_of_getElem? (i := 32) rfl)))) (mvT hZ (hw _ (List.mem_of_getElem? (i := 32) rfl))) (mvT hZ (hw _ (List.mem_of_getElem? (i := 31) rfl))) (by decide) (backOf (W := 0) (rmSE l Z az hw [] a0 la2 zc d0 lb2 kd lk2 (2 : Int32) (1 : Int32) ([62, 61] : List Int32) ([60] : List Int32) h0 n0 Z0 S_C hzc E_a0 FC_a0 FV_a0 V_d0 (by decide) E_la2 FC_la2 FV_la2 V_lb2 (by decide)) hZ (hw _ (List.mem_of_getElem? (i := 33) rfl)) (hw _ (List.mem_of_getElem? (i := 22) rfl)) (by decide) (by decide)) q3a q3c (g := (mkF m 41 #[.val (.ref a0), .val (.int (1 : Int32))] [(.ref la2), (.ref a0)])) rfl (by rw [hml]; rfl) (Steps.refl _) (argsL := [(.ref la2)]) (rest := []) (lenOf pd_3 rfl) rfl (by show 2 * 0 + _ ≤ _; exact Nat.le_of_eq rfl) (hb hby d3_41) (fun _ _ => ⟨rfl, e2, (by decide : 0 + 0 ≤ _), (by decide : 0 + 0 ≤ _)⟩)
  dsimp only [Pt.U, Pt.locs, Pt.cells, Pt.slots] at X3 l3 y3 z3 st3 hQ3
  subst l3 y3 z3
  obtain ⟨hv3, N3q, e3⟩ := hQ3
  rw [show own_eqI ([62, 61] : List Int32) ([60] : List Int32) = (0 : Int32) from by decide] at hv3
  subst hv3
  have N3 := Fr.app N2 N3q
  refine GoW.tr (S' := T3.setTop (mkF m 44 #[.val (.ref a0), .val (.int (1 : Int32))] [(.int (0 : Int32))])) st3 ?_
  refine GoW.st (S' := T3.setTop (mkF m 57 #[.val (.ref a0), .val (.int (1 : Int32))] [])) (fun _ kk => XS.ifYes X3.here hx rfl (pc0 := 44) (pc' := 57) rfl (hb hby d3_44) rfl ((if0 _ _).trans (teq (by decide : (0 : Int32) = (0 : Int32))).1) (by decide) (by decide) kk) ?_
  refine GoW.st (S' := T3.setTop (mkF m 58 #[.val (.ref a0), .val (.int (1 : Int32))] [(.ref a0)])) (fun _ kk => XS.aloadN X3.here hx rfl (hb hby d3_57) rfl rfl kk) ?_
  refine GoW.st (S' := T3.setTop (mkF m 60 #[.val (.ref a0), .val (.int (1 : Int32))] [(.ref la3), (.ref a0)])) (fun _ kk => ldcAgain X3 hx hZ hown (hw _ (List.mem_of_getElem? (i := 49) rfl)) Li3 (g := (mkF m 58 #[.val (.ref a0), .val (.int (1 : Int32))] [(.ref a0)])) rfl (hb hby d3_58) _ kk) ?_
  obtain ⟨cq4, kq4, q4a, q4b, q4c⟩ := isOf hZ e3 E_a0
  obtain ⟨_, _, ⟨T4, L4, k4, n4⟩, -, X4, ⟨Lc4, hQ4, l4, y4, z4⟩, st4⟩ := X3.virtualBack hx (y := (⟨"java/lang/String", "equals", "(Ljava/lang/Object;)Z"⟩ : MethodName)) (z := (⟨"java/lang/String", "equals", "(Ljava/lang/Object;)Z"⟩ : MethodName)) hown (mvT hZ (hw _ (List.mem_of_getElem? (i := 29) rfl))) (mvT hZ (hw _ (List.mem_of_getElem? (i := 30) rfl))) (notFace_of_selects (args := #[]) (mvT hZ (hw _ (List.mem_of_getElem? (i := 32) rfl)))) (mvT hZ (hw _ (List.mem_of_getElem? (i := 32) rfl))) (mvT hZ (hw _ (List.mem_of_getElem? (i := 31) rfl))) (by decide) (backOf (W := 0) (rmSE l Z az hw [] a0 la3 zc d0 lb3 kd lk3 (2 : Int32) (2 : Int32) ([62, 61] : List Int32) ([60, 61] : List Int32) h0 n0 Z0 S_C hzc E_a0 FC_a0 FV_a0 V_d0 (by decide) E_la3 FC_la3 FV_la3 V_lb3 (by decide)) hZ (hw _ (List.mem_of_getElem? (i := 33) rfl)) (hw _ (List.mem_of_getElem? (i := 22) rfl)) (by decide) (by decide)) q4a q4c (g := (mkF m 60 #[.val (.ref a0), .val (.int (1 : Int32))] [(.ref la3), (.ref a0)])) rfl (by rw [hml]; rfl) (Steps.refl _) (argsL := [(.ref la3)]) (rest := []) (lenOf pd_3 rfl) rfl (by show 2 * 0 + _ ≤ _; exact Nat.le_of_eq rfl) (hb hby d3_60) (fun _ _ => ⟨rfl, e3, (by decide : 0 + 0 ≤ _), (by decide : 0 + 0 ≤ _)⟩)
  dsimp only [Pt.U, Pt.locs, Pt.cells, Pt.slots] at X4 l4 y4 z4 st4 hQ4
  subst l4 y4 z4
  obtain ⟨hv4, N4q, e4⟩ := hQ4
  rw [show own_eqI ([62, 61] : List Int32) ([60, 61] : List Int32) = (0 : Int32) from by decide] at hv4
  subst hv4
  have N4 := Fr.app N3 N4q
  refine GoW.tr (S' := T4.setTop (mkF m 63 #[.val (.ref a0), .val (.int (1 : Int32))] [(.int (0 : Int32))])) st4 ?_
  refine GoW.st (S' := T4.setTop (mkF m 76 #[.val (.ref a0), .val (.int (1 : Int32))] [])) (fun _ kk => XS.ifYes X4.here hx rfl (pc0 := 63) (pc' := 76) rfl (hb hby d3_63) rfl ((if0 _ _).trans (teq (by decide : (0 : Int32) = (0 : Int32))).1) (by decide) (by decide) kk) ?_
  refine GoW.st (S' := T4.setTop (mkF m 77 #[.val (.ref a0), .val (.int (1 : Int32))] [(.ref a0)])) (fun _ kk => XS.aloadN X4.here hx rfl (hb hby d3_76) rfl rfl kk) ?_
  refine GoW.st (S' := T4.setTop (mkF m 79 #[.val (.ref a0), .val (.int (1 : Int32))] [(.ref la4), (.ref a0)])) (fun _ kk => ldcAgain X4 hx hZ hown (hw _ (List.mem_of_getElem? (i := 55) rfl)) Li4 (g := (mkF m 77 #[.val (.ref a0), .val (.int (1 : Int32))] [(.ref a0)])) rfl (hb hby d3_77) _ kk) ?_
  obtain ⟨cq5, kq5, q5a, q5b, q5c⟩ := isOf hZ e4 E_a0
  obtain ⟨_, _, ⟨T5, L5, k5, n5⟩, -, X5, ⟨Lc5, hQ5, l5, y5, z5⟩, st5⟩ := X4.virtualBack hx (y := (⟨"java/lang/String", "equals", "(Ljava/lang/Object;)Z"⟩ : MethodName)) (z := (⟨"java/lang/String", "equals", "(Ljava/lang/Object;)Z"⟩ : MethodName)) hown (mvT hZ (hw _ (List.mem_of_getElem? (i := 29) rfl))) (mvT hZ (hw _ (List.mem_of_getElem? (i := 30) rfl))) (notFace_of_selects (args := #[]) (mvT hZ (hw _ (List.mem_of_getElem? (i := 32) rfl)))) (mvT hZ (hw _ (List.mem_of_getElem? (i := 32) rfl))) (mvT hZ (hw _ (List.mem_of_getElem? (i := 31) rfl))) (by decide) (backOf (W := 0) (rmSE l Z az hw [] a0 la4 zc d0 lb4 kd lk4 (2 : Int32) (1 : Int32) ([62, 61] : List Int32) ([62] : List Int32) h0 n0 Z0 S_C hzc E_a0 FC_a0 FV_a0 V_d0 (by decide) E_la4 FC_la4 FV_la4 V_lb4 (by decide)) hZ (hw _ (List.mem_of_getElem? (i := 33) rfl)) (hw _ (List.mem_of_getElem? (i := 22) rfl)) (by decide) (by decide)) q5a q5c (g := (mkF m 79 #[.val (.ref a0), .val (.int (1 : Int32))] [(.ref la4), (.ref a0)])) rfl (by rw [hml]; rfl) (Steps.refl _) (argsL := [(.ref la4)]) (rest := []) (lenOf pd_3 rfl) rfl (by show 2 * 0 + _ ≤ _; exact Nat.le_of_eq rfl) (hb hby d3_79) (fun _ _ => ⟨rfl, e4, (by decide : 0 + 0 ≤ _), (by decide : 0 + 0 ≤ _)⟩)
  dsimp only [Pt.U, Pt.locs, Pt.cells, Pt.slots] at X5 l5 y5 z5 st5 hQ5
  subst l5 y5 z5
  obtain ⟨hv5, N5q, e5⟩ := hQ5
  rw [show own_eqI ([62, 61] : List Int32) ([62] : List Int32) = (0 : Int32) from by decide] at hv5
  subst hv5
  have N5 := Fr.app N4 N5q
  refine GoW.tr (S' := T5.setTop (mkF m 82 #[.val (.ref a0), .val (.int (1 : Int32))] [(.int (0 : Int32))])) st5 ?_
  refine GoW.st (S' := T5.setTop (mkF m 95 #[.val (.ref a0), .val (.int (1 : Int32))] [])) (fun _ kk => XS.ifYes X5.here hx rfl (pc0 := 82) (pc' := 95) rfl (hb hby d3_82) rfl ((if0 _ _).trans (teq (by decide : (0 : Int32) = (0 : Int32))).1) (by decide) (by decide) kk) ?_
  refine GoW.st (S' := T5.setTop (mkF m 96 #[.val (.ref a0), .val (.int (1 : Int32))] [(.ref a0)])) (fun _ kk => XS.aloadN X5.here hx rfl (hb hby d3_95) rfl rfl kk) ?_
  refine GoW.st (S' := T5.setTop (mkF m 98 #[.val (.ref a0), .val (.int (1 : Int32))] [(.ref la5), (.ref a0)])) (fun _ kk => ldcAgain X5 hx hZ hown (hw _ (List.mem_of_getElem? (i := 56) rfl)) Li5 (g := (mkF m 96 #[.val (.ref a0), .val (.int (1 : Int32))] [(.ref a0)])) rfl (hb hby d3_96) _ kk) ?_
  obtain ⟨cq6, kq6, q6a, q6b, q6c⟩ := isOf hZ e5 E_a0
  obtain ⟨_, _, ⟨T6, L6, k6, n6⟩, -, X6, ⟨Lc6, hQ6, l6, y6, z6⟩, st6⟩ := X5.virtualBack hx (y := (⟨"java/lang/String", "equals", "(Ljava/lang/Object;)Z"⟩ : MethodName)) (z := (⟨"java/lang/String", "equals", "(Ljava/lang/Object;)Z"⟩ : MethodName)) hown (mvT hZ (hw _ (List.mem_of_getElem? (i := 29) rfl))) (mvT hZ (hw _ (List.mem_of_getElem? (i := 30) rfl))) (notFace_of_selects (args := #[]) (mvT hZ (hw _ (List.mem_of_getElem? (i := 32) rfl)))) (mvT hZ (hw _ (List.mem_of_getElem? (i := 32) rfl))) (mvT hZ (hw _ (List.mem_of_getElem? (i := 31) rfl))) (by decide) (backOf (W := 0) (rmSE l Z az hw [] a0 la5 zc d0 lb5 kd lk5 (2 : Int32) (2 : Int32) ([62, 61] : List Int32) ([62, 61] : List Int32) h0 n0 Z0 S_C hzc E_a0 FC_a0 FV_a0 V_d0 (by decide) E_la5 FC_la5 FV_la5 V_lb5 (by decide)) hZ (hw _ (List.mem_of_getElem? (i := 33) rfl)) (hw _ (List.mem_of_getElem? (i := 22) rfl)) (by decide) (by decide)) q6a q6c (g := (mkF m 98 #[.val (.ref a0), .val (.int (1 : Int32))] [(.ref la5), (.ref a0)])) rfl (by rw [hml]; rfl) (Steps.refl _) (argsL := [(.ref la5)]) (rest := []) (lenOf pd_3 rfl) rfl (by show 2 * 0 + _ ≤ _; exact Nat.le_of_eq rfl) (hb hby d3_98) (fun _ _ => ⟨rfl, e5, (by decide : 0 + 0 ≤ _), (by decide : 0 + 0 ≤ _)⟩)
  dsimp only [Pt.U, Pt.locs, Pt.cells, Pt.slots] at X6 l6 y6 z6 st6 hQ6
  subst l6 y6 z6
  obtain ⟨hv6, N6q, e6⟩ := hQ6
  rw [show own_eqI ([62, 61] : List Int32) ([62, 61] : List Int32) = (1 : Int32) from by decide] at hv6
  subst hv6
  have N6 := Fr.app N5 N6q
  refine GoW.tr (S' := T6.setTop (mkF m 101 #[.val (.ref a0), .val (.int (1 : Int32))] [(.int (1 : Int32))])) st6 ?_
  refine GoW.st (S' := T6.setTop (mkF m 104 #[.val (.ref a0), .val (.int (1 : Int32))] [])) (fun _ kk => XS.ifNo X6.here hx rfl (hb hby d3_101) rfl ((if0 _ _).trans (feq (by decide : ¬ ((1 : Int32) = (0 : Int32)))).1) kk) ?_
  refine GoW.st (S' := T6.setTop (mkF m 105 #[.val (.ref a0), .val (.int (1 : Int32))] [(.int (1 : Int32))])) (fun _ kk => XS.iloadN X6.here hx rfl (hb hby d3_104) rfl kk) ?_
  refine GoW.st (S' := T6.setTop (mkF m 108 #[.val (.ref a0), .val (.int (1 : Int32))] [])) (fun _ kk => XS.ifNo X6.here hx rfl (hb hby d3_105) rfl ((if0 _ _).trans (flt (by decide : ¬ ((1 : Int32) < (0 : Int32)))).1) kk) ?_
  refine GoW.st (S' := T6.setTop (mkF m 109 #[.val (.ref a0), .val (.int (1 : Int32))] [(.int (1 : Int32))])) (fun _ kk => XS.iconst X6.here hx rfl (hb hby d3_108) kk) ?_
  refine GoW.st (S' := T6.setTop (mkF m 113 #[.val (.ref a0), .val (.int (1 : Int32))] [(.int (1 : Int32))])) (fun _ kk => XS.goto X6.here hx rfl (pc0 := 109) (pc' := 113) rfl (hb hby d3_109) (by decide) (by decide) kk) ?_
  exact GoW.retN X6 hx hlk hS (own_hk e6 hk) (t := .boolean) Bd.returns (by simp) (hb hby d3_113) (⟨rfl, hn0 ▸ N6, e6⟩) (by decide) (by decide)
theorem ef_0 (m : MethodId) (p0 : Int32) : entryFrame m #[(.int p0)] maxLocals = mkF m 0 #[.val (.int p0), .unset, .unset, .unset, .unset, .unset, .unset] [] := by first | (simp [entryFrame, mkF, argsToLocals, Value.category, maxLocals]; done) | rfl
set_option maxRecDepth 65536 in
set_option maxHeartbeats 4000000 in
theorem rm0 (l : Launch) (Z : State) (az : Array Value) (hw : ∀ d ∈ tables_1, d.before az Z = true) (ws : List Jvm.Cond) (p0 : Int32) (zc : Int32) (s0 s1 s2 s3 s4 s5 : Addr) (o0 o1 o2 o3 o4 o5 : Addr) (d0 d1 d2 d3 d4 d5 : Addr) (kd0 kd1 kd2 kd3 kd4 kd5 : ClassId) (h0 : Heap) (hC : Jvm.D.constsHeld consts_1 Z) (hcw : Jvm.Lit.compactW.before az Z = true) (nz : Nat) (O_z : Old Z nz h0) (S_C : Sta Z h0 "java/lang/String" "COMPACT_STRINGS" "Z" (.int zc)) (hzc : ¬ zc = 0) (S_EQUAL : Sta Z h0 "com/example/winj/winj/storage/Comparison" "EQUAL" "Lcom/example/winj/winj/storage/Comparison;" (.ref s0)) (E_s0 : Exa Z h0 s0 "com/example/winj/winj/storage/Comparison") (F_s0 : Fld Z h0 s0 "java/lang/Enum" "ordinal" "I" (.int (0 : Int32))) (FO_s0 : Fld Z h0 s0 "com/example/winj/winj/storage/Comparison" "operator" "Ljava/lang/String;" (.ref o0)) (E_o0 : Exa Z h0 o0 "java/lang/String") (FC_o0 : Fld Z h0 o0 "java/lang/String" "coder" "B" (.int 0)) (FV_o0 : Fld Z h0 o0 "java/lang/String" "value" "[B" (.ref d0)) (V_d0 : Arv Z h0 d0 kd0 .byte (1 : Int32) (([61] : List Int32).map .int) (.int 0)) (S_NOT_EQUAL : Sta Z h0 "com/example/winj/winj/storage/Comparison" "NOT_EQUAL" "Lcom/example/winj/winj/storage/Comparison;" (.ref s1)) (E_s1 : Exa Z h0 s1 "com/example/winj/winj/storage/Comparison") (F_s1 : Fld Z h0 s1 "java/lang/Enum" "ordinal" "I" (.int (1 : Int32))) (FO_s1 : Fld Z h0 s1 "com/example/winj/winj/storage/Comparison" "operator" "Ljava/lang/String;" (.ref o1)) (E_o1 : Exa Z h0 o1 "java/lang/String") (FC_o1 : Fld Z h0 o1 "java/lang/String" "coder" "B" (.int 0)) (FV_o1 : Fld Z h0 o1 "java/lang/String" "value" "[B" (.ref d1)) (V_d1 : Arv Z h0 d1 kd1 .byte (2 : Int32) (([60, 62] : List Int32).map .int) (.int 0)) (S_LESS : Sta Z h0 "com/example/winj/winj/storage/Comparison" "LESS" "Lcom/example/winj/winj/storage/Comparison;" (.ref s2)) (E_s2 : Exa Z h0 s2 "com/example/winj/winj/storage/Comparison") (F_s2 : Fld Z h0 s2 "java/lang/Enum" "ordinal" "I" (.int (2 : Int32))) (FO_s2 : Fld Z h0 s2 "com/example/winj/winj/storage/Comparison" "operator" "Ljava/lang/String;" (.ref o2)) (E_o2 : Exa Z h0 o2 "java/lang/String") (FC_o2 : Fld Z h0 o2 "java/lang/String" "coder" "B" (.int 0)) (FV_o2 : Fld Z h0 o2 "java/lang/String" "value" "[B" (.ref d2)) (V_d2 : Arv Z h0 d2 kd2 .byte (1 : Int32) (([60] : List Int32).map .int) (.int 0)) (S_LESS_OR_EQUAL : Sta Z h0 "com/example/winj/winj/storage/Comparison" "LESS_OR_EQUAL" "Lcom/example/winj/winj/storage/Comparison;" (.ref s3)) (E_s3 : Exa Z h0 s3 "com/example/winj/winj/storage/Comparison") (F_s3 : Fld Z h0 s3 "java/lang/Enum" "ordinal" "I" (.int (3 : Int32))) (FO_s3 : Fld Z h0 s3 "com/example/winj/winj/storage/Comparison" "operator" "Ljava/lang/String;" (.ref o3)) (E_o3 : Exa Z h0 o3 "java/lang/String") (FC_o3 : Fld Z h0 o3 "java/lang/String" "coder" "B" (.int 0)) (FV_o3 : Fld Z h0 o3 "java/lang/String" "value" "[B" (.ref d3)) (V_d3 : Arv Z h0 d3 kd3 .byte (2 : Int32) (([60, 61] : List Int32).map .int) (.int 0)) (S_GREATER : Sta Z h0 "com/example/winj/winj/storage/Comparison" "GREATER" "Lcom/example/winj/winj/storage/Comparison;" (.ref s4)) (E_s4 : Exa Z h0 s4 "com/example/winj/winj/storage/Comparison") (F_s4 : Fld Z h0 s4 "java/lang/Enum" "ordinal" "I" (.int (4 : Int32))) (FO_s4 : Fld Z h0 s4 "com/example/winj/winj/storage/Comparison" "operator" "Ljava/lang/String;" (.ref o4)) (E_o4 : Exa Z h0 o4 "java/lang/String") (FC_o4 : Fld Z h0 o4 "java/lang/String" "coder" "B" (.int 0)) (FV_o4 : Fld Z h0 o4 "java/lang/String" "value" "[B" (.ref d4)) (V_d4 : Arv Z h0 d4 kd4 .byte (1 : Int32) (([62] : List Int32).map .int) (.int 0)) (S_GREATER_OR_EQUAL : Sta Z h0 "com/example/winj/winj/storage/Comparison" "GREATER_OR_EQUAL" "Lcom/example/winj/winj/storage/Comparison;" (.ref s5)) (E_s5 : Exa Z h0 s5 "com/example/winj/winj/storage/Comparison") (F_s5 : Fld Z h0 s5 "java/lang/Enum" "ordinal" "I" (.int (5 : Int32))) (FO_s5 : Fld Z h0 s5 "com/example/winj/winj/storage/Comparison" "operator" "Ljava/lang/String;" (.ref o5)) (E_o5 : Exa Z h0 o5 "java/lang/String") (FC_o5 : Fld Z h0 o5 "java/lang/String" "coder" "B" (.int 0)) (FV_o5 : Fld Z h0 o5 "java/lang/String" "value" "[B" (.ref d5)) (V_d5 : Arv Z h0 d5 kd5 .byte (2 : Int32) (([62, 61] : List Int32).map .int) (.int 0)) :
    MetFree l x (head1 (Jvm.Cond.code x code maxLocals ret :: ws) room_1) (fun a U => a = #[(.int p0)] ∧ Z.Warmed39 U.vm ∧ U.heap = h0 ∧ (PV0 Z) U.vm) (fun _ _ _ _ _ => True) (fun _ U o U' => ∃ v L, o = .returned v ∧ (LQW h0.size) v U'.heap U'.vm L ∧ ReturnedEndW U o U' L room_1.cells room_1.slots) := by
  refine MetFree.of_bodySF (plainFor_of_name pn_3) hisR ?_
  intro p e s m args below meth c s₁ Bd hml0 hP hK
  obtain ⟨rfl, hZ, hh, I⟩ := hP
  have hx := Bd.exec
  have hby := Bd.bytes
  have hlk : meth.locks = false := Bd.notSynchronized
  have hml : c.maxLocals = 7 := hml0
  have hown : s.vm.findClass "com/example/winj/winj/storage/ComparisonOrdersPinLaw" = some m.cls := findClass_of_methodNamed Bd.named
  have hnm := (name_of_methodNamed Bd.named Bd.method).1
  have X0 : Stand p l e room_1 s m #[(.int p0)] below meth c s₁ [] 0 0 := Stand.of_body Bd
  have X0 : Stand p l e room_1 (s.setVm s.vm) m #[(.int p0)] below meth c s₁ [] 0 0 := X0
  have e0 : s₁.heap = h0 := by rw [← hh, Bd.state]; rfl
  have hkp : ∀ (b : Addr) (cl : Cell), Z.heap[b]? = some cl → s.heap[b]? = some cl := by rw [hh]; exact own_keepOld O_z
  obtain ⟨n0, hn0⟩ : ∃ n, n = h0.size := ⟨_, rfl⟩
  have Z0 : n0 ≤ h0.size := Nat.le_of_eq hn0
  have hsz : n0 = s.heap.size := by rw [hn0, hh]
  have hS : s.Since s.vm n0 := (State.WarmedH.refl s).since n0
  have hk : n0 ≤ h0.size := Z0
  have N0 := Fr.nil n0
  show GoW p e below s ((LQW h0.size)) room_1.cells room_1.slots (s₁.setTop (entryFrame m #[(.int p0)] maxLocals))
  rw [ef_0 m p0]
  have ne_1_0 : s1 ≠ s0 := Fld.ne F_s1 F_s0 (fun q => absurd (Value.int.inj q) (by decide))
  have ne_2_0 : s2 ≠ s0 := Fld.ne F_s2 F_s0 (fun q => absurd (Value.int.inj q) (by decide))
  have ne_2_1 : s2 ≠ s1 := Fld.ne F_s2 F_s1 (fun q => absurd (Value.int.inj q) (by decide))
  have ne_3_0 : s3 ≠ s0 := Fld.ne F_s3 F_s0 (fun q => absurd (Value.int.inj q) (by decide))
  have ne_3_1 : s3 ≠ s1 := Fld.ne F_s3 F_s1 (fun q => absurd (Value.int.inj q) (by decide))
  have ne_3_2 : s3 ≠ s2 := Fld.ne F_s3 F_s2 (fun q => absurd (Value.int.inj q) (by decide))
  have ne_4_0 : s4 ≠ s0 := Fld.ne F_s4 F_s0 (fun q => absurd (Value.int.inj q) (by decide))
  have ne_4_1 : s4 ≠ s1 := Fld.ne F_s4 F_s1 (fun q => absurd (Value.int.inj q) (by decide))
  have ne_4_2 : s4 ≠ s2 := Fld.ne F_s4 F_s2 (fun q => absurd (Value.int.inj q) (by decide))
  have ne_4_3 : s4 ≠ s3 := Fld.ne F_s4 F_s3 (fun q => absurd (Value.int.inj q) (by decide))
  have ne_5_0 : s5 ≠ s0 := Fld.ne F_s5 F_s0 (fun q => absurd (Value.int.inj q) (by decide))
  have ne_5_1 : s5 ≠ s1 := Fld.ne F_s5 F_s1 (fun q => absurd (Value.int.inj q) (by decide))
  have ne_5_2 : s5 ≠ s2 := Fld.ne F_s5 F_s2 (fun q => absurd (Value.int.inj q) (by decide))
  have ne_5_3 : s5 ≠ s3 := Fld.ne F_s5 F_s3 (fun q => absurd (Value.int.inj q) (by decide))
  have ne_5_4 : s5 ≠ s4 := Fld.ne F_s5 F_s4 (fun q => absurd (Value.int.inj q) (by decide))
  refine GoW.st (S' := s₁.setTop (mkF m 1 #[.val (.int p0), .unset, .unset, .unset, .unset, .unset, .unset] [(.int p0)])) (fun _ kk => XS.iloadN X0.here hx rfl (hb hby at_0) rfl kk) ?_
  refine GoW.st (S' := s₁.setTop (mkF m 3 #[.val (.int p0), .unset, .unset, .unset, .unset, .unset, .unset] [(.int (2147483647 : Int32)), (.int p0)])) (fun _ kk => X0.ldcInt hx hown (mvT hZ (hw _ (List.mem_of_getElem? (i := 0) rfl))) (g := (mkF m 1 #[.val (.int p0), .unset, .unset, .unset, .unset, .unset, .unset] [(.int p0)])) rfl (hb hby at_1) _ kk) ?_
  refine GoW.st (S' := s₁.setTop (mkF m 4 #[.val (.int p0), .unset, .unset, .unset, .unset, .unset, .unset] [(.int (p0 &&& (2147483647 : Int32)))])) (fun _ kk => XS.iand X0.here hx rfl (hb hby at_3) rfl kk) ?_
  refine GoW.st (S' := s₁.setTop (mkF m 6 #[.val (.int p0), .unset, .unset, .unset, .unset, .unset, .unset] [(.int (6 : Int32)), (.int (p0 &&& (2147483647 : Int32)))])) (fun _ kk => XS.bipush X0.here hx rfl (hb hby at_4) kk) ?_
  refine GoW.st (S' := s₁.setTop (mkF m 7 #[.val (.int p0), .unset, .unset, .unset, .unset, .unset, .unset] [(.int ((p0 &&& (2147483647 : Int32)) % (6 : Int32)))])) (fun _ kk => iremM (g := (mkF m 6 #[.val (.int p0), .unset, .unset, .unset, .unset, .unset, .unset] [(.int (6 : Int32)), (.int (p0 &&& (2147483647 : Int32)))])) X0 hx rfl (hb hby at_6) rfl (by decide) kk) ?_
  refine GoW.st (S' := s₁.setTop (mkF m 8 #[.val (.int p0), .val (.int ((p0 &&& (2147483647 : Int32)) % (6 : Int32))), .unset, .unset, .unset, .unset, .unset] [])) (fun _ kk => XS.istoreN X0.here hx rfl (hb hby at_7) rfl (l' := #[.val (.int p0), .val (.int ((p0 &&& (2147483647 : Int32)) % (6 : Int32))), .unset, .unset, .unset, .unset, .unset]) rfl kk) ?_
  refine GoW.st (S' := s₁.setTop (mkF m 9 #[.val (.int p0), .val (.int ((p0 &&& (2147483647 : Int32)) % (6 : Int32))), .unset, .unset, .unset, .unset, .unset] [(.int ((p0 &&& (2147483647 : Int32)) % (6 : Int32)))])) (fun _ kk => XS.iloadN X0.here hx rfl (hb hby at_8) rfl kk) ?_
  by_cases hc1 : ((p0 &&& (2147483647 : Int32)) % (6 : Int32)) = (0 : Int32)
  · refine GoW.st (S' := s₁.setTop (mkF m 12 #[.val (.int p0), .val (.int ((p0 &&& (2147483647 : Int32)) % (6 : Int32))), .unset, .unset, .unset, .unset, .unset] [])) (fun _ kk => XS.ifNo X0.here hx rfl (hb hby at_9) rfl ((if0 _ _).trans (teq hc1).2) kk) ?_
    obtain ⟨T2, X2, e2, st2⟩ := getS2 X0 hx hZ hown (host := "") (Or.inl (hw _ (List.mem_of_getElem? (i := 1) rfl))) Via.refl e0 S_EQUAL (g := (mkF m 12 #[.val (.int p0), .val (.int ((p0 &&& (2147483647 : Int32)) % (6 : Int32))), .unset, .unset, .unset, .unset, .unset] [])) rfl (hb hby at_12)
    refine GoW.st (S' := T2.setTop (mkF m 15 #[.val (.int p0), .val (.int ((p0 &&& (2147483647 : Int32)) % (6 : Int32))), .unset, .unset, .unset, .unset, .unset] [(.ref s0)])) st2 ?_
    refine GoW.st (S' := T2.setTop (mkF m 16 #[.val (.int p0), .val (.int ((p0 &&& (2147483647 : Int32)) % (6 : Int32))), .val (.ref s0), .unset, .unset, .unset, .unset] [])) (fun _ kk => XS.astoreN X2.here hx rfl (hb hby at_15) rfl rfl (l' := #[.val (.int p0), .val (.int ((p0 &&& (2147483647 : Int32)) % (6 : Int32))), .val (.ref s0), .unset, .unset, .unset, .unset]) rfl kk) ?_
    refine GoW.st (S' := T2.setTop (mkF m 17 #[.val (.int p0), .val (.int ((p0 &&& (2147483647 : Int32)) % (6 : Int32))), .val (.ref s0), .unset, .unset, .unset, .unset] [(.int (0 : Int32))])) (fun _ kk => XS.iconst X2.here hx rfl (hb hby at_16) kk) ?_
    refine GoW.st (S' := T2.setTop (mkF m 18 #[.val (.int p0), .val (.int ((p0 &&& (2147483647 : Int32)) % (6 : Int32))), .val (.ref s0), .val (.int (0 : Int32)), .unset, .unset, .unset] [])) (fun _ kk => XS.istoreN X2.here hx rfl (hb hby at_17) rfl (l' := #[.val (.int p0), .val (.int ((p0 &&& (2147483647 : Int32)) % (6 : Int32))), .val (.ref s0), .val (.int (0 : Int32)), .unset, .unset, .unset]) rfl kk) ?_
    refine GoW.st (S' := T2.setTop (mkF m 83 #[.val (.int p0), .val (.int ((p0 &&& (2147483647 : Int32)) % (6 : Int32))), .val (.ref s0), .val (.int (0 : Int32)), .unset, .unset, .unset] [])) (fun _ kk => XS.goto X2.here hx rfl (pc0 := 18) (pc' := 83) rfl (hb hby at_18) (by decide) (by decide) kk) ?_
    refine GoW.st (S' := T2.setTop (mkF m 84 #[.val (.int p0), .val (.int ((p0 &&& (2147483647 : Int32)) % (6 : Int32))), .val (.ref s0), .val (.int (0 : Int32)), .unset, .unset, .unset] [(.ref s0)])) (fun _ kk => XS.aloadN X2.here hx rfl (hb hby at_83) rfl rfl kk) ?_
    obtain ⟨cq3, kq3, q3a, q3b, q3c⟩ := isOf hZ e2 E_s0
    obtain ⟨_, _, ⟨T3, L3, k3, n3⟩, -, X3, ⟨Lc3, hQ3, l3, y3, z3⟩, st3⟩ := X2.virtualBack hx (y := (⟨"com/example/winj/winj/storage/Comparison", "orders", "()Z"⟩ : MethodName)) (z := (⟨"com/example/winj/winj/storage/Comparison", "orders", "()Z"⟩ : MethodName)) hown (mvT hZ (hw _ (List.mem_of_getElem? (i := 4) rfl))) (mvT hZ (hw _ (List.mem_of_getElem? (i := 5) rfl))) (notFace_of_selects (args := #[]) (mvT hZ (hw _ (List.mem_of_getElem? (i := 7) rfl)))) (mvT hZ (hw _ (List.mem_of_getElem? (i := 7) rfl))) (mvT hZ (hw _ (List.mem_of_getElem? (i := 6) rfl))) (by decide) (backOf (W := 0) (rmOr0 l Z az hw [] s0  h0 n0 Z0 S_EQUAL) hZ (hw _ (List.mem_of_getElem? (i := 8) rfl)) (hw _ (List.mem_of_getElem? (i := 2) rfl)) (by decide) (by decide)) q3a q3c (g := (mkF m 84 #[.val (.int p0), .val (.int ((p0 &&& (2147483647 : Int32)) % (6 : Int32))), .val (.ref s0), .val (.int (0 : Int32)), .unset, .unset, .unset] [(.ref s0)])) rfl (by rw [hml]; rfl) (Steps.refl _) (argsL := []) (rest := []) (lenOf pd_0 rfl) rfl (by show 2 * 0 + _ ≤ _; exact Nat.le_of_eq rfl) (hb hby at_84) (fun _ _ => ⟨rfl, e2, (by decide : 0 + 0 ≤ _), (by decide : 0 + 0 ≤ _)⟩)
    dsimp only [Pt.U, Pt.locs, Pt.cells, Pt.slots] at X3 l3 y3 z3 st3 hQ3
    subst l3 y3 z3
    obtain ⟨rfl, N3q, e3⟩ := hQ3
    have N3 := Fr.app N0 N3q
    refine GoW.tr (S' := T3.setTop (mkF m 87 #[.val (.int p0), .val (.int ((p0 &&& (2147483647 : Int32)) % (6 : Int32))), .val (.ref s0), .val (.int (0 : Int32)), .unset, .unset, .unset] [(.int (0 : Int32))])) st3 ?_
    refine GoW.st (S' := T3.setTop (mkF m 89 #[.val (.int p0), .val (.int ((p0 &&& (2147483647 : Int32)) % (6 : Int32))), .val (.ref s0), .val (.int (0 : Int32)), .val (.int (0 : Int32)), .unset, .unset] [])) (fun _ kk => XS.istore X3.here hx rfl (hb hby at_87) rfl (l' := #[.val (.int p0), .val (.int ((p0 &&& (2147483647 : Int32)) % (6 : Int32))), .val (.ref s0), .val (.int (0 : Int32)), .val (.int (0 : Int32)), .unset, .unset]) rfl kk) ?_
    refine GoW.st (S' := T3.setTop (mkF m 90 #[.val (.int p0), .val (.int ((p0 &&& (2147483647 : Int32)) % (6 : Int32))), .val (.ref s0), .val (.int (0 : Int32)), .val (.int (0 : Int32)), .unset, .unset] [(.ref s0)])) (fun _ kk => XS.aloadN X3.here hx rfl (hb hby at_89) rfl rfl kk) ?_
    obtain ⟨cq4, kq4, q4a, q4b, q4c⟩ := isOf hZ e3 E_s0
    obtain ⟨_, _, ⟨T4, L4, k4, n4⟩, -, X4, ⟨Lc4, hQ4, l4, y4, z4⟩, st4⟩ := X3.virtualBack hx (y := (⟨"com/example/winj/winj/storage/Comparison", "operator", "()Ljava/lang/String;"⟩ : MethodName)) (z := (⟨"com/example/winj/winj/storage/Comparison", "operator", "()Ljava/lang/String;"⟩ : MethodName)) hown (mvT hZ (hw _ (List.mem_of_getElem? (i := 10) rfl))) (mvT hZ (hw _ (List.mem_of_getElem? (i := 11) rfl))) (notFace_of_selects (args := #[]) (mvT hZ (hw _ (List.mem_of_getElem? (i := 13) rfl)))) (mvT hZ (hw _ (List.mem_of_getElem? (i := 13) rfl))) (mvT hZ (hw _ (List.mem_of_getElem? (i := 12) rfl))) (by decide) (backOf (W := 0) (rmOp l Z az hw [] s0 o0 h0 n0 Z0 FO_s0) hZ (hw _ (List.mem_of_getElem? (i := 14) rfl)) (hw _ (List.mem_of_getElem? (i := 2) rfl)) (by decide) (by decide)) q4a q4c (g := (mkF m 90 #[.val (.int p0), .val (.int ((p0 &&& (2147483647 : Int32)) % (6 : Int32))), .val (.ref s0), .val (.int (0 : Int32)), .val (.int (0 : Int32)), .unset, .unset] [(.ref s0)])) rfl (by rw [hml]; rfl) (Steps.refl _) (argsL := []) (rest := []) (lenOf pd_1 rfl) rfl (by show 2 * 0 + _ ≤ _; exact Nat.le_of_eq rfl) (hb hby at_90) (fun _ _ => ⟨rfl, e3, (by decide : 0 + 0 ≤ _), (by decide : 0 + 0 ≤ _)⟩)
    dsimp only [Pt.U, Pt.locs, Pt.cells, Pt.slots] at X4 l4 y4 z4 st4 hQ4
    subst l4 y4 z4
    obtain ⟨rfl, N4q, e4⟩ := hQ4
    have N4 := Fr.app N3 N4q
    refine GoW.tr (S' := T4.setTop (mkF m 93 #[.val (.int p0), .val (.int ((p0 &&& (2147483647 : Int32)) % (6 : Int32))), .val (.ref s0), .val (.int (0 : Int32)), .val (.int (0 : Int32)), .unset, .unset] [(.ref o0)])) st4 ?_
    refine GoW.st (S' := T4.setTop (mkF m 95 #[.val (.int p0), .val (.int ((p0 &&& (2147483647 : Int32)) % (6 : Int32))), .val (.ref s0), .val (.int (0 : Int32)), .val (.int (0 : Int32)), .val (.ref o0), .unset] [])) (fun _ kk => XS.astore X4.here hx rfl (hb hby at_93) rfl rfl (l' := #[.val (.int p0), .val (.int ((p0 &&& (2147483647 : Int32)) % (6 : Int32))), .val (.ref s0), .val (.int (0 : Int32)), .val (.int (0 : Int32)), .val (.ref o0), .unset]) rfl kk) ?_
    refine GoW.st (S' := T4.setTop (mkF m 97 #[.val (.int p0), .val (.int ((p0 &&& (2147483647 : Int32)) % (6 : Int32))), .val (.ref s0), .val (.int (0 : Int32)), .val (.int (0 : Int32)), .val (.ref o0), .unset] [(.ref o0)])) (fun _ kk => XS.aload X4.here hx rfl (hb hby at_95) rfl rfl kk) ?_
    refine GoW.st (S' := T4.setTop (mkF m 98 #[.val (.int p0), .val (.int ((p0 &&& (2147483647 : Int32)) % (6 : Int32))), .val (.ref s0), .val (.int (0 : Int32)), .val (.int (0 : Int32)), .val (.ref o0), .unset] [(.int (-1 : Int32)), (.ref o0)])) (fun _ kk => XS.iconst X4.here hx rfl (hb hby at_97) kk) ?_
    obtain ⟨_, _, ⟨T5, L5, k5, n5⟩, -, X5, hS5, hg5, ⟨Lc5, hQ5, l5, y5, z5⟩, st5⟩ := callSS X4 hx (y := (⟨"com/example/winj/winj/storage/ComparisonOrdersPinLaw", "holds", "(Ljava/lang/String;I)Z"⟩ : MethodName)) hown (mvT hZ (hw _ (List.mem_of_getElem? (i := 17) rfl))) (mvT hZ (hw _ (List.mem_of_getElem? (i := 18) rfl))) (mvT hZ (hw _ (List.mem_of_getElem? (i := 19) rfl))) (mvT hZ (hw _ (List.mem_of_getElem? (i := 20) rfl))) (by decide) (own_backS (W := 0) (P := PV0 Z) (rmHf0 l Z az hw [] o0 (-1 : Int32) zc d0 kd0 h0 hC hcw nz O_z S_C hzc E_o0 FC_o0 FV_o0 V_d0 rfl) hZ (hw _ (List.mem_of_getElem? (i := 20) rfl)) (hw _ (List.mem_of_getElem? (i := 19) rfl)) (by decide) (by decide)) (g := (mkF m 98 #[.val (.int p0), .val (.int ((p0 &&& (2147483647 : Int32)) % (6 : Int32))), .val (.ref s0), .val (.int (0 : Int32)), .val (.int (0 : Int32)), .val (.ref o0), .unset] [(.int (-1 : Int32)), (.ref o0)])) rfl (by rw [hml]; rfl) (argsL := [(.ref o0), (.int (-1 : Int32))]) (rest := []) (lenOf pd_2 rfl) rfl (by show 2 * 0 + _ ≤ _; exact Nat.le_of_eq rfl) (hb hby at_98) (fun vmq hvq => ⟨rfl, e4, own_ib I hvq, (by decide : 0 + 2 ≤ _), (by decide : 0 + 8 ≤ _)⟩)
    dsimp only [Pt.U, Pt.locs, Pt.cells, Pt.slots] at X5 l5 y5 z5 st5 hQ5 hS5 hg5
    subst l5 y5 z5
    obtain ⟨X5, hS, hZ, hown⟩ := rebS hS (own_hk e4 hk) X5 hS5 hg5 hZ hown
    obtain ⟨rfl, N5q, Ex5, la0, lb0, lk0, ⟨Li0, El0, Cl0, Vl0, Al0⟩⟩ := hQ5
    have N5 := Fr.app N4 (own_frm N5q Z0)
    have O_z := O_z.ext Ex5
    have S_C := S_C.ext Ex5
    have S_EQUAL := S_EQUAL.ext Ex5
    have E_s0 := E_s0.ext Ex5
    have F_s0 := F_s0.ext Ex5
    have FO_s0 := FO_s0.ext Ex5
    have E_o0 := E_o0.ext Ex5
    have FC_o0 := FC_o0.ext Ex5
    have FV_o0 := FV_o0.ext Ex5
    have V_d0 := V_d0.ext Ex5
    have S_NOT_EQUAL := S_NOT_EQUAL.ext Ex5
    have E_s1 := E_s1.ext Ex5
    have F_s1 := F_s1.ext Ex5
    have FO_s1 := FO_s1.ext Ex5
    have E_o1 := E_o1.ext Ex5
    have FC_o1 := FC_o1.ext Ex5
    have FV_o1 := FV_o1.ext Ex5
    have V_d1 := V_d1.ext Ex5
    have S_LESS := S_LESS.ext Ex5
    have E_s2 := E_s2.ext Ex5
    have F_s2 := F_s2.ext Ex5
    have FO_s2 := FO_s2.ext Ex5
    have E_o2 := E_o2.ext Ex5
    have FC_o2 := FC_o2.ext Ex5
    have FV_o2 := FV_o2.ext Ex5
    have V_d2 := V_d2.ext Ex5
    have S_LESS_OR_EQUAL := S_LESS_OR_EQUAL.ext Ex5
    have E_s3 := E_s3.ext Ex5
    have F_s3 := F_s3.ext Ex5
    have FO_s3 := FO_s3.ext Ex5
    have E_o3 := E_o3.ext Ex5
    have FC_o3 := FC_o3.ext Ex5
    have FV_o3 := FV_o3.ext Ex5
    have V_d3 := V_d3.ext Ex5
    have S_GREATER := S_GREATER.ext Ex5
    have E_s4 := E_s4.ext Ex5
    have F_s4 := F_s4.ext Ex5
    have FO_s4 := FO_s4.ext Ex5
    have E_o4 := E_o4.ext Ex5
    have FC_o4 := FC_o4.ext Ex5
    have FV_o4 := FV_o4.ext Ex5
    have V_d4 := V_d4.ext Ex5
    have S_GREATER_OR_EQUAL := S_GREATER_OR_EQUAL.ext Ex5
    have E_s5 := E_s5.ext Ex5
    have F_s5 := F_s5.ext Ex5
    have FO_s5 := FO_s5.ext Ex5
    have E_o5 := E_o5.ext Ex5
    have FC_o5 := FC_o5.ext Ex5
    have FV_o5 := FV_o5.ext Ex5
    have V_d5 := V_d5.ext Ex5
    have Zs6 := Nat.le_trans Z0 Ex5.1
    have hk := Nat.le_trans hk Ex5.1
    have hk : T5.heap.size ≤ (T5.heap).size := Nat.le_of_eq (congrArg Array.size (show T5.heap = T5.heap from rfl))
    refine GoW.tr (S' := T5.setTop (mkF m 101 #[.val (.int p0), .val (.int ((p0 &&& (2147483647 : Int32)) % (6 : Int32))), .val (.ref s0), .val (.int (0 : Int32)), .val (.int (0 : Int32)), .val (.ref o0), .unset] [(.int (0 : Int32))])) st5 ?_
    refine GoW.st (S' := T5.setTop (mkF m 103 #[.val (.int p0), .val (.int ((p0 &&& (2147483647 : Int32)) % (6 : Int32))), .val (.ref s0), .val (.int (0 : Int32)), .val (.int (0 : Int32)), .val (.ref o0), .unset] [(.ref o0), (.int (0 : Int32))])) (fun _ kk => XS.aload X5.here hx rfl (hb hby at_101) rfl rfl kk) ?_
    refine GoW.st (S' := T5.setTop (mkF m 104 #[.val (.int p0), .val (.int ((p0 &&& (2147483647 : Int32)) % (6 : Int32))), .val (.ref s0), .val (.int (0 : Int32)), .val (.int (0 : Int32)), .val (.ref o0), .unset] [(.int (1 : Int32)), (.ref o0), (.int (0 : Int32))])) (fun _ kk => XS.iconst X5.here hx rfl (hb hby at_103) kk) ?_
    obtain ⟨_, _, ⟨T7, L7, k7, n7⟩, -, X7, hS7, hg7, ⟨Lc7, hQ7, l7, y7, z7⟩, st7⟩ := callSS X5 hx (y := (⟨"com/example/winj/winj/storage/ComparisonOrdersPinLaw", "holds", "(Ljava/lang/String;I)Z"⟩ : MethodName)) hown (mvT hZ (hw _ (List.mem_of_getElem? (i := 17) rfl))) (mvT hZ (hw _ (List.mem_of_getElem? (i := 18) rfl))) (mvT hZ (hw _ (List.mem_of_getElem? (i := 19) rfl))) (mvT hZ (hw _ (List.mem_of_getElem? (i := 20) rfl))) (by decide) (own_backS (W := 1) (P := PV_a0 Z la0) (rmHa0 l Z az hw [] o0 (1 : Int32) zc d0 kd0 la0 lb0 lk0 T5.heap hC hcw nz O_z S_C hzc E_o0 FC_o0 FV_o0 V_d0 El0 Cl0 Vl0 Al0 rfl) hZ (hw _ (List.mem_of_getElem? (i := 20) rfl)) (hw _ (List.mem_of_getElem? (i := 19) rfl)) (by decide) (by decide)) (g := (mkF m 104 #[.val (.int p0), .val (.int ((p0 &&& (2147483647 : Int32)) % (6 : Int32))), .val (.ref s0), .val (.int (0 : Int32)), .val (.int (0 : Int32)), .val (.ref o0), .unset] [(.int (1 : Int32)), (.ref o0), (.int (0 : Int32))])) rfl (by rw [hml]; rfl) (argsL := [(.ref o0), (.int (1 : Int32))]) (rest := [(.int (0 : Int32))]) (lenOf pd_2 rfl) rfl (by show 2 * 0 + _ ≤ _; exact Nat.le_of_eq rfl) (hb hby at_104) (fun vmq hvq => ⟨rfl, rfl, LitV.stays (s := s) Li0 hvq.wide, (by decide : 2 + 0 ≤ _), (by decide : 8 + 0 ≤ _)⟩)
    dsimp only [Pt.U, Pt.locs, Pt.cells, Pt.slots] at X7 l7 y7 z7 st7 hQ7 hS7 hg7
    subst l7 y7 z7
    have Li0 := LitV.stays (s := s) Li0 hS7.1
    obtain ⟨X7, hS, hZ, hown⟩ := rebS hS (own_hk rfl hk) X7 hS7 hg7 hZ hown
    obtain ⟨rfl, N7q, e7⟩ := hQ7
    have N7 := Fr.app N5 (own_frm N7q Zs6)
    have hk : T7.heap.size ≤ (T5.heap).size := Nat.le_of_eq (congrArg Array.size (show T7.heap = T5.heap from e7))
    refine GoW.tr (S' := T7.setTop (mkF m 107 #[.val (.int p0), .val (.int ((p0 &&& (2147483647 : Int32)) % (6 : Int32))), .val (.ref s0), .val (.int (0 : Int32)), .val (.int (0 : Int32)), .val (.ref o0), .unset] [(.int (0 : Int32)), (.int (0 : Int32))])) st7 ?_
    refine GoW.st (S' := T7.setTop (mkF m 114 #[.val (.int p0), .val (.int ((p0 &&& (2147483647 : Int32)) % (6 : Int32))), .val (.ref s0), .val (.int (0 : Int32)), .val (.int (0 : Int32)), .val (.ref o0), .unset] [])) (fun _ kk => XS.icmpYes X7.here hx rfl (pc0 := 107) (pc' := 114) rfl (hb hby at_107) rfl (teq (by decide : (0 : Int32) = (0 : Int32))).1 (by decide) (by decide) kk) ?_
    refine GoW.st (S' := T7.setTop (mkF m 115 #[.val (.int p0), .val (.int ((p0 &&& (2147483647 : Int32)) % (6 : Int32))), .val (.ref s0), .val (.int (0 : Int32)), .val (.int (0 : Int32)), .val (.ref o0), .unset] [(.int (0 : Int32))])) (fun _ kk => XS.iconst X7.here hx rfl (hb hby at_114) kk) ?_
    refine GoW.st (S' := T7.setTop (mkF m 117 #[.val (.int p0), .val (.int ((p0 &&& (2147483647 : Int32)) % (6 : Int32))), .val (.ref s0), .val (.int (0 : Int32)), .val (.int (0 : Int32)), .val (.ref o0), .val (.int (0 : Int32))] [])) (fun _ kk => XS.istore X7.here hx rfl (hb hby at_115) rfl (l' := #[.val (.int p0), .val (.int ((p0 &&& (2147483647 : Int32)) % (6 : Int32))), .val (.ref s0), .val (.int (0 : Int32)), .val (.int (0 : Int32)), .val (.ref o0), .val (.int (0 : Int32))]) rfl kk) ?_
    refine GoW.st (S' := T7.setTop (mkF m 119 #[.val (.int p0), .val (.int ((p0 &&& (2147483647 : Int32)) % (6 : Int32))), .val (.ref s0), .val (.int (0 : Int32)), .val (.int (0 : Int32)), .val (.ref o0), .val (.int (0 : Int32))] [(.int (0 : Int32))])) (fun _ kk => XS.iload X7.here hx rfl (hb hby at_117) rfl kk) ?_
    refine GoW.st (S' := T7.setTop (mkF m 120 #[.val (.int p0), .val (.int ((p0 &&& (2147483647 : Int32)) % (6 : Int32))), .val (.ref s0), .val (.int (0 : Int32)), .val (.int (0 : Int32)), .val (.ref o0), .val (.int (0 : Int32))] [(.int (0 : Int32)), (.int (0 : Int32))])) (fun _ kk => XS.iloadN X7.here hx rfl (hb hby at_119) rfl kk) ?_
    refine GoW.st (S' := T7.setTop (mkF m 123 #[.val (.int p0), .val (.int ((p0 &&& (2147483647 : Int32)) % (6 : Int32))), .val (.ref s0), .val (.int (0 : Int32)), .val (.int (0 : Int32)), .val (.ref o0), .val (.int (0 : Int32))] [])) (fun _ kk => XS.icmpNo X7.here hx rfl (hb hby at_120) rfl (teq (by decide : (0 : Int32) = (0 : Int32))).2 kk) ?_
    refine GoW.st (S' := T7.setTop (mkF m 125 #[.val (.int p0), .val (.int ((p0 &&& (2147483647 : Int32)) % (6 : Int32))), .val (.ref s0), .val (.int (0 : Int32)), .val (.int (0 : Int32)), .val (.ref o0), .val (.int (0 : Int32))] [(.int (0 : Int32))])) (fun _ kk => XS.iload X7.here hx rfl (hb hby at_123) rfl kk) ?_
    refine GoW.st (S' := T7.setTop (mkF m 127 #[.val (.int p0), .val (.int ((p0 &&& (2147483647 : Int32)) % (6 : Int32))), .val (.ref s0), .val (.int (0 : Int32)), .val (.int (0 : Int32)), .val (.ref o0), .val (.int (0 : Int32))] [(.int (0 : Int32)), (.int (0 : Int32))])) (fun _ kk => XS.iload X7.here hx rfl (hb hby at_125) rfl kk) ?_
    refine GoW.st (S' := T7.setTop (mkF m 130 #[.val (.int p0), .val (.int ((p0 &&& (2147483647 : Int32)) % (6 : Int32))), .val (.ref s0), .val (.int (0 : Int32)), .val (.int (0 : Int32)), .val (.ref o0), .val (.int (0 : Int32))] [])) (fun _ kk => XS.icmpNo X7.here hx rfl (hb hby at_127) rfl (teq (by decide : (0 : Int32) = (0 : Int32))).2 kk) ?_
    refine GoW.st (S' := T7.setTop (mkF m 131 #[.val (.int p0), .val (.int ((p0 &&& (2147483647 : Int32)) % (6 : Int32))), .val (.ref s0), .val (.int (0 : Int32)), .val (.int (0 : Int32)), .val (.ref o0), .val (.int (0 : Int32))] [(.int (1 : Int32))])) (fun _ kk => XS.iconst X7.here hx rfl (hb hby at_130) kk) ?_
    refine GoW.st (S' := T7.setTop (mkF m 135 #[.val (.int p0), .val (.int ((p0 &&& (2147483647 : Int32)) % (6 : Int32))), .val (.ref s0), .val (.int (0 : Int32)), .val (.int (0 : Int32)), .val (.ref o0), .val (.int (0 : Int32))] [(.int (1 : Int32))])) (fun _ kk => XS.goto X7.here hx rfl (pc0 := 131) (pc' := 135) rfl (hb hby at_131) (by decide) (by decide) kk) ?_
    exact GoW.retN X7 hx hlk hS (own_hk e7 hk) (t := .boolean) Bd.returns (by simp) (hb hby at_135) (⟨rfl, hn0 ▸ N7⟩) (by decide) (by decide)
  · refine GoW.st (S' := s₁.setTop (mkF m 21 #[.val (.int p0), .val (.int ((p0 &&& (2147483647 : Int32)) % (6 : Int32))), .unset, .unset, .unset, .unset, .unset] [])) (fun _ kk => XS.ifYes X0.here hx rfl (pc0 := 9) (pc' := 21) rfl (hb hby at_9) rfl ((if0 _ _).trans (feq hc1).2) (by decide) (by decide) kk) ?_
    refine GoW.st (S' := s₁.setTop (mkF m 22 #[.val (.int p0), .val (.int ((p0 &&& (2147483647 : Int32)) % (6 : Int32))), .unset, .unset, .unset, .unset, .unset] [(.int ((p0 &&& (2147483647 : Int32)) % (6 : Int32)))])) (fun _ kk => XS.iloadN X0.here hx rfl (hb hby at_21) rfl kk) ?_
    refine GoW.st (S' := s₁.setTop (mkF m 23 #[.val (.int p0), .val (.int ((p0 &&& (2147483647 : Int32)) % (6 : Int32))), .unset, .unset, .unset, .unset, .unset] [(.int (1 : Int32)), (.int ((p0 &&& (2147483647 : Int32)) % (6 : Int32)))])) (fun _ kk => XS.iconst X0.here hx rfl (hb hby at_22) kk) ?_
    by_cases hc8 : ((p0 &&& (2147483647 : Int32)) % (6 : Int32)) = (1 : Int32)
    · refine GoW.st (S' := s₁.setTop (mkF m 26 #[.val (.int p0), .val (.int ((p0 &&& (2147483647 : Int32)) % (6 : Int32))), .unset, .unset, .unset, .unset, .unset] [])) (fun _ kk => XS.icmpNo X0.here hx rfl (hb hby at_23) rfl (teq hc8).2 kk) ?_
      obtain ⟨T9, X9, e9, st9⟩ := getS2 X0 hx hZ hown (host := "") (Or.inl (hw _ (List.mem_of_getElem? (i := 52) rfl))) Via.refl e0 S_NOT_EQUAL (g := (mkF m 26 #[.val (.int p0), .val (.int ((p0 &&& (2147483647 : Int32)) % (6 : Int32))), .unset, .unset, .unset, .unset, .unset] [])) rfl (hb hby at_26)
      refine GoW.st (S' := T9.setTop (mkF m 29 #[.val (.int p0), .val (.int ((p0 &&& (2147483647 : Int32)) % (6 : Int32))), .unset, .unset, .unset, .unset, .unset] [(.ref s1)])) st9 ?_
      refine GoW.st (S' := T9.setTop (mkF m 30 #[.val (.int p0), .val (.int ((p0 &&& (2147483647 : Int32)) % (6 : Int32))), .val (.ref s1), .unset, .unset, .unset, .unset] [])) (fun _ kk => XS.astoreN X9.here hx rfl (hb hby at_29) rfl rfl (l' := #[.val (.int p0), .val (.int ((p0 &&& (2147483647 : Int32)) % (6 : Int32))), .val (.ref s1), .unset, .unset, .unset, .unset]) rfl kk) ?_
      refine GoW.st (S' := T9.setTop (mkF m 31 #[.val (.int p0), .val (.int ((p0 &&& (2147483647 : Int32)) % (6 : Int32))), .val (.ref s1), .unset, .unset, .unset, .unset] [(.int (0 : Int32))])) (fun _ kk => XS.iconst X9.here hx rfl (hb hby at_30) kk) ?_
      refine GoW.st (S' := T9.setTop (mkF m 32 #[.val (.int p0), .val (.int ((p0 &&& (2147483647 : Int32)) % (6 : Int32))), .val (.ref s1), .val (.int (0 : Int32)), .unset, .unset, .unset] [])) (fun _ kk => XS.istoreN X9.here hx rfl (hb hby at_31) rfl (l' := #[.val (.int p0), .val (.int ((p0 &&& (2147483647 : Int32)) % (6 : Int32))), .val (.ref s1), .val (.int (0 : Int32)), .unset, .unset, .unset]) rfl kk) ?_
      refine GoW.st (S' := T9.setTop (mkF m 83 #[.val (.int p0), .val (.int ((p0 &&& (2147483647 : Int32)) % (6 : Int32))), .val (.ref s1), .val (.int (0 : Int32)), .unset, .unset, .unset] [])) (fun _ kk => XS.goto X9.here hx rfl (pc0 := 32) (pc' := 83) rfl (hb hby at_32) (by decide) (by decide) kk) ?_
      refine GoW.st (S' := T9.setTop (mkF m 84 #[.val (.int p0), .val (.int ((p0 &&& (2147483647 : Int32)) % (6 : Int32))), .val (.ref s1), .val (.int (0 : Int32)), .unset, .unset, .unset] [(.ref s1)])) (fun _ kk => XS.aloadN X9.here hx rfl (hb hby at_83) rfl rfl kk) ?_
      obtain ⟨cq10, kq10, q10a, q10b, q10c⟩ := isOf hZ e9 E_s1
      obtain ⟨_, _, ⟨T10, L10, k10, n10⟩, -, X10, ⟨Lc10, hQ10, l10, y10, z10⟩, st10⟩ := X9.virtualBack hx (y := (⟨"com/example/winj/winj/storage/Comparison", "orders", "()Z"⟩ : MethodName)) (z := (⟨"com/example/winj/winj/storage/Comparison", "orders", "()Z"⟩ : MethodName)) hown (mvT hZ (hw _ (List.mem_of_getElem? (i := 4) rfl))) (mvT hZ (hw _ (List.mem_of_getElem? (i := 5) rfl))) (notFace_of_selects (args := #[]) (mvT hZ (hw _ (List.mem_of_getElem? (i := 7) rfl)))) (mvT hZ (hw _ (List.mem_of_getElem? (i := 7) rfl))) (mvT hZ (hw _ (List.mem_of_getElem? (i := 6) rfl))) (by decide) (backOf (W := 0) (rmOr1 l Z az hw [] s1 s0 h0 n0 Z0 S_EQUAL S_NOT_EQUAL ne_1_0) hZ (hw _ (List.mem_of_getElem? (i := 8) rfl)) (hw _ (List.mem_of_getElem? (i := 2) rfl)) (by decide) (by decide)) q10a q10c (g := (mkF m 84 #[.val (.int p0), .val (.int ((p0 &&& (2147483647 : Int32)) % (6 : Int32))), .val (.ref s1), .val (.int (0 : Int32)), .unset, .unset, .unset] [(.ref s1)])) rfl (by rw [hml]; rfl) (Steps.refl _) (argsL := []) (rest := []) (lenOf pd_0 rfl) rfl (by show 2 * 0 + _ ≤ _; exact Nat.le_of_eq rfl) (hb hby at_84) (fun _ _ => ⟨rfl, e9, (by decide : 0 + 0 ≤ _), (by decide : 0 + 0 ≤ _)⟩)
      dsimp only [Pt.U, Pt.locs, Pt.cells, Pt.slots] at X10 l10 y10 z10 st10 hQ10
      subst l10 y10 z10
      obtain ⟨rfl, N10q, e10⟩ := hQ10
      have N10 := Fr.app N0 N10q
      refine GoW.tr (S' := T10.setTop (mkF m 87 #[.val (.int p0), .val (.int ((p0 &&& (2147483647 : Int32)) % (6 : Int32))), .val (.ref s1), .val (.int (0 : Int32)), .unset, .unset, .unset] [(.int (0 : Int32))])) st10 ?_
      refine GoW.st (S' := T10.setTop (mkF m 89 #[.val (.int p0), .val (.int ((p0 &&& (2147483647 : Int32)) % (6 : Int32))), .val (.ref s1), .val (.int (0 : Int32)), .val (.int (0 : Int32)), .unset, .unset] [])) (fun _ kk => XS.istore X10.here hx rfl (hb hby at_87) rfl (l' := #[.val (.int p0), .val (.int ((p0 &&& (2147483647 : Int32)) % (6 : Int32))), .val (.ref s1), .val (.int (0 : Int32)), .val (.int (0 : Int32)), .unset, .unset]) rfl kk) ?_
      refine GoW.st (S' := T10.setTop (mkF m 90 #[.val (.int p0), .val (.int ((p0 &&& (2147483647 : Int32)) % (6 : Int32))), .val (.ref s1), .val (.int (0 : Int32)), .val (.int (0 : Int32)), .unset, .unset] [(.ref s1)])) (fun _ kk => XS.aloadN X10.here hx rfl (hb hby at_89) rfl rfl kk) ?_
      obtain ⟨cq11, kq11, q11a, q11b, q11c⟩ := isOf hZ e10 E_s1
      obtain ⟨_, _, ⟨T11, L11, k11, n11⟩, -, X11, ⟨Lc11, hQ11, l11, y11, z11⟩, st11⟩ := X10.virtualBack hx (y := (⟨"com/example/winj/winj/storage/Comparison", "operator", "()Ljava/lang/String;"⟩ : MethodName)) (z := (⟨"com/example/winj/winj/storage/Comparison", "operator", "()Ljava/lang/String;"⟩ : MethodName)) hown (mvT hZ (hw _ (List.mem_of_getElem? (i := 10) rfl))) (mvT hZ (hw _ (List.mem_of_getElem? (i := 11) rfl))) (notFace_of_selects (args := #[]) (mvT hZ (hw _ (List.mem_of_getElem? (i := 13) rfl)))) (mvT hZ (hw _ (List.mem_of_getElem? (i := 13) rfl))) (mvT hZ (hw _ (List.mem_of_getElem? (i := 12) rfl))) (by decide) (backOf (W := 0) (rmOp l Z az hw [] s1 o1 h0 n0 Z0 FO_s1) hZ (hw _ (List.mem_of_getElem? (i := 14) rfl)) (hw _ (List.mem_of_getElem? (i := 2) rfl)) (by decide) (by decide)) q11a q11c (g := (mkF m 90 #[.val (.int p0), .val (.int ((p0 &&& (2147483647 : Int32)) % (6 : Int32))), .val (.ref s1), .val (.int (0 : Int32)), .val (.int (0 : Int32)), .unset, .unset] [(.ref s1)])) rfl (by rw [hml]; rfl) (Steps.refl _) (argsL := []) (rest := []) (lenOf pd_1 rfl) rfl (by show 2 * 0 + _ ≤ _; exact Nat.le_of_eq rfl) (hb hby at_90) (fun _ _ => ⟨rfl, e10, (by decide : 0 + 0 ≤ _), (by decide : 0 + 0 ≤ _)⟩)
      dsimp only [Pt.U, Pt.locs, Pt.cells, Pt.slots] at X11 l11 y11 z11 st11 hQ11
      subst l11 y11 z11
      obtain ⟨rfl, N11q, e11⟩ := hQ11
      have N11 := Fr.app N10 N11q
      refine GoW.tr (S' := T11.setTop (mkF m 93 #[.val (.int p0), .val (.int ((p0 &&& (2147483647 : Int32)) % (6 : Int32))), .val (.ref s1), .val (.int (0 : Int32)), .val (.int (0 : Int32)), .unset, .unset] [(.ref o1)])) st11 ?_
      refine GoW.st (S' := T11.setTop (mkF m 95 #[.val (.int p0), .val (.int ((p0 &&& (2147483647 : Int32)) % (6 : Int32))), .val (.ref s1), .val (.int (0 : Int32)), .val (.int (0 : Int32)), .val (.ref o1), .unset] [])) (fun _ kk => XS.astore X11.here hx rfl (hb hby at_93) rfl rfl (l' := #[.val (.int p0), .val (.int ((p0 &&& (2147483647 : Int32)) % (6 : Int32))), .val (.ref s1), .val (.int (0 : Int32)), .val (.int (0 : Int32)), .val (.ref o1), .unset]) rfl kk) ?_
      refine GoW.st (S' := T11.setTop (mkF m 97 #[.val (.int p0), .val (.int ((p0 &&& (2147483647 : Int32)) % (6 : Int32))), .val (.ref s1), .val (.int (0 : Int32)), .val (.int (0 : Int32)), .val (.ref o1), .unset] [(.ref o1)])) (fun _ kk => XS.aload X11.here hx rfl (hb hby at_95) rfl rfl kk) ?_
      refine GoW.st (S' := T11.setTop (mkF m 98 #[.val (.int p0), .val (.int ((p0 &&& (2147483647 : Int32)) % (6 : Int32))), .val (.ref s1), .val (.int (0 : Int32)), .val (.int (0 : Int32)), .val (.ref o1), .unset] [(.int (-1 : Int32)), (.ref o1)])) (fun _ kk => XS.iconst X11.here hx rfl (hb hby at_97) kk) ?_
      obtain ⟨_, _, ⟨T12, L12, k12, n12⟩, -, X12, hS12, hg12, ⟨Lc12, hQ12, l12, y12, z12⟩, st12⟩ := callSS X11 hx (y := (⟨"com/example/winj/winj/storage/ComparisonOrdersPinLaw", "holds", "(Ljava/lang/String;I)Z"⟩ : MethodName)) hown (mvT hZ (hw _ (List.mem_of_getElem? (i := 17) rfl))) (mvT hZ (hw _ (List.mem_of_getElem? (i := 18) rfl))) (mvT hZ (hw _ (List.mem_of_getElem? (i := 19) rfl))) (mvT hZ (hw _ (List.mem_of_getElem? (i := 20) rfl))) (by decide) (own_backS (W := 0) (P := PV0 Z) (rmHf1 l Z az hw [] o1 (-1 : Int32) zc d1 kd1 h0 hC hcw nz O_z S_C hzc E_o1 FC_o1 FV_o1 V_d1 rfl) hZ (hw _ (List.mem_of_getElem? (i := 20) rfl)) (hw _ (List.mem_of_getElem? (i := 19) rfl)) (by decide) (by decide)) (g := (mkF m 98 #[.val (.int p0), .val (.int ((p0 &&& (2147483647 : Int32)) % (6 : Int32))), .val (.ref s1), .val (.int (0 : Int32)), .val (.int (0 : Int32)), .val (.ref o1), .unset] [(.int (-1 : Int32)), (.ref o1)])) rfl (by rw [hml]; rfl) (argsL := [(.ref o1), (.int (-1 : Int32))]) (rest := []) (lenOf pd_2 rfl) rfl (by show 2 * 0 + _ ≤ _; exact Nat.le_of_eq rfl) (hb hby at_98) (fun vmq hvq => ⟨rfl, e11, own_ib I hvq, (by decide : 0 + 4 ≤ _), (by decide : 0 + 20 ≤ _)⟩)
      dsimp only [Pt.U, Pt.locs, Pt.cells, Pt.slots] at X12 l12 y12 z12 st12 hQ12 hS12 hg12
      subst l12 y12 z12
      obtain ⟨X12, hS, hZ, hown⟩ := rebS hS (own_hk e11 hk) X12 hS12 hg12 hZ hown
      obtain ⟨rfl, N12q, Ex12, la0, lb0, lk0, la1, lb1, lk1, ⟨Li0, El0, Cl0, Vl0, Al0⟩, ⟨Li1, El1, Cl1, Vl1, Al1⟩⟩ := hQ12
      have N12 := Fr.app N11 (own_frm N12q Z0)
      have O_z := O_z.ext Ex12
      have S_C := S_C.ext Ex12
      have S_EQUAL := S_EQUAL.ext Ex12
      have E_s0 := E_s0.ext Ex12
      have F_s0 := F_s0.ext Ex12
      have FO_s0 := FO_s0.ext Ex12
      have E_o0 := E_o0.ext Ex12
      have FC_o0 := FC_o0.ext Ex12
      have FV_o0 := FV_o0.ext Ex12
      have V_d0 := V_d0.ext Ex12
      have S_NOT_EQUAL := S_NOT_EQUAL.ext Ex12
      have E_s1 := E_s1.ext Ex12
      have F_s1 := F_s1.ext Ex12
      have FO_s1 := FO_s1.ext Ex12
      have E_o1 := E_o1.ext Ex12
      have FC_o1 := FC_o1.ext Ex12
      have FV_o1 := FV_o1.ext Ex12
      have V_d1 := V_d1.ext Ex12
      have S_LESS := S_LESS.ext Ex12
      have E_s2 := E_s2.ext Ex12
      have F_s2 := F_s2.ext Ex12
      have FO_s2 := FO_s2.ext Ex12
      have E_o2 := E_o2.ext Ex12
      have FC_o2 := FC_o2.ext Ex12
      have FV_o2 := FV_o2.ext Ex12
      have V_d2 := V_d2.ext Ex12
      have S_LESS_OR_EQUAL := S_LESS_OR_EQUAL.ext Ex12
      have E_s3 := E_s3.ext Ex12
      have F_s3 := F_s3.ext Ex12
      have FO_s3 := FO_s3.ext Ex12
      have E_o3 := E_o3.ext Ex12
      have FC_o3 := FC_o3.ext Ex12
      have FV_o3 := FV_o3.ext Ex12
      have V_d3 := V_d3.ext Ex12
      have S_GREATER := S_GREATER.ext Ex12
      have E_s4 := E_s4.ext Ex12
      have F_s4 := F_s4.ext Ex12
      have FO_s4 := FO_s4.ext Ex12
      have E_o4 := E_o4.ext Ex12
      have FC_o4 := FC_o4.ext Ex12
      have FV_o4 := FV_o4.ext Ex12
      have V_d4 := V_d4.ext Ex12
      have S_GREATER_OR_EQUAL := S_GREATER_OR_EQUAL.ext Ex12
      have E_s5 := E_s5.ext Ex12
      have F_s5 := F_s5.ext Ex12
      have FO_s5 := FO_s5.ext Ex12
      have E_o5 := E_o5.ext Ex12
      have FC_o5 := FC_o5.ext Ex12
      have FV_o5 := FV_o5.ext Ex12
      have V_d5 := V_d5.ext Ex12
      have Zs13 := Nat.le_trans Z0 Ex12.1
      have hk := Nat.le_trans hk Ex12.1
      have hk : T12.heap.size ≤ (T12.heap).size := Nat.le_of_eq (congrArg Array.size (show T12.heap = T12.heap from rfl))
      refine GoW.tr (S' := T12.setTop (mkF m 101 #[.val (.int p0), .val (.int ((p0 &&& (2147483647 : Int32)) % (6 : Int32))), .val (.ref s1), .val (.int (0 : Int32)), .val (.int (0 : Int32)), .val (.ref o1), .unset] [(.int (1 : Int32))])) st12 ?_
      refine GoW.st (S' := T12.setTop (mkF m 103 #[.val (.int p0), .val (.int ((p0 &&& (2147483647 : Int32)) % (6 : Int32))), .val (.ref s1), .val (.int (0 : Int32)), .val (.int (0 : Int32)), .val (.ref o1), .unset] [(.ref o1), (.int (1 : Int32))])) (fun _ kk => XS.aload X12.here hx rfl (hb hby at_101) rfl rfl kk) ?_
      refine GoW.st (S' := T12.setTop (mkF m 104 #[.val (.int p0), .val (.int ((p0 &&& (2147483647 : Int32)) % (6 : Int32))), .val (.ref s1), .val (.int (0 : Int32)), .val (.int (0 : Int32)), .val (.ref o1), .unset] [(.int (1 : Int32)), (.ref o1), (.int (1 : Int32))])) (fun _ kk => XS.iconst X12.here hx rfl (hb hby at_103) kk) ?_
      obtain ⟨_, _, ⟨T14, L14, k14, n14⟩, -, X14, hS14, hg14, ⟨Lc14, hQ14, l14, y14, z14⟩, st14⟩ := callSS X12 hx (y := (⟨"com/example/winj/winj/storage/ComparisonOrdersPinLaw", "holds", "(Ljava/lang/String;I)Z"⟩ : MethodName)) hown (mvT hZ (hw _ (List.mem_of_getElem? (i := 17) rfl))) (mvT hZ (hw _ (List.mem_of_getElem? (i := 18) rfl))) (mvT hZ (hw _ (List.mem_of_getElem? (i := 19) rfl))) (mvT hZ (hw _ (List.mem_of_getElem? (i := 20) rfl))) (by decide) (own_backS (W := 1) (P := PV_a1 Z la0 la1) (rmHa1 l Z az hw [] o1 (1 : Int32) zc d1 kd1 la0 lb0 lk0 la1 lb1 lk1 T12.heap hC hcw nz O_z S_C hzc E_o1 FC_o1 FV_o1 V_d1 El0 Cl0 Vl0 Al0 El1 Cl1 Vl1 Al1 rfl) hZ (hw _ (List.mem_of_getElem? (i := 20) rfl)) (hw _ (List.mem_of_getElem? (i := 19) rfl)) (by decide) (by decide)) (g := (mkF m 104 #[.val (.int p0), .val (.int ((p0 &&& (2147483647 : Int32)) % (6 : Int32))), .val (.ref s1), .val (.int (0 : Int32)), .val (.int (0 : Int32)), .val (.ref o1), .unset] [(.int (1 : Int32)), (.ref o1), (.int (1 : Int32))])) rfl (by rw [hml]; rfl) (argsL := [(.ref o1), (.int (1 : Int32))]) (rest := [(.int (1 : Int32))]) (lenOf pd_2 rfl) rfl (by show 2 * 0 + _ ≤ _; exact Nat.le_of_eq rfl) (hb hby at_104) (fun vmq hvq => ⟨rfl, rfl, ⟨LitV.stays (s := s) Li0 hvq.wide, LitV.stays (s := s) Li1 hvq.wide⟩, (by decide : 4 + 0 ≤ _), (by decide : 20 + 0 ≤ _)⟩)
      dsimp only [Pt.U, Pt.locs, Pt.cells, Pt.slots] at X14 l14 y14 z14 st14 hQ14 hS14 hg14
      subst l14 y14 z14
      have Li0 := LitV.stays (s := s) Li0 hS14.1
      have Li1 := LitV.stays (s := s) Li1 hS14.1
      obtain ⟨X14, hS, hZ, hown⟩ := rebS hS (own_hk rfl hk) X14 hS14 hg14 hZ hown
      obtain ⟨rfl, N14q, e14⟩ := hQ14
      have N14 := Fr.app N12 (own_frm N14q Zs13)
      have hk : T14.heap.size ≤ (T12.heap).size := Nat.le_of_eq (congrArg Array.size (show T14.heap = T12.heap from e14))
      refine GoW.tr (S' := T14.setTop (mkF m 107 #[.val (.int p0), .val (.int ((p0 &&& (2147483647 : Int32)) % (6 : Int32))), .val (.ref s1), .val (.int (0 : Int32)), .val (.int (0 : Int32)), .val (.ref o1), .unset] [(.int (1 : Int32)), (.int (1 : Int32))])) st14 ?_
      refine GoW.st (S' := T14.setTop (mkF m 114 #[.val (.int p0), .val (.int ((p0 &&& (2147483647 : Int32)) % (6 : Int32))), .val (.ref s1), .val (.int (0 : Int32)), .val (.int (0 : Int32)), .val (.ref o1), .unset] [])) (fun _ kk => XS.icmpYes X14.here hx rfl (pc0 := 107) (pc' := 114) rfl (hb hby at_107) rfl (teq (by decide : (1 : Int32) = (1 : Int32))).1 (by decide) (by decide) kk) ?_
      refine GoW.st (S' := T14.setTop (mkF m 115 #[.val (.int p0), .val (.int ((p0 &&& (2147483647 : Int32)) % (6 : Int32))), .val (.ref s1), .val (.int (0 : Int32)), .val (.int (0 : Int32)), .val (.ref o1), .unset] [(.int (0 : Int32))])) (fun _ kk => XS.iconst X14.here hx rfl (hb hby at_114) kk) ?_
      refine GoW.st (S' := T14.setTop (mkF m 117 #[.val (.int p0), .val (.int ((p0 &&& (2147483647 : Int32)) % (6 : Int32))), .val (.ref s1), .val (.int (0 : Int32)), .val (.int (0 : Int32)), .val (.ref o1), .val (.int (0 : Int32))] [])) (fun _ kk => XS.istore X14.here hx rfl (hb hby at_115) rfl (l' := #[.val (.int p0), .val (.int ((p0 &&& (2147483647 : Int32)) % (6 : Int32))), .val (.ref s1), .val (.int (0 : Int32)), .val (.int (0 : Int32)), .val (.ref o1), .val (.int (0 : Int32))]) rfl kk) ?_
      refine GoW.st (S' := T14.setTop (mkF m 119 #[.val (.int p0), .val (.int ((p0 &&& (2147483647 : Int32)) % (6 : Int32))), .val (.ref s1), .val (.int (0 : Int32)), .val (.int (0 : Int32)), .val (.ref o1), .val (.int (0 : Int32))] [(.int (0 : Int32))])) (fun _ kk => XS.iload X14.here hx rfl (hb hby at_117) rfl kk) ?_
      refine GoW.st (S' := T14.setTop (mkF m 120 #[.val (.int p0), .val (.int ((p0 &&& (2147483647 : Int32)) % (6 : Int32))), .val (.ref s1), .val (.int (0 : Int32)), .val (.int (0 : Int32)), .val (.ref o1), .val (.int (0 : Int32))] [(.int (0 : Int32)), (.int (0 : Int32))])) (fun _ kk => XS.iloadN X14.here hx rfl (hb hby at_119) rfl kk) ?_
      refine GoW.st (S' := T14.setTop (mkF m 123 #[.val (.int p0), .val (.int ((p0 &&& (2147483647 : Int32)) % (6 : Int32))), .val (.ref s1), .val (.int (0 : Int32)), .val (.int (0 : Int32)), .val (.ref o1), .val (.int (0 : Int32))] [])) (fun _ kk => XS.icmpNo X14.here hx rfl (hb hby at_120) rfl (teq (by decide : (0 : Int32) = (0 : Int32))).2 kk) ?_
      refine GoW.st (S' := T14.setTop (mkF m 125 #[.val (.int p0), .val (.int ((p0 &&& (2147483647 : Int32)) % (6 : Int32))), .val (.ref s1), .val (.int (0 : Int32)), .val (.int (0 : Int32)), .val (.ref o1), .val (.int (0 : Int32))] [(.int (0 : Int32))])) (fun _ kk => XS.iload X14.here hx rfl (hb hby at_123) rfl kk) ?_
      refine GoW.st (S' := T14.setTop (mkF m 127 #[.val (.int p0), .val (.int ((p0 &&& (2147483647 : Int32)) % (6 : Int32))), .val (.ref s1), .val (.int (0 : Int32)), .val (.int (0 : Int32)), .val (.ref o1), .val (.int (0 : Int32))] [(.int (0 : Int32)), (.int (0 : Int32))])) (fun _ kk => XS.iload X14.here hx rfl (hb hby at_125) rfl kk) ?_
      refine GoW.st (S' := T14.setTop (mkF m 130 #[.val (.int p0), .val (.int ((p0 &&& (2147483647 : Int32)) % (6 : Int32))), .val (.ref s1), .val (.int (0 : Int32)), .val (.int (0 : Int32)), .val (.ref o1), .val (.int (0 : Int32))] [])) (fun _ kk => XS.icmpNo X14.here hx rfl (hb hby at_127) rfl (teq (by decide : (0 : Int32) = (0 : Int32))).2 kk) ?_
      refine GoW.st (S' := T14.setTop (mkF m 131 #[.val (.int p0), .val (.int ((p0 &&& (2147483647 : Int32)) % (6 : Int32))), .val (.ref s1), .val (.int (0 : Int32)), .val (.int (0 : Int32)), .val (.ref o1), .val (.int (0 : Int32))] [(.int (1 : Int32))])) (fun _ kk => XS.iconst X14.here hx rfl (hb hby at_130) kk) ?_
      refine GoW.st (S' := T14.setTop (mkF m 135 #[.val (.int p0), .val (.int ((p0 &&& (2147483647 : Int32)) % (6 : Int32))), .val (.ref s1), .val (.int (0 : Int32)), .val (.int (0 : Int32)), .val (.ref o1), .val (.int (0 : Int32))] [(.int (1 : Int32))])) (fun _ kk => XS.goto X14.here hx rfl (pc0 := 131) (pc' := 135) rfl (hb hby at_131) (by decide) (by decide) kk) ?_
      exact GoW.retN X14 hx hlk hS (own_hk e14 hk) (t := .boolean) Bd.returns (by simp) (hb hby at_135) (⟨rfl, hn0 ▸ N14⟩) (by decide) (by decide)
    · refine GoW.st (S' := s₁.setTop (mkF m 35 #[.val (.int p0), .val (.int ((p0 &&& (2147483647 : Int32)) % (6 : Int32))), .unset, .unset, .unset, .unset, .unset] [])) (fun _ kk => XS.icmpYes X0.here hx rfl (pc0 := 23) (pc' := 35) rfl (hb hby at_23) rfl (feq hc8).2 (by decide) (by decide) kk) ?_
      refine GoW.st (S' := s₁.setTop (mkF m 36 #[.val (.int p0), .val (.int ((p0 &&& (2147483647 : Int32)) % (6 : Int32))), .unset, .unset, .unset, .unset, .unset] [(.int ((p0 &&& (2147483647 : Int32)) % (6 : Int32)))])) (fun _ kk => XS.iloadN X0.here hx rfl (hb hby at_35) rfl kk) ?_
      refine GoW.st (S' := s₁.setTop (mkF m 37 #[.val (.int p0), .val (.int ((p0 &&& (2147483647 : Int32)) % (6 : Int32))), .unset, .unset, .unset, .unset, .unset] [(.int (2 : Int32)), (.int ((p0 &&& (2147483647 : Int32)) % (6 : Int32)))])) (fun _ kk => XS.iconst X0.here hx rfl (hb hby at_36) kk) ?_
      by_cases hc15 : ((p0 &&& (2147483647 : Int32)) % (6 : Int32)) = (2 : Int32)
      · refine GoW.st (S' := s₁.setTop (mkF m 40 #[.val (.int p0), .val (.int ((p0 &&& (2147483647 : Int32)) % (6 : Int32))), .unset, .unset, .unset, .unset, .unset] [])) (fun _ kk => XS.icmpNo X0.here hx rfl (hb hby at_37) rfl (teq hc15).2 kk) ?_
        obtain ⟨T16, X16, e16, st16⟩ := getS2 X0 hx hZ hown (host := "") (Or.inl (hw _ (List.mem_of_getElem? (i := 50) rfl))) Via.refl e0 S_LESS (g := (mkF m 40 #[.val (.int p0), .val (.int ((p0 &&& (2147483647 : Int32)) % (6 : Int32))), .unset, .unset, .unset, .unset, .unset] [])) rfl (hb hby at_40)
        refine GoW.st (S' := T16.setTop (mkF m 43 #[.val (.int p0), .val (.int ((p0 &&& (2147483647 : Int32)) % (6 : Int32))), .unset, .unset, .unset, .unset, .unset] [(.ref s2)])) st16 ?_
        refine GoW.st (S' := T16.setTop (mkF m 44 #[.val (.int p0), .val (.int ((p0 &&& (2147483647 : Int32)) % (6 : Int32))), .val (.ref s2), .unset, .unset, .unset, .unset] [])) (fun _ kk => XS.astoreN X16.here hx rfl (hb hby at_43) rfl rfl (l' := #[.val (.int p0), .val (.int ((p0 &&& (2147483647 : Int32)) % (6 : Int32))), .val (.ref s2), .unset, .unset, .unset, .unset]) rfl kk) ?_
        refine GoW.st (S' := T16.setTop (mkF m 45 #[.val (.int p0), .val (.int ((p0 &&& (2147483647 : Int32)) % (6 : Int32))), .val (.ref s2), .unset, .unset, .unset, .unset] [(.int (1 : Int32))])) (fun _ kk => XS.iconst X16.here hx rfl (hb hby at_44) kk) ?_
        refine GoW.st (S' := T16.setTop (mkF m 46 #[.val (.int p0), .val (.int ((p0 &&& (2147483647 : Int32)) % (6 : Int32))), .val (.ref s2), .val (.int (1 : Int32)), .unset, .unset, .unset] [])) (fun _ kk => XS.istoreN X16.here hx rfl (hb hby at_45) rfl (l' := #[.val (.int p0), .val (.int ((p0 &&& (2147483647 : Int32)) % (6 : Int32))), .val (.ref s2), .val (.int (1 : Int32)), .unset, .unset, .unset]) rfl kk) ?_
        refine GoW.st (S' := T16.setTop (mkF m 83 #[.val (.int p0), .val (.int ((p0 &&& (2147483647 : Int32)) % (6 : Int32))), .val (.ref s2), .val (.int (1 : Int32)), .unset, .unset, .unset] [])) (fun _ kk => XS.goto X16.here hx rfl (pc0 := 46) (pc' := 83) rfl (hb hby at_46) (by decide) (by decide) kk) ?_
        refine GoW.st (S' := T16.setTop (mkF m 84 #[.val (.int p0), .val (.int ((p0 &&& (2147483647 : Int32)) % (6 : Int32))), .val (.ref s2), .val (.int (1 : Int32)), .unset, .unset, .unset] [(.ref s2)])) (fun _ kk => XS.aloadN X16.here hx rfl (hb hby at_83) rfl rfl kk) ?_
        obtain ⟨cq17, kq17, q17a, q17b, q17c⟩ := isOf hZ e16 E_s2
        obtain ⟨_, _, ⟨T17, L17, k17, n17⟩, -, X17, ⟨Lc17, hQ17, l17, y17, z17⟩, st17⟩ := X16.virtualBack hx (y := (⟨"com/example/winj/winj/storage/Comparison", "orders", "()Z"⟩ : MethodName)) (z := (⟨"com/example/winj/winj/storage/Comparison", "orders", "()Z"⟩ : MethodName)) hown (mvT hZ (hw _ (List.mem_of_getElem? (i := 4) rfl))) (mvT hZ (hw _ (List.mem_of_getElem? (i := 5) rfl))) (notFace_of_selects (args := #[]) (mvT hZ (hw _ (List.mem_of_getElem? (i := 7) rfl)))) (mvT hZ (hw _ (List.mem_of_getElem? (i := 7) rfl))) (mvT hZ (hw _ (List.mem_of_getElem? (i := 6) rfl))) (by decide) (backOf (W := 0) (rmOr2 l Z az hw [] s2 s0 s1 h0 n0 Z0 S_EQUAL S_NOT_EQUAL ne_2_0 ne_2_1) hZ (hw _ (List.mem_of_getElem? (i := 8) rfl)) (hw _ (List.mem_of_getElem? (i := 2) rfl)) (by decide) (by decide)) q17a q17c (g := (mkF m 84 #[.val (.int p0), .val (.int ((p0 &&& (2147483647 : Int32)) % (6 : Int32))), .val (.ref s2), .val (.int (1 : Int32)), .unset, .unset, .unset] [(.ref s2)])) rfl (by rw [hml]; rfl) (Steps.refl _) (argsL := []) (rest := []) (lenOf pd_0 rfl) rfl (by show 2 * 0 + _ ≤ _; exact Nat.le_of_eq rfl) (hb hby at_84) (fun _ _ => ⟨rfl, e16, (by decide : 0 + 0 ≤ _), (by decide : 0 + 0 ≤ _)⟩)
        dsimp only [Pt.U, Pt.locs, Pt.cells, Pt.slots] at X17 l17 y17 z17 st17 hQ17
        subst l17 y17 z17
        obtain ⟨rfl, N17q, e17⟩ := hQ17
        have N17 := Fr.app N0 N17q
        refine GoW.tr (S' := T17.setTop (mkF m 87 #[.val (.int p0), .val (.int ((p0 &&& (2147483647 : Int32)) % (6 : Int32))), .val (.ref s2), .val (.int (1 : Int32)), .unset, .unset, .unset] [(.int (1 : Int32))])) st17 ?_
        refine GoW.st (S' := T17.setTop (mkF m 89 #[.val (.int p0), .val (.int ((p0 &&& (2147483647 : Int32)) % (6 : Int32))), .val (.ref s2), .val (.int (1 : Int32)), .val (.int (1 : Int32)), .unset, .unset] [])) (fun _ kk => XS.istore X17.here hx rfl (hb hby at_87) rfl (l' := #[.val (.int p0), .val (.int ((p0 &&& (2147483647 : Int32)) % (6 : Int32))), .val (.ref s2), .val (.int (1 : Int32)), .val (.int (1 : Int32)), .unset, .unset]) rfl kk) ?_
        refine GoW.st (S' := T17.setTop (mkF m 90 #[.val (.int p0), .val (.int ((p0 &&& (2147483647 : Int32)) % (6 : Int32))), .val (.ref s2), .val (.int (1 : Int32)), .val (.int (1 : Int32)), .unset, .unset] [(.ref s2)])) (fun _ kk => XS.aloadN X17.here hx rfl (hb hby at_89) rfl rfl kk) ?_
        obtain ⟨cq18, kq18, q18a, q18b, q18c⟩ := isOf hZ e17 E_s2
        obtain ⟨_, _, ⟨T18, L18, k18, n18⟩, -, X18, ⟨Lc18, hQ18, l18, y18, z18⟩, st18⟩ := X17.virtualBack hx (y := (⟨"com/example/winj/winj/storage/Comparison", "operator", "()Ljava/lang/String;"⟩ : MethodName)) (z := (⟨"com/example/winj/winj/storage/Comparison", "operator", "()Ljava/lang/String;"⟩ : MethodName)) hown (mvT hZ (hw _ (List.mem_of_getElem? (i := 10) rfl))) (mvT hZ (hw _ (List.mem_of_getElem? (i := 11) rfl))) (notFace_of_selects (args := #[]) (mvT hZ (hw _ (List.mem_of_getElem? (i := 13) rfl)))) (mvT hZ (hw _ (List.mem_of_getElem? (i := 13) rfl))) (mvT hZ (hw _ (List.mem_of_getElem? (i := 12) rfl))) (by decide) (backOf (W := 0) (rmOp l Z az hw [] s2 o2 h0 n0 Z0 FO_s2) hZ (hw _ (List.mem_of_getElem? (i := 14) rfl)) (hw _ (List.mem_of_getElem? (i := 2) rfl)) (by decide) (by decide)) q18a q18c (g := (mkF m 90 #[.val (.int p0), .val (.int ((p0 &&& (2147483647 : Int32)) % (6 : Int32))), .val (.ref s2), .val (.int (1 : Int32)), .val (.int (1 : Int32)), .unset, .unset] [(.ref s2)])) rfl (by rw [hml]; rfl) (Steps.refl _) (argsL := []) (rest := []) (lenOf pd_1 rfl) rfl (by show 2 * 0 + _ ≤ _; exact Nat.le_of_eq rfl) (hb hby at_90) (fun _ _ => ⟨rfl, e17, (by decide : 0 + 0 ≤ _), (by decide : 0 + 0 ≤ _)⟩)
        dsimp only [Pt.U, Pt.locs, Pt.cells, Pt.slots] at X18 l18 y18 z18 st18 hQ18
        subst l18 y18 z18
        obtain ⟨rfl, N18q, e18⟩ := hQ18
        have N18 := Fr.app N17 N18q
        refine GoW.tr (S' := T18.setTop (mkF m 93 #[.val (.int p0), .val (.int ((p0 &&& (2147483647 : Int32)) % (6 : Int32))), .val (.ref s2), .val (.int (1 : Int32)), .val (.int (1 : Int32)), .unset, .unset] [(.ref o2)])) st18 ?_
        refine GoW.st (S' := T18.setTop (mkF m 95 #[.val (.int p0), .val (.int ((p0 &&& (2147483647 : Int32)) % (6 : Int32))), .val (.ref s2), .val (.int (1 : Int32)), .val (.int (1 : Int32)), .val (.ref o2), .unset] [])) (fun _ kk => XS.astore X18.here hx rfl (hb hby at_93) rfl rfl (l' := #[.val (.int p0), .val (.int ((p0 &&& (2147483647 : Int32)) % (6 : Int32))), .val (.ref s2), .val (.int (1 : Int32)), .val (.int (1 : Int32)), .val (.ref o2), .unset]) rfl kk) ?_
        refine GoW.st (S' := T18.setTop (mkF m 97 #[.val (.int p0), .val (.int ((p0 &&& (2147483647 : Int32)) % (6 : Int32))), .val (.ref s2), .val (.int (1 : Int32)), .val (.int (1 : Int32)), .val (.ref o2), .unset] [(.ref o2)])) (fun _ kk => XS.aload X18.here hx rfl (hb hby at_95) rfl rfl kk) ?_
        refine GoW.st (S' := T18.setTop (mkF m 98 #[.val (.int p0), .val (.int ((p0 &&& (2147483647 : Int32)) % (6 : Int32))), .val (.ref s2), .val (.int (1 : Int32)), .val (.int (1 : Int32)), .val (.ref o2), .unset] [(.int (-1 : Int32)), (.ref o2)])) (fun _ kk => XS.iconst X18.here hx rfl (hb hby at_97) kk) ?_
        obtain ⟨_, _, ⟨T19, L19, k19, n19⟩, -, X19, hS19, hg19, ⟨Lc19, hQ19, l19, y19, z19⟩, st19⟩ := callSS X18 hx (y := (⟨"com/example/winj/winj/storage/ComparisonOrdersPinLaw", "holds", "(Ljava/lang/String;I)Z"⟩ : MethodName)) hown (mvT hZ (hw _ (List.mem_of_getElem? (i := 17) rfl))) (mvT hZ (hw _ (List.mem_of_getElem? (i := 18) rfl))) (mvT hZ (hw _ (List.mem_of_getElem? (i := 19) rfl))) (mvT hZ (hw _ (List.mem_of_getElem? (i := 20) rfl))) (by decide) (own_backS (W := 0) (P := PV0 Z) (rmHf2 l Z az hw [] o2 (-1 : Int32) zc d2 kd2 h0 hC hcw nz O_z S_C hzc E_o2 FC_o2 FV_o2 V_d2 rfl) hZ (hw _ (List.mem_of_getElem? (i := 20) rfl)) (hw _ (List.mem_of_getElem? (i := 19) rfl)) (by decide) (by decide)) (g := (mkF m 98 #[.val (.int p0), .val (.int ((p0 &&& (2147483647 : Int32)) % (6 : Int32))), .val (.ref s2), .val (.int (1 : Int32)), .val (.int (1 : Int32)), .val (.ref o2), .unset] [(.int (-1 : Int32)), (.ref o2)])) rfl (by rw [hml]; rfl) (argsL := [(.ref o2), (.int (-1 : Int32))]) (rest := []) (lenOf pd_2 rfl) rfl (by show 2 * 0 + _ ≤ _; exact Nat.le_of_eq rfl) (hb hby at_98) (fun vmq hvq => ⟨rfl, e18, own_ib I hvq, (by decide : 0 + 6 ≤ _), (by decide : 0 + 28 ≤ _)⟩)
        dsimp only [Pt.U, Pt.locs, Pt.cells, Pt.slots] at X19 l19 y19 z19 st19 hQ19 hS19 hg19
        subst l19 y19 z19
        obtain ⟨X19, hS, hZ, hown⟩ := rebS hS (own_hk e18 hk) X19 hS19 hg19 hZ hown
        obtain ⟨rfl, N19q, Ex19, la0, lb0, lk0, la1, lb1, lk1, la2, lb2, lk2, ⟨Li0, El0, Cl0, Vl0, Al0⟩, ⟨Li1, El1, Cl1, Vl1, Al1⟩, ⟨Li2, El2, Cl2, Vl2, Al2⟩⟩ := hQ19
        have N19 := Fr.app N18 (own_frm N19q Z0)
        have O_z := O_z.ext Ex19
        have S_C := S_C.ext Ex19
        have S_EQUAL := S_EQUAL.ext Ex19
        have E_s0 := E_s0.ext Ex19
        have F_s0 := F_s0.ext Ex19
        have FO_s0 := FO_s0.ext Ex19
        have E_o0 := E_o0.ext Ex19
        have FC_o0 := FC_o0.ext Ex19
        have FV_o0 := FV_o0.ext Ex19
        have V_d0 := V_d0.ext Ex19
        have S_NOT_EQUAL := S_NOT_EQUAL.ext Ex19
        have E_s1 := E_s1.ext Ex19
        have F_s1 := F_s1.ext Ex19
        have FO_s1 := FO_s1.ext Ex19
        have E_o1 := E_o1.ext Ex19
        have FC_o1 := FC_o1.ext Ex19
        have FV_o1 := FV_o1.ext Ex19
        have V_d1 := V_d1.ext Ex19
        have S_LESS := S_LESS.ext Ex19
        have E_s2 := E_s2.ext Ex19
        have F_s2 := F_s2.ext Ex19
        have FO_s2 := FO_s2.ext Ex19
        have E_o2 := E_o2.ext Ex19
        have FC_o2 := FC_o2.ext Ex19
        have FV_o2 := FV_o2.ext Ex19
        have V_d2 := V_d2.ext Ex19
        have S_LESS_OR_EQUAL := S_LESS_OR_EQUAL.ext Ex19
        have E_s3 := E_s3.ext Ex19
        have F_s3 := F_s3.ext Ex19
        have FO_s3 := FO_s3.ext Ex19
        have E_o3 := E_o3.ext Ex19
        have FC_o3 := FC_o3.ext Ex19
        have FV_o3 := FV_o3.ext Ex19
        have V_d3 := V_d3.ext Ex19
        have S_GREATER := S_GREATER.ext Ex19
        have E_s4 := E_s4.ext Ex19
        have F_s4 := F_s4.ext Ex19
        have FO_s4 := FO_s4.ext Ex19
        have E_o4 := E_o4.ext Ex19
        have FC_o4 := FC_o4.ext Ex19
        have FV_o4 := FV_o4.ext Ex19
        have V_d4 := V_d4.ext Ex19
        have S_GREATER_OR_EQUAL := S_GREATER_OR_EQUAL.ext Ex19
        have E_s5 := E_s5.ext Ex19
        have F_s5 := F_s5.ext Ex19
        have FO_s5 := FO_s5.ext Ex19
        have E_o5 := E_o5.ext Ex19
        have FC_o5 := FC_o5.ext Ex19
        have FV_o5 := FV_o5.ext Ex19
        have V_d5 := V_d5.ext Ex19
        have Zs20 := Nat.le_trans Z0 Ex19.1
        have hk := Nat.le_trans hk Ex19.1
        have hk : T19.heap.size ≤ (T19.heap).size := Nat.le_of_eq (congrArg Array.size (show T19.heap = T19.heap from rfl))
        refine GoW.tr (S' := T19.setTop (mkF m 101 #[.val (.int p0), .val (.int ((p0 &&& (2147483647 : Int32)) % (6 : Int32))), .val (.ref s2), .val (.int (1 : Int32)), .val (.int (1 : Int32)), .val (.ref o2), .unset] [(.int (1 : Int32))])) st19 ?_
        refine GoW.st (S' := T19.setTop (mkF m 103 #[.val (.int p0), .val (.int ((p0 &&& (2147483647 : Int32)) % (6 : Int32))), .val (.ref s2), .val (.int (1 : Int32)), .val (.int (1 : Int32)), .val (.ref o2), .unset] [(.ref o2), (.int (1 : Int32))])) (fun _ kk => XS.aload X19.here hx rfl (hb hby at_101) rfl rfl kk) ?_
        refine GoW.st (S' := T19.setTop (mkF m 104 #[.val (.int p0), .val (.int ((p0 &&& (2147483647 : Int32)) % (6 : Int32))), .val (.ref s2), .val (.int (1 : Int32)), .val (.int (1 : Int32)), .val (.ref o2), .unset] [(.int (1 : Int32)), (.ref o2), (.int (1 : Int32))])) (fun _ kk => XS.iconst X19.here hx rfl (hb hby at_103) kk) ?_
        obtain ⟨_, _, ⟨T21, L21, k21, n21⟩, -, X21, hS21, hg21, ⟨Lc21, hQ21, l21, y21, z21⟩, st21⟩ := callSS X19 hx (y := (⟨"com/example/winj/winj/storage/ComparisonOrdersPinLaw", "holds", "(Ljava/lang/String;I)Z"⟩ : MethodName)) hown (mvT hZ (hw _ (List.mem_of_getElem? (i := 17) rfl))) (mvT hZ (hw _ (List.mem_of_getElem? (i := 18) rfl))) (mvT hZ (hw _ (List.mem_of_getElem? (i := 19) rfl))) (mvT hZ (hw _ (List.mem_of_getElem? (i := 20) rfl))) (by decide) (own_backS (W := 1) (P := PV_a2 Z la0 la1 la2) (rmHa2 l Z az hw [] o2 (1 : Int32) zc d2 kd2 la0 lb0 lk0 la1 lb1 lk1 la2 lb2 lk2 T19.heap hC hcw nz O_z S_C hzc E_o2 FC_o2 FV_o2 V_d2 El0 Cl0 Vl0 Al0 El1 Cl1 Vl1 Al1 El2 Cl2 Vl2 Al2 rfl) hZ (hw _ (List.mem_of_getElem? (i := 20) rfl)) (hw _ (List.mem_of_getElem? (i := 19) rfl)) (by decide) (by decide)) (g := (mkF m 104 #[.val (.int p0), .val (.int ((p0 &&& (2147483647 : Int32)) % (6 : Int32))), .val (.ref s2), .val (.int (1 : Int32)), .val (.int (1 : Int32)), .val (.ref o2), .unset] [(.int (1 : Int32)), (.ref o2), (.int (1 : Int32))])) rfl (by rw [hml]; rfl) (argsL := [(.ref o2), (.int (1 : Int32))]) (rest := [(.int (1 : Int32))]) (lenOf pd_2 rfl) rfl (by show 2 * 0 + _ ≤ _; exact Nat.le_of_eq rfl) (hb hby at_104) (fun vmq hvq => ⟨rfl, rfl, ⟨LitV.stays (s := s) Li0 hvq.wide, LitV.stays (s := s) Li1 hvq.wide, LitV.stays (s := s) Li2 hvq.wide⟩, (by decide : 6 + 0 ≤ _), (by decide : 28 + 0 ≤ _)⟩)
        dsimp only [Pt.U, Pt.locs, Pt.cells, Pt.slots] at X21 l21 y21 z21 st21 hQ21 hS21 hg21
        subst l21 y21 z21
        have Li0 := LitV.stays (s := s) Li0 hS21.1
        have Li1 := LitV.stays (s := s) Li1 hS21.1
        have Li2 := LitV.stays (s := s) Li2 hS21.1
        obtain ⟨X21, hS, hZ, hown⟩ := rebS hS (own_hk rfl hk) X21 hS21 hg21 hZ hown
        obtain ⟨rfl, N21q, e21⟩ := hQ21
        have N21 := Fr.app N19 (own_frm N21q Zs20)
        have hk : T21.heap.size ≤ (T19.heap).size := Nat.le_of_eq (congrArg Array.size (show T21.heap = T19.heap from e21))
        refine GoW.tr (S' := T21.setTop (mkF m 107 #[.val (.int p0), .val (.int ((p0 &&& (2147483647 : Int32)) % (6 : Int32))), .val (.ref s2), .val (.int (1 : Int32)), .val (.int (1 : Int32)), .val (.ref o2), .unset] [(.int (0 : Int32)), (.int (1 : Int32))])) st21 ?_
        refine GoW.st (S' := T21.setTop (mkF m 110 #[.val (.int p0), .val (.int ((p0 &&& (2147483647 : Int32)) % (6 : Int32))), .val (.ref s2), .val (.int (1 : Int32)), .val (.int (1 : Int32)), .val (.ref o2), .unset] [])) (fun _ kk => XS.icmpNo X21.here hx rfl (hb hby at_107) rfl (feq (by decide : ¬ ((1 : Int32) = (0 : Int32)))).1 kk) ?_
        refine GoW.st (S' := T21.setTop (mkF m 111 #[.val (.int p0), .val (.int ((p0 &&& (2147483647 : Int32)) % (6 : Int32))), .val (.ref s2), .val (.int (1 : Int32)), .val (.int (1 : Int32)), .val (.ref o2), .unset] [(.int (1 : Int32))])) (fun _ kk => XS.iconst X21.here hx rfl (hb hby at_110) kk) ?_
        refine GoW.st (S' := T21.setTop (mkF m 115 #[.val (.int p0), .val (.int ((p0 &&& (2147483647 : Int32)) % (6 : Int32))), .val (.ref s2), .val (.int (1 : Int32)), .val (.int (1 : Int32)), .val (.ref o2), .unset] [(.int (1 : Int32))])) (fun _ kk => XS.goto X21.here hx rfl (pc0 := 111) (pc' := 115) rfl (hb hby at_111) (by decide) (by decide) kk) ?_
        refine GoW.st (S' := T21.setTop (mkF m 117 #[.val (.int p0), .val (.int ((p0 &&& (2147483647 : Int32)) % (6 : Int32))), .val (.ref s2), .val (.int (1 : Int32)), .val (.int (1 : Int32)), .val (.ref o2), .val (.int (1 : Int32))] [])) (fun _ kk => XS.istore X21.here hx rfl (hb hby at_115) rfl (l' := #[.val (.int p0), .val (.int ((p0 &&& (2147483647 : Int32)) % (6 : Int32))), .val (.ref s2), .val (.int (1 : Int32)), .val (.int (1 : Int32)), .val (.ref o2), .val (.int (1 : Int32))]) rfl kk) ?_
        refine GoW.st (S' := T21.setTop (mkF m 119 #[.val (.int p0), .val (.int ((p0 &&& (2147483647 : Int32)) % (6 : Int32))), .val (.ref s2), .val (.int (1 : Int32)), .val (.int (1 : Int32)), .val (.ref o2), .val (.int (1 : Int32))] [(.int (1 : Int32))])) (fun _ kk => XS.iload X21.here hx rfl (hb hby at_117) rfl kk) ?_
        refine GoW.st (S' := T21.setTop (mkF m 120 #[.val (.int p0), .val (.int ((p0 &&& (2147483647 : Int32)) % (6 : Int32))), .val (.ref s2), .val (.int (1 : Int32)), .val (.int (1 : Int32)), .val (.ref o2), .val (.int (1 : Int32))] [(.int (1 : Int32)), (.int (1 : Int32))])) (fun _ kk => XS.iloadN X21.here hx rfl (hb hby at_119) rfl kk) ?_
        refine GoW.st (S' := T21.setTop (mkF m 123 #[.val (.int p0), .val (.int ((p0 &&& (2147483647 : Int32)) % (6 : Int32))), .val (.ref s2), .val (.int (1 : Int32)), .val (.int (1 : Int32)), .val (.ref o2), .val (.int (1 : Int32))] [])) (fun _ kk => XS.icmpNo X21.here hx rfl (hb hby at_120) rfl (teq (by decide : (1 : Int32) = (1 : Int32))).2 kk) ?_
        refine GoW.st (S' := T21.setTop (mkF m 125 #[.val (.int p0), .val (.int ((p0 &&& (2147483647 : Int32)) % (6 : Int32))), .val (.ref s2), .val (.int (1 : Int32)), .val (.int (1 : Int32)), .val (.ref o2), .val (.int (1 : Int32))] [(.int (1 : Int32))])) (fun _ kk => XS.iload X21.here hx rfl (hb hby at_123) rfl kk) ?_
        refine GoW.st (S' := T21.setTop (mkF m 127 #[.val (.int p0), .val (.int ((p0 &&& (2147483647 : Int32)) % (6 : Int32))), .val (.ref s2), .val (.int (1 : Int32)), .val (.int (1 : Int32)), .val (.ref o2), .val (.int (1 : Int32))] [(.int (1 : Int32)), (.int (1 : Int32))])) (fun _ kk => XS.iload X21.here hx rfl (hb hby at_125) rfl kk) ?_
        refine GoW.st (S' := T21.setTop (mkF m 130 #[.val (.int p0), .val (.int ((p0 &&& (2147483647 : Int32)) % (6 : Int32))), .val (.ref s2), .val (.int (1 : Int32)), .val (.int (1 : Int32)), .val (.ref o2), .val (.int (1 : Int32))] [])) (fun _ kk => XS.icmpNo X21.here hx rfl (hb hby at_127) rfl (teq (by decide : (1 : Int32) = (1 : Int32))).2 kk) ?_
        refine GoW.st (S' := T21.setTop (mkF m 131 #[.val (.int p0), .val (.int ((p0 &&& (2147483647 : Int32)) % (6 : Int32))), .val (.ref s2), .val (.int (1 : Int32)), .val (.int (1 : Int32)), .val (.ref o2), .val (.int (1 : Int32))] [(.int (1 : Int32))])) (fun _ kk => XS.iconst X21.here hx rfl (hb hby at_130) kk) ?_
        refine GoW.st (S' := T21.setTop (mkF m 135 #[.val (.int p0), .val (.int ((p0 &&& (2147483647 : Int32)) % (6 : Int32))), .val (.ref s2), .val (.int (1 : Int32)), .val (.int (1 : Int32)), .val (.ref o2), .val (.int (1 : Int32))] [(.int (1 : Int32))])) (fun _ kk => XS.goto X21.here hx rfl (pc0 := 131) (pc' := 135) rfl (hb hby at_131) (by decide) (by decide) kk) ?_
        exact GoW.retN X21 hx hlk hS (own_hk e21 hk) (t := .boolean) Bd.returns (by simp) (hb hby at_135) (⟨rfl, hn0 ▸ N21⟩) (by decide) (by decide)
      · refine GoW.st (S' := s₁.setTop (mkF m 49 #[.val (.int p0), .val (.int ((p0 &&& (2147483647 : Int32)) % (6 : Int32))), .unset, .unset, .unset, .unset, .unset] [])) (fun _ kk => XS.icmpYes X0.here hx rfl (pc0 := 37) (pc' := 49) rfl (hb hby at_37) rfl (feq hc15).2 (by decide) (by decide) kk) ?_
        refine GoW.st (S' := s₁.setTop (mkF m 50 #[.val (.int p0), .val (.int ((p0 &&& (2147483647 : Int32)) % (6 : Int32))), .unset, .unset, .unset, .unset, .unset] [(.int ((p0 &&& (2147483647 : Int32)) % (6 : Int32)))])) (fun _ kk => XS.iloadN X0.here hx rfl (hb hby at_49) rfl kk) ?_
        refine GoW.st (S' := s₁.setTop (mkF m 51 #[.val (.int p0), .val (.int ((p0 &&& (2147483647 : Int32)) % (6 : Int32))), .unset, .unset, .unset, .unset, .unset] [(.int (3 : Int32)), (.int ((p0 &&& (2147483647 : Int32)) % (6 : Int32)))])) (fun _ kk => XS.iconst X0.here hx rfl (hb hby at_50) kk) ?_
        by_cases hc22 : ((p0 &&& (2147483647 : Int32)) % (6 : Int32)) = (3 : Int32)
        · refine GoW.st (S' := s₁.setTop (mkF m 54 #[.val (.int p0), .val (.int ((p0 &&& (2147483647 : Int32)) % (6 : Int32))), .unset, .unset, .unset, .unset, .unset] [])) (fun _ kk => XS.icmpNo X0.here hx rfl (hb hby at_51) rfl (teq hc22).2 kk) ?_
          obtain ⟨T23, X23, e23, st23⟩ := getS2 X0 hx hZ hown (host := "") (Or.inl (hw _ (List.mem_of_getElem? (i := 43) rfl))) Via.refl e0 S_LESS_OR_EQUAL (g := (mkF m 54 #[.val (.int p0), .val (.int ((p0 &&& (2147483647 : Int32)) % (6 : Int32))), .unset, .unset, .unset, .unset, .unset] [])) rfl (hb hby at_54)
          refine GoW.st (S' := T23.setTop (mkF m 57 #[.val (.int p0), .val (.int ((p0 &&& (2147483647 : Int32)) % (6 : Int32))), .unset, .unset, .unset, .unset, .unset] [(.ref s3)])) st23 ?_
          refine GoW.st (S' := T23.setTop (mkF m 58 #[.val (.int p0), .val (.int ((p0 &&& (2147483647 : Int32)) % (6 : Int32))), .val (.ref s3), .unset, .unset, .unset, .unset] [])) (fun _ kk => XS.astoreN X23.here hx rfl (hb hby at_57) rfl rfl (l' := #[.val (.int p0), .val (.int ((p0 &&& (2147483647 : Int32)) % (6 : Int32))), .val (.ref s3), .unset, .unset, .unset, .unset]) rfl kk) ?_
          refine GoW.st (S' := T23.setTop (mkF m 59 #[.val (.int p0), .val (.int ((p0 &&& (2147483647 : Int32)) % (6 : Int32))), .val (.ref s3), .unset, .unset, .unset, .unset] [(.int (1 : Int32))])) (fun _ kk => XS.iconst X23.here hx rfl (hb hby at_58) kk) ?_
          refine GoW.st (S' := T23.setTop (mkF m 60 #[.val (.int p0), .val (.int ((p0 &&& (2147483647 : Int32)) % (6 : Int32))), .val (.ref s3), .val (.int (1 : Int32)), .unset, .unset, .unset] [])) (fun _ kk => XS.istoreN X23.here hx rfl (hb hby at_59) rfl (l' := #[.val (.int p0), .val (.int ((p0 &&& (2147483647 : Int32)) % (6 : Int32))), .val (.ref s3), .val (.int (1 : Int32)), .unset, .unset, .unset]) rfl kk) ?_
          refine GoW.st (S' := T23.setTop (mkF m 83 #[.val (.int p0), .val (.int ((p0 &&& (2147483647 : Int32)) % (6 : Int32))), .val (.ref s3), .val (.int (1 : Int32)), .unset, .unset, .unset] [])) (fun _ kk => XS.goto X23.here hx rfl (pc0 := 60) (pc' := 83) rfl (hb hby at_60) (by decide) (by decide) kk) ?_
          refine GoW.st (S' := T23.setTop (mkF m 84 #[.val (.int p0), .val (.int ((p0 &&& (2147483647 : Int32)) % (6 : Int32))), .val (.ref s3), .val (.int (1 : Int32)), .unset, .unset, .unset] [(.ref s3)])) (fun _ kk => XS.aloadN X23.here hx rfl (hb hby at_83) rfl rfl kk) ?_
          obtain ⟨cq24, kq24, q24a, q24b, q24c⟩ := isOf hZ e23 E_s3
          obtain ⟨_, _, ⟨T24, L24, k24, n24⟩, -, X24, ⟨Lc24, hQ24, l24, y24, z24⟩, st24⟩ := X23.virtualBack hx (y := (⟨"com/example/winj/winj/storage/Comparison", "orders", "()Z"⟩ : MethodName)) (z := (⟨"com/example/winj/winj/storage/Comparison", "orders", "()Z"⟩ : MethodName)) hown (mvT hZ (hw _ (List.mem_of_getElem? (i := 4) rfl))) (mvT hZ (hw _ (List.mem_of_getElem? (i := 5) rfl))) (notFace_of_selects (args := #[]) (mvT hZ (hw _ (List.mem_of_getElem? (i := 7) rfl)))) (mvT hZ (hw _ (List.mem_of_getElem? (i := 7) rfl))) (mvT hZ (hw _ (List.mem_of_getElem? (i := 6) rfl))) (by decide) (backOf (W := 0) (rmOr2 l Z az hw [] s3 s0 s1 h0 n0 Z0 S_EQUAL S_NOT_EQUAL ne_3_0 ne_3_1) hZ (hw _ (List.mem_of_getElem? (i := 8) rfl)) (hw _ (List.mem_of_getElem? (i := 2) rfl)) (by decide) (by decide)) q24a q24c (g := (mkF m 84 #[.val (.int p0), .val (.int ((p0 &&& (2147483647 : Int32)) % (6 : Int32))), .val (.ref s3), .val (.int (1 : Int32)), .unset, .unset, .unset] [(.ref s3)])) rfl (by rw [hml]; rfl) (Steps.refl _) (argsL := []) (rest := []) (lenOf pd_0 rfl) rfl (by show 2 * 0 + _ ≤ _; exact Nat.le_of_eq rfl) (hb hby at_84) (fun _ _ => ⟨rfl, e23, (by decide : 0 + 0 ≤ _), (by decide : 0 + 0 ≤ _)⟩)
          dsimp only [Pt.U, Pt.locs, Pt.cells, Pt.slots] at X24 l24 y24 z24 st24 hQ24
          subst l24 y24 z24
          obtain ⟨rfl, N24q, e24⟩ := hQ24
          have N24 := Fr.app N0 N24q
          refine GoW.tr (S' := T24.setTop (mkF m 87 #[.val (.int p0), .val (.int ((p0 &&& (2147483647 : Int32)) % (6 : Int32))), .val (.ref s3), .val (.int (1 : Int32)), .unset, .unset, .unset] [(.int (1 : Int32))])) st24 ?_
          refine GoW.st (S' := T24.setTop (mkF m 89 #[.val (.int p0), .val (.int ((p0 &&& (2147483647 : Int32)) % (6 : Int32))), .val (.ref s3), .val (.int (1 : Int32)), .val (.int (1 : Int32)), .unset, .unset] [])) (fun _ kk => XS.istore X24.here hx rfl (hb hby at_87) rfl (l' := #[.val (.int p0), .val (.int ((p0 &&& (2147483647 : Int32)) % (6 : Int32))), .val (.ref s3), .val (.int (1 : Int32)), .val (.int (1 : Int32)), .unset, .unset]) rfl kk) ?_
          refine GoW.st (S' := T24.setTop (mkF m 90 #[.val (.int p0), .val (.int ((p0 &&& (2147483647 : Int32)) % (6 : Int32))), .val (.ref s3), .val (.int (1 : Int32)), .val (.int (1 : Int32)), .unset, .unset] [(.ref s3)])) (fun _ kk => XS.aloadN X24.here hx rfl (hb hby at_89) rfl rfl kk) ?_
          obtain ⟨cq25, kq25, q25a, q25b, q25c⟩ := isOf hZ e24 E_s3
          obtain ⟨_, _, ⟨T25, L25, k25, n25⟩, -, X25, ⟨Lc25, hQ25, l25, y25, z25⟩, st25⟩ := X24.virtualBack hx (y := (⟨"com/example/winj/winj/storage/Comparison", "operator", "()Ljava/lang/String;"⟩ : MethodName)) (z := (⟨"com/example/winj/winj/storage/Comparison", "operator", "()Ljava/lang/String;"⟩ : MethodName)) hown (mvT hZ (hw _ (List.mem_of_getElem? (i := 10) rfl))) (mvT hZ (hw _ (List.mem_of_getElem? (i := 11) rfl))) (notFace_of_selects (args := #[]) (mvT hZ (hw _ (List.mem_of_getElem? (i := 13) rfl)))) (mvT hZ (hw _ (List.mem_of_getElem? (i := 13) rfl))) (mvT hZ (hw _ (List.mem_of_getElem? (i := 12) rfl))) (by decide) (backOf (W := 0) (rmOp l Z az hw [] s3 o3 h0 n0 Z0 FO_s3) hZ (hw _ (List.mem_of_getElem? (i := 14) rfl)) (hw _ (List.mem_of_getElem? (i := 2) rfl)) (by decide) (by decide)) q25a q25c (g := (mkF m 90 #[.val (.int p0), .val (.int ((p0 &&& (2147483647 : Int32)) % (6 : Int32))), .val (.ref s3), .val (.int (1 : Int32)), .val (.int (1 : Int32)), .unset, .unset] [(.ref s3)])) rfl (by rw [hml]; rfl) (Steps.refl _) (argsL := []) (rest := []) (lenOf pd_1 rfl) rfl (by show 2 * 0 + _ ≤ _; exact Nat.le_of_eq rfl) (hb hby at_90) (fun _ _ => ⟨rfl, e24, (by decide : 0 + 0 ≤ _), (by decide : 0 + 0 ≤ _)⟩)
          dsimp only [Pt.U, Pt.locs, Pt.cells, Pt.slots] at X25 l25 y25 z25 st25 hQ25
          subst l25 y25 z25
          obtain ⟨rfl, N25q, e25⟩ := hQ25
          have N25 := Fr.app N24 N25q
          refine GoW.tr (S' := T25.setTop (mkF m 93 #[.val (.int p0), .val (.int ((p0 &&& (2147483647 : Int32)) % (6 : Int32))), .val (.ref s3), .val (.int (1 : Int32)), .val (.int (1 : Int32)), .unset, .unset] [(.ref o3)])) st25 ?_
          refine GoW.st (S' := T25.setTop (mkF m 95 #[.val (.int p0), .val (.int ((p0 &&& (2147483647 : Int32)) % (6 : Int32))), .val (.ref s3), .val (.int (1 : Int32)), .val (.int (1 : Int32)), .val (.ref o3), .unset] [])) (fun _ kk => XS.astore X25.here hx rfl (hb hby at_93) rfl rfl (l' := #[.val (.int p0), .val (.int ((p0 &&& (2147483647 : Int32)) % (6 : Int32))), .val (.ref s3), .val (.int (1 : Int32)), .val (.int (1 : Int32)), .val (.ref o3), .unset]) rfl kk) ?_
          refine GoW.st (S' := T25.setTop (mkF m 97 #[.val (.int p0), .val (.int ((p0 &&& (2147483647 : Int32)) % (6 : Int32))), .val (.ref s3), .val (.int (1 : Int32)), .val (.int (1 : Int32)), .val (.ref o3), .unset] [(.ref o3)])) (fun _ kk => XS.aload X25.here hx rfl (hb hby at_95) rfl rfl kk) ?_
          refine GoW.st (S' := T25.setTop (mkF m 98 #[.val (.int p0), .val (.int ((p0 &&& (2147483647 : Int32)) % (6 : Int32))), .val (.ref s3), .val (.int (1 : Int32)), .val (.int (1 : Int32)), .val (.ref o3), .unset] [(.int (-1 : Int32)), (.ref o3)])) (fun _ kk => XS.iconst X25.here hx rfl (hb hby at_97) kk) ?_
          obtain ⟨_, _, ⟨T26, L26, k26, n26⟩, -, X26, hS26, hg26, ⟨Lc26, hQ26, l26, y26, z26⟩, st26⟩ := callSS X25 hx (y := (⟨"com/example/winj/winj/storage/ComparisonOrdersPinLaw", "holds", "(Ljava/lang/String;I)Z"⟩ : MethodName)) hown (mvT hZ (hw _ (List.mem_of_getElem? (i := 17) rfl))) (mvT hZ (hw _ (List.mem_of_getElem? (i := 18) rfl))) (mvT hZ (hw _ (List.mem_of_getElem? (i := 19) rfl))) (mvT hZ (hw _ (List.mem_of_getElem? (i := 20) rfl))) (by decide) (own_backS (W := 0) (P := PV0 Z) (rmHf3 l Z az hw [] o3 (-1 : Int32) zc d3 kd3 h0 hC hcw nz O_z S_C hzc E_o3 FC_o3 FV_o3 V_d3 rfl) hZ (hw _ (List.mem_of_getElem? (i := 20) rfl)) (hw _ (List.mem_of_getElem? (i := 19) rfl)) (by decide) (by decide)) (g := (mkF m 98 #[.val (.int p0), .val (.int ((p0 &&& (2147483647 : Int32)) % (6 : Int32))), .val (.ref s3), .val (.int (1 : Int32)), .val (.int (1 : Int32)), .val (.ref o3), .unset] [(.int (-1 : Int32)), (.ref o3)])) rfl (by rw [hml]; rfl) (argsL := [(.ref o3), (.int (-1 : Int32))]) (rest := []) (lenOf pd_2 rfl) rfl (by show 2 * 0 + _ ≤ _; exact Nat.le_of_eq rfl) (hb hby at_98) (fun vmq hvq => ⟨rfl, e25, own_ib I hvq, (by decide : 0 + 8 ≤ _), (by decide : 0 + 40 ≤ _)⟩)
          dsimp only [Pt.U, Pt.locs, Pt.cells, Pt.slots] at X26 l26 y26 z26 st26 hQ26 hS26 hg26
          subst l26 y26 z26
          obtain ⟨X26, hS, hZ, hown⟩ := rebS hS (own_hk e25 hk) X26 hS26 hg26 hZ hown
          obtain ⟨rfl, N26q, Ex26, la0, lb0, lk0, la1, lb1, lk1, la2, lb2, lk2, la3, lb3, lk3, ⟨Li0, El0, Cl0, Vl0, Al0⟩, ⟨Li1, El1, Cl1, Vl1, Al1⟩, ⟨Li2, El2, Cl2, Vl2, Al2⟩, ⟨Li3, El3, Cl3, Vl3, Al3⟩⟩ := hQ26
          have N26 := Fr.app N25 (own_frm N26q Z0)
          have O_z := O_z.ext Ex26
          have S_C := S_C.ext Ex26
          have S_EQUAL := S_EQUAL.ext Ex26
          have E_s0 := E_s0.ext Ex26
          have F_s0 := F_s0.ext Ex26
          have FO_s0 := FO_s0.ext Ex26
          have E_o0 := E_o0.ext Ex26
          have FC_o0 := FC_o0.ext Ex26
          have FV_o0 := FV_o0.ext Ex26
          have V_d0 := V_d0.ext Ex26
          have S_NOT_EQUAL := S_NOT_EQUAL.ext Ex26
          have E_s1 := E_s1.ext Ex26
          have F_s1 := F_s1.ext Ex26
          have FO_s1 := FO_s1.ext Ex26
          have E_o1 := E_o1.ext Ex26
          have FC_o1 := FC_o1.ext Ex26
          have FV_o1 := FV_o1.ext Ex26
          have V_d1 := V_d1.ext Ex26
          have S_LESS := S_LESS.ext Ex26
          have E_s2 := E_s2.ext Ex26
          have F_s2 := F_s2.ext Ex26
          have FO_s2 := FO_s2.ext Ex26
          have E_o2 := E_o2.ext Ex26
          have FC_o2 := FC_o2.ext Ex26
          have FV_o2 := FV_o2.ext Ex26
          have V_d2 := V_d2.ext Ex26
          have S_LESS_OR_EQUAL := S_LESS_OR_EQUAL.ext Ex26
          have E_s3 := E_s3.ext Ex26
          have F_s3 := F_s3.ext Ex26
          have FO_s3 := FO_s3.ext Ex26
          have E_o3 := E_o3.ext Ex26
          have FC_o3 := FC_o3.ext Ex26
          have FV_o3 := FV_o3.ext Ex26
          have V_d3 := V_d3.ext Ex26
          have S_GREATER := S_GREATER.ext Ex26
          have E_s4 := E_s4.ext Ex26
          have F_s4 := F_s4.ext Ex26
          have FO_s4 := FO_s4.ext Ex26
          have E_o4 := E_o4.ext Ex26
          have FC_o4 := FC_o4.ext Ex26
          have FV_o4 := FV_o4.ext Ex26
          have V_d4 := V_d4.ext Ex26
          have S_GREATER_OR_EQUAL := S_GREATER_OR_EQUAL.ext Ex26
          have E_s5 := E_s5.ext Ex26
          have F_s5 := F_s5.ext Ex26
          have FO_s5 := FO_s5.ext Ex26
          have E_o5 := E_o5.ext Ex26
          have FC_o5 := FC_o5.ext Ex26
          have FV_o5 := FV_o5.ext Ex26
          have V_d5 := V_d5.ext Ex26
          have Zs27 := Nat.le_trans Z0 Ex26.1
          have hk := Nat.le_trans hk Ex26.1
          have hk : T26.heap.size ≤ (T26.heap).size := Nat.le_of_eq (congrArg Array.size (show T26.heap = T26.heap from rfl))
          refine GoW.tr (S' := T26.setTop (mkF m 101 #[.val (.int p0), .val (.int ((p0 &&& (2147483647 : Int32)) % (6 : Int32))), .val (.ref s3), .val (.int (1 : Int32)), .val (.int (1 : Int32)), .val (.ref o3), .unset] [(.int (1 : Int32))])) st26 ?_
          refine GoW.st (S' := T26.setTop (mkF m 103 #[.val (.int p0), .val (.int ((p0 &&& (2147483647 : Int32)) % (6 : Int32))), .val (.ref s3), .val (.int (1 : Int32)), .val (.int (1 : Int32)), .val (.ref o3), .unset] [(.ref o3), (.int (1 : Int32))])) (fun _ kk => XS.aload X26.here hx rfl (hb hby at_101) rfl rfl kk) ?_
          refine GoW.st (S' := T26.setTop (mkF m 104 #[.val (.int p0), .val (.int ((p0 &&& (2147483647 : Int32)) % (6 : Int32))), .val (.ref s3), .val (.int (1 : Int32)), .val (.int (1 : Int32)), .val (.ref o3), .unset] [(.int (1 : Int32)), (.ref o3), (.int (1 : Int32))])) (fun _ kk => XS.iconst X26.here hx rfl (hb hby at_103) kk) ?_
          obtain ⟨_, _, ⟨T28, L28, k28, n28⟩, -, X28, hS28, hg28, ⟨Lc28, hQ28, l28, y28, z28⟩, st28⟩ := callSS X26 hx (y := (⟨"com/example/winj/winj/storage/ComparisonOrdersPinLaw", "holds", "(Ljava/lang/String;I)Z"⟩ : MethodName)) hown (mvT hZ (hw _ (List.mem_of_getElem? (i := 17) rfl))) (mvT hZ (hw _ (List.mem_of_getElem? (i := 18) rfl))) (mvT hZ (hw _ (List.mem_of_getElem? (i := 19) rfl))) (mvT hZ (hw _ (List.mem_of_getElem? (i := 20) rfl))) (by decide) (own_backS (W := 1) (P := PV_a3 Z la0 la1 la2 la3) (rmHa3 l Z az hw [] o3 (1 : Int32) zc d3 kd3 la0 lb0 lk0 la1 lb1 lk1 la2 lb2 lk2 la3 lb3 lk3 T26.heap hC hcw nz O_z S_C hzc E_o3 FC_o3 FV_o3 V_d3 El0 Cl0 Vl0 Al0 El1 Cl1 Vl1 Al1 El2 Cl2 Vl2 Al2 El3 Cl3 Vl3 Al3 rfl) hZ (hw _ (List.mem_of_getElem? (i := 20) rfl)) (hw _ (List.mem_of_getElem? (i := 19) rfl)) (by decide) (by decide)) (g := (mkF m 104 #[.val (.int p0), .val (.int ((p0 &&& (2147483647 : Int32)) % (6 : Int32))), .val (.ref s3), .val (.int (1 : Int32)), .val (.int (1 : Int32)), .val (.ref o3), .unset] [(.int (1 : Int32)), (.ref o3), (.int (1 : Int32))])) rfl (by rw [hml]; rfl) (argsL := [(.ref o3), (.int (1 : Int32))]) (rest := [(.int (1 : Int32))]) (lenOf pd_2 rfl) rfl (by show 2 * 0 + _ ≤ _; exact Nat.le_of_eq rfl) (hb hby at_104) (fun vmq hvq => ⟨rfl, rfl, ⟨LitV.stays (s := s) Li0 hvq.wide, LitV.stays (s := s) Li1 hvq.wide, LitV.stays (s := s) Li2 hvq.wide, LitV.stays (s := s) Li3 hvq.wide⟩, (by decide : 8 + 0 ≤ _), (by decide : 40 + 0 ≤ _)⟩)
          dsimp only [Pt.U, Pt.locs, Pt.cells, Pt.slots] at X28 l28 y28 z28 st28 hQ28 hS28 hg28
          subst l28 y28 z28
          have Li0 := LitV.stays (s := s) Li0 hS28.1
          have Li1 := LitV.stays (s := s) Li1 hS28.1
          have Li2 := LitV.stays (s := s) Li2 hS28.1
          have Li3 := LitV.stays (s := s) Li3 hS28.1
          obtain ⟨X28, hS, hZ, hown⟩ := rebS hS (own_hk rfl hk) X28 hS28 hg28 hZ hown
          obtain ⟨rfl, N28q, e28⟩ := hQ28
          have N28 := Fr.app N26 (own_frm N28q Zs27)
          have hk : T28.heap.size ≤ (T26.heap).size := Nat.le_of_eq (congrArg Array.size (show T28.heap = T26.heap from e28))
          refine GoW.tr (S' := T28.setTop (mkF m 107 #[.val (.int p0), .val (.int ((p0 &&& (2147483647 : Int32)) % (6 : Int32))), .val (.ref s3), .val (.int (1 : Int32)), .val (.int (1 : Int32)), .val (.ref o3), .unset] [(.int (0 : Int32)), (.int (1 : Int32))])) st28 ?_
          refine GoW.st (S' := T28.setTop (mkF m 110 #[.val (.int p0), .val (.int ((p0 &&& (2147483647 : Int32)) % (6 : Int32))), .val (.ref s3), .val (.int (1 : Int32)), .val (.int (1 : Int32)), .val (.ref o3), .unset] [])) (fun _ kk => XS.icmpNo X28.here hx rfl (hb hby at_107) rfl (feq (by decide : ¬ ((1 : Int32) = (0 : Int32)))).1 kk) ?_
          refine GoW.st (S' := T28.setTop (mkF m 111 #[.val (.int p0), .val (.int ((p0 &&& (2147483647 : Int32)) % (6 : Int32))), .val (.ref s3), .val (.int (1 : Int32)), .val (.int (1 : Int32)), .val (.ref o3), .unset] [(.int (1 : Int32))])) (fun _ kk => XS.iconst X28.here hx rfl (hb hby at_110) kk) ?_
          refine GoW.st (S' := T28.setTop (mkF m 115 #[.val (.int p0), .val (.int ((p0 &&& (2147483647 : Int32)) % (6 : Int32))), .val (.ref s3), .val (.int (1 : Int32)), .val (.int (1 : Int32)), .val (.ref o3), .unset] [(.int (1 : Int32))])) (fun _ kk => XS.goto X28.here hx rfl (pc0 := 111) (pc' := 115) rfl (hb hby at_111) (by decide) (by decide) kk) ?_
          refine GoW.st (S' := T28.setTop (mkF m 117 #[.val (.int p0), .val (.int ((p0 &&& (2147483647 : Int32)) % (6 : Int32))), .val (.ref s3), .val (.int (1 : Int32)), .val (.int (1 : Int32)), .val (.ref o3), .val (.int (1 : Int32))] [])) (fun _ kk => XS.istore X28.here hx rfl (hb hby at_115) rfl (l' := #[.val (.int p0), .val (.int ((p0 &&& (2147483647 : Int32)) % (6 : Int32))), .val (.ref s3), .val (.int (1 : Int32)), .val (.int (1 : Int32)), .val (.ref o3), .val (.int (1 : Int32))]) rfl kk) ?_
          refine GoW.st (S' := T28.setTop (mkF m 119 #[.val (.int p0), .val (.int ((p0 &&& (2147483647 : Int32)) % (6 : Int32))), .val (.ref s3), .val (.int (1 : Int32)), .val (.int (1 : Int32)), .val (.ref o3), .val (.int (1 : Int32))] [(.int (1 : Int32))])) (fun _ kk => XS.iload X28.here hx rfl (hb hby at_117) rfl kk) ?_
          refine GoW.st (S' := T28.setTop (mkF m 120 #[.val (.int p0), .val (.int ((p0 &&& (2147483647 : Int32)) % (6 : Int32))), .val (.ref s3), .val (.int (1 : Int32)), .val (.int (1 : Int32)), .val (.ref o3), .val (.int (1 : Int32))] [(.int (1 : Int32)), (.int (1 : Int32))])) (fun _ kk => XS.iloadN X28.here hx rfl (hb hby at_119) rfl kk) ?_
          refine GoW.st (S' := T28.setTop (mkF m 123 #[.val (.int p0), .val (.int ((p0 &&& (2147483647 : Int32)) % (6 : Int32))), .val (.ref s3), .val (.int (1 : Int32)), .val (.int (1 : Int32)), .val (.ref o3), .val (.int (1 : Int32))] [])) (fun _ kk => XS.icmpNo X28.here hx rfl (hb hby at_120) rfl (teq (by decide : (1 : Int32) = (1 : Int32))).2 kk) ?_
          refine GoW.st (S' := T28.setTop (mkF m 125 #[.val (.int p0), .val (.int ((p0 &&& (2147483647 : Int32)) % (6 : Int32))), .val (.ref s3), .val (.int (1 : Int32)), .val (.int (1 : Int32)), .val (.ref o3), .val (.int (1 : Int32))] [(.int (1 : Int32))])) (fun _ kk => XS.iload X28.here hx rfl (hb hby at_123) rfl kk) ?_
          refine GoW.st (S' := T28.setTop (mkF m 127 #[.val (.int p0), .val (.int ((p0 &&& (2147483647 : Int32)) % (6 : Int32))), .val (.ref s3), .val (.int (1 : Int32)), .val (.int (1 : Int32)), .val (.ref o3), .val (.int (1 : Int32))] [(.int (1 : Int32)), (.int (1 : Int32))])) (fun _ kk => XS.iload X28.here hx rfl (hb hby at_125) rfl kk) ?_
          refine GoW.st (S' := T28.setTop (mkF m 130 #[.val (.int p0), .val (.int ((p0 &&& (2147483647 : Int32)) % (6 : Int32))), .val (.ref s3), .val (.int (1 : Int32)), .val (.int (1 : Int32)), .val (.ref o3), .val (.int (1 : Int32))] [])) (fun _ kk => XS.icmpNo X28.here hx rfl (hb hby at_127) rfl (teq (by decide : (1 : Int32) = (1 : Int32))).2 kk) ?_
          refine GoW.st (S' := T28.setTop (mkF m 131 #[.val (.int p0), .val (.int ((p0 &&& (2147483647 : Int32)) % (6 : Int32))), .val (.ref s3), .val (.int (1 : Int32)), .val (.int (1 : Int32)), .val (.ref o3), .val (.int (1 : Int32))] [(.int (1 : Int32))])) (fun _ kk => XS.iconst X28.here hx rfl (hb hby at_130) kk) ?_
          refine GoW.st (S' := T28.setTop (mkF m 135 #[.val (.int p0), .val (.int ((p0 &&& (2147483647 : Int32)) % (6 : Int32))), .val (.ref s3), .val (.int (1 : Int32)), .val (.int (1 : Int32)), .val (.ref o3), .val (.int (1 : Int32))] [(.int (1 : Int32))])) (fun _ kk => XS.goto X28.here hx rfl (pc0 := 131) (pc' := 135) rfl (hb hby at_131) (by decide) (by decide) kk) ?_
          exact GoW.retN X28 hx hlk hS (own_hk e28 hk) (t := .boolean) Bd.returns (by simp) (hb hby at_135) (⟨rfl, hn0 ▸ N28⟩) (by decide) (by decide)
        · refine GoW.st (S' := s₁.setTop (mkF m 63 #[.val (.int p0), .val (.int ((p0 &&& (2147483647 : Int32)) % (6 : Int32))), .unset, .unset, .unset, .unset, .unset] [])) (fun _ kk => XS.icmpYes X0.here hx rfl (pc0 := 51) (pc' := 63) rfl (hb hby at_51) rfl (feq hc22).2 (by decide) (by decide) kk) ?_
          refine GoW.st (S' := s₁.setTop (mkF m 64 #[.val (.int p0), .val (.int ((p0 &&& (2147483647 : Int32)) % (6 : Int32))), .unset, .unset, .unset, .unset, .unset] [(.int ((p0 &&& (2147483647 : Int32)) % (6 : Int32)))])) (fun _ kk => XS.iloadN X0.here hx rfl (hb hby at_63) rfl kk) ?_
          refine GoW.st (S' := s₁.setTop (mkF m 65 #[.val (.int p0), .val (.int ((p0 &&& (2147483647 : Int32)) % (6 : Int32))), .unset, .unset, .unset, .unset, .unset] [(.int (4 : Int32)), (.int ((p0 &&& (2147483647 : Int32)) % (6 : Int32)))])) (fun _ kk => XS.iconst X0.here hx rfl (hb hby at_64) kk) ?_
          by_cases hc29 : ((p0 &&& (2147483647 : Int32)) % (6 : Int32)) = (4 : Int32)
          · refine GoW.st (S' := s₁.setTop (mkF m 68 #[.val (.int p0), .val (.int ((p0 &&& (2147483647 : Int32)) % (6 : Int32))), .unset, .unset, .unset, .unset, .unset] [])) (fun _ kk => XS.icmpNo X0.here hx rfl (hb hby at_65) rfl (teq hc29).2 kk) ?_
            obtain ⟨T30, X30, e30, st30⟩ := getS2 X0 hx hZ hown (host := "") (Or.inl (hw _ (List.mem_of_getElem? (i := 57) rfl))) Via.refl e0 S_GREATER (g := (mkF m 68 #[.val (.int p0), .val (.int ((p0 &&& (2147483647 : Int32)) % (6 : Int32))), .unset, .unset, .unset, .unset, .unset] [])) rfl (hb hby at_68)
            refine GoW.st (S' := T30.setTop (mkF m 71 #[.val (.int p0), .val (.int ((p0 &&& (2147483647 : Int32)) % (6 : Int32))), .unset, .unset, .unset, .unset, .unset] [(.ref s4)])) st30 ?_
            refine GoW.st (S' := T30.setTop (mkF m 72 #[.val (.int p0), .val (.int ((p0 &&& (2147483647 : Int32)) % (6 : Int32))), .val (.ref s4), .unset, .unset, .unset, .unset] [])) (fun _ kk => XS.astoreN X30.here hx rfl (hb hby at_71) rfl rfl (l' := #[.val (.int p0), .val (.int ((p0 &&& (2147483647 : Int32)) % (6 : Int32))), .val (.ref s4), .unset, .unset, .unset, .unset]) rfl kk) ?_
            refine GoW.st (S' := T30.setTop (mkF m 73 #[.val (.int p0), .val (.int ((p0 &&& (2147483647 : Int32)) % (6 : Int32))), .val (.ref s4), .unset, .unset, .unset, .unset] [(.int (1 : Int32))])) (fun _ kk => XS.iconst X30.here hx rfl (hb hby at_72) kk) ?_
            refine GoW.st (S' := T30.setTop (mkF m 74 #[.val (.int p0), .val (.int ((p0 &&& (2147483647 : Int32)) % (6 : Int32))), .val (.ref s4), .val (.int (1 : Int32)), .unset, .unset, .unset] [])) (fun _ kk => XS.istoreN X30.here hx rfl (hb hby at_73) rfl (l' := #[.val (.int p0), .val (.int ((p0 &&& (2147483647 : Int32)) % (6 : Int32))), .val (.ref s4), .val (.int (1 : Int32)), .unset, .unset, .unset]) rfl kk) ?_
            refine GoW.st (S' := T30.setTop (mkF m 83 #[.val (.int p0), .val (.int ((p0 &&& (2147483647 : Int32)) % (6 : Int32))), .val (.ref s4), .val (.int (1 : Int32)), .unset, .unset, .unset] [])) (fun _ kk => XS.goto X30.here hx rfl (pc0 := 74) (pc' := 83) rfl (hb hby at_74) (by decide) (by decide) kk) ?_
            refine GoW.st (S' := T30.setTop (mkF m 84 #[.val (.int p0), .val (.int ((p0 &&& (2147483647 : Int32)) % (6 : Int32))), .val (.ref s4), .val (.int (1 : Int32)), .unset, .unset, .unset] [(.ref s4)])) (fun _ kk => XS.aloadN X30.here hx rfl (hb hby at_83) rfl rfl kk) ?_
            obtain ⟨cq31, kq31, q31a, q31b, q31c⟩ := isOf hZ e30 E_s4
            obtain ⟨_, _, ⟨T31, L31, k31, n31⟩, -, X31, ⟨Lc31, hQ31, l31, y31, z31⟩, st31⟩ := X30.virtualBack hx (y := (⟨"com/example/winj/winj/storage/Comparison", "orders", "()Z"⟩ : MethodName)) (z := (⟨"com/example/winj/winj/storage/Comparison", "orders", "()Z"⟩ : MethodName)) hown (mvT hZ (hw _ (List.mem_of_getElem? (i := 4) rfl))) (mvT hZ (hw _ (List.mem_of_getElem? (i := 5) rfl))) (notFace_of_selects (args := #[]) (mvT hZ (hw _ (List.mem_of_getElem? (i := 7) rfl)))) (mvT hZ (hw _ (List.mem_of_getElem? (i := 7) rfl))) (mvT hZ (hw _ (List.mem_of_getElem? (i := 6) rfl))) (by decide) (backOf (W := 0) (rmOr2 l Z az hw [] s4 s0 s1 h0 n0 Z0 S_EQUAL S_NOT_EQUAL ne_4_0 ne_4_1) hZ (hw _ (List.mem_of_getElem? (i := 8) rfl)) (hw _ (List.mem_of_getElem? (i := 2) rfl)) (by decide) (by decide)) q31a q31c (g := (mkF m 84 #[.val (.int p0), .val (.int ((p0 &&& (2147483647 : Int32)) % (6 : Int32))), .val (.ref s4), .val (.int (1 : Int32)), .unset, .unset, .unset] [(.ref s4)])) rfl (by rw [hml]; rfl) (Steps.refl _) (argsL := []) (rest := []) (lenOf pd_0 rfl) rfl (by show 2 * 0 + _ ≤ _; exact Nat.le_of_eq rfl) (hb hby at_84) (fun _ _ => ⟨rfl, e30, (by decide : 0 + 0 ≤ _), (by decide : 0 + 0 ≤ _)⟩)
            dsimp only [Pt.U, Pt.locs, Pt.cells, Pt.slots] at X31 l31 y31 z31 st31 hQ31
            subst l31 y31 z31
            obtain ⟨rfl, N31q, e31⟩ := hQ31
            have N31 := Fr.app N0 N31q
            refine GoW.tr (S' := T31.setTop (mkF m 87 #[.val (.int p0), .val (.int ((p0 &&& (2147483647 : Int32)) % (6 : Int32))), .val (.ref s4), .val (.int (1 : Int32)), .unset, .unset, .unset] [(.int (1 : Int32))])) st31 ?_
            refine GoW.st (S' := T31.setTop (mkF m 89 #[.val (.int p0), .val (.int ((p0 &&& (2147483647 : Int32)) % (6 : Int32))), .val (.ref s4), .val (.int (1 : Int32)), .val (.int (1 : Int32)), .unset, .unset] [])) (fun _ kk => XS.istore X31.here hx rfl (hb hby at_87) rfl (l' := #[.val (.int p0), .val (.int ((p0 &&& (2147483647 : Int32)) % (6 : Int32))), .val (.ref s4), .val (.int (1 : Int32)), .val (.int (1 : Int32)), .unset, .unset]) rfl kk) ?_
            refine GoW.st (S' := T31.setTop (mkF m 90 #[.val (.int p0), .val (.int ((p0 &&& (2147483647 : Int32)) % (6 : Int32))), .val (.ref s4), .val (.int (1 : Int32)), .val (.int (1 : Int32)), .unset, .unset] [(.ref s4)])) (fun _ kk => XS.aloadN X31.here hx rfl (hb hby at_89) rfl rfl kk) ?_
            obtain ⟨cq32, kq32, q32a, q32b, q32c⟩ := isOf hZ e31 E_s4
            obtain ⟨_, _, ⟨T32, L32, k32, n32⟩, -, X32, ⟨Lc32, hQ32, l32, y32, z32⟩, st32⟩ := X31.virtualBack hx (y := (⟨"com/example/winj/winj/storage/Comparison", "operator", "()Ljava/lang/String;"⟩ : MethodName)) (z := (⟨"com/example/winj/winj/storage/Comparison", "operator", "()Ljava/lang/String;"⟩ : MethodName)) hown (mvT hZ (hw _ (List.mem_of_getElem? (i := 10) rfl))) (mvT hZ (hw _ (List.mem_of_getElem? (i := 11) rfl))) (notFace_of_selects (args := #[]) (mvT hZ (hw _ (List.mem_of_getElem? (i := 13) rfl)))) (mvT hZ (hw _ (List.mem_of_getElem? (i := 13) rfl))) (mvT hZ (hw _ (List.mem_of_getElem? (i := 12) rfl))) (by decide) (backOf (W := 0) (rmOp l Z az hw [] s4 o4 h0 n0 Z0 FO_s4) hZ (hw _ (List.mem_of_getElem? (i := 14) rfl)) (hw _ (List.mem_of_getElem? (i := 2) rfl)) (by decide) (by decide)) q32a q32c (g := (mkF m 90 #[.val (.int p0), .val (.int ((p0 &&& (2147483647 : Int32)) % (6 : Int32))), .val (.ref s4), .val (.int (1 : Int32)), .val (.int (1 : Int32)), .unset, .unset] [(.ref s4)])) rfl (by rw [hml]; rfl) (Steps.refl _) (argsL := []) (rest := []) (lenOf pd_1 rfl) rfl (by show 2 * 0 + _ ≤ _; exact Nat.le_of_eq rfl) (hb hby at_90) (fun _ _ => ⟨rfl, e31, (by decide : 0 + 0 ≤ _), (by decide : 0 + 0 ≤ _)⟩)
            dsimp only [Pt.U, Pt.locs, Pt.cells, Pt.slots] at X32 l32 y32 z32 st32 hQ32
            subst l32 y32 z32
            obtain ⟨rfl, N32q, e32⟩ := hQ32
            have N32 := Fr.app N31 N32q
            refine GoW.tr (S' := T32.setTop (mkF m 93 #[.val (.int p0), .val (.int ((p0 &&& (2147483647 : Int32)) % (6 : Int32))), .val (.ref s4), .val (.int (1 : Int32)), .val (.int (1 : Int32)), .unset, .unset] [(.ref o4)])) st32 ?_
            refine GoW.st (S' := T32.setTop (mkF m 95 #[.val (.int p0), .val (.int ((p0 &&& (2147483647 : Int32)) % (6 : Int32))), .val (.ref s4), .val (.int (1 : Int32)), .val (.int (1 : Int32)), .val (.ref o4), .unset] [])) (fun _ kk => XS.astore X32.here hx rfl (hb hby at_93) rfl rfl (l' := #[.val (.int p0), .val (.int ((p0 &&& (2147483647 : Int32)) % (6 : Int32))), .val (.ref s4), .val (.int (1 : Int32)), .val (.int (1 : Int32)), .val (.ref o4), .unset]) rfl kk) ?_
            refine GoW.st (S' := T32.setTop (mkF m 97 #[.val (.int p0), .val (.int ((p0 &&& (2147483647 : Int32)) % (6 : Int32))), .val (.ref s4), .val (.int (1 : Int32)), .val (.int (1 : Int32)), .val (.ref o4), .unset] [(.ref o4)])) (fun _ kk => XS.aload X32.here hx rfl (hb hby at_95) rfl rfl kk) ?_
            refine GoW.st (S' := T32.setTop (mkF m 98 #[.val (.int p0), .val (.int ((p0 &&& (2147483647 : Int32)) % (6 : Int32))), .val (.ref s4), .val (.int (1 : Int32)), .val (.int (1 : Int32)), .val (.ref o4), .unset] [(.int (-1 : Int32)), (.ref o4)])) (fun _ kk => XS.iconst X32.here hx rfl (hb hby at_97) kk) ?_
            obtain ⟨_, _, ⟨T33, L33, k33, n33⟩, -, X33, hS33, hg33, ⟨Lc33, hQ33, l33, y33, z33⟩, st33⟩ := callSS X32 hx (y := (⟨"com/example/winj/winj/storage/ComparisonOrdersPinLaw", "holds", "(Ljava/lang/String;I)Z"⟩ : MethodName)) hown (mvT hZ (hw _ (List.mem_of_getElem? (i := 17) rfl))) (mvT hZ (hw _ (List.mem_of_getElem? (i := 18) rfl))) (mvT hZ (hw _ (List.mem_of_getElem? (i := 19) rfl))) (mvT hZ (hw _ (List.mem_of_getElem? (i := 20) rfl))) (by decide) (own_backS (W := 0) (P := PV0 Z) (rmHf4 l Z az hw [] o4 (-1 : Int32) zc d4 kd4 h0 hC hcw nz O_z S_C hzc E_o4 FC_o4 FV_o4 V_d4 rfl) hZ (hw _ (List.mem_of_getElem? (i := 20) rfl)) (hw _ (List.mem_of_getElem? (i := 19) rfl)) (by decide) (by decide)) (g := (mkF m 98 #[.val (.int p0), .val (.int ((p0 &&& (2147483647 : Int32)) % (6 : Int32))), .val (.ref s4), .val (.int (1 : Int32)), .val (.int (1 : Int32)), .val (.ref o4), .unset] [(.int (-1 : Int32)), (.ref o4)])) rfl (by rw [hml]; rfl) (argsL := [(.ref o4), (.int (-1 : Int32))]) (rest := []) (lenOf pd_2 rfl) rfl (by show 2 * 0 + _ ≤ _; exact Nat.le_of_eq rfl) (hb hby at_98) (fun vmq hvq => ⟨rfl, e32, own_ib I hvq, (by decide : 0 + 10 ≤ _), (by decide : 0 + 48 ≤ _)⟩)
            dsimp only [Pt.U, Pt.locs, Pt.cells, Pt.slots] at X33 l33 y33 z33 st33 hQ33 hS33 hg33
            subst l33 y33 z33
            obtain ⟨X33, hS, hZ, hown⟩ := rebS hS (own_hk e32 hk) X33 hS33 hg33 hZ hown
            obtain ⟨rfl, N33q, Ex33, la0, lb0, lk0, la1, lb1, lk1, la2, lb2, lk2, la3, lb3, lk3, la4, lb4, lk4, ⟨Li0, El0, Cl0, Vl0, Al0⟩, ⟨Li1, El1, Cl1, Vl1, Al1⟩, ⟨Li2, El2, Cl2, Vl2, Al2⟩, ⟨Li3, El3, Cl3, Vl3, Al3⟩, ⟨Li4, El4, Cl4, Vl4, Al4⟩⟩ := hQ33
            have N33 := Fr.app N32 (own_frm N33q Z0)
            have O_z := O_z.ext Ex33
            have S_C := S_C.ext Ex33
            have S_EQUAL := S_EQUAL.ext Ex33
            have E_s0 := E_s0.ext Ex33
            have F_s0 := F_s0.ext Ex33
            have FO_s0 := FO_s0.ext Ex33
            have E_o0 := E_o0.ext Ex33
            have FC_o0 := FC_o0.ext Ex33
            have FV_o0 := FV_o0.ext Ex33
            have V_d0 := V_d0.ext Ex33
            have S_NOT_EQUAL := S_NOT_EQUAL.ext Ex33
            have E_s1 := E_s1.ext Ex33
            have F_s1 := F_s1.ext Ex33
            have FO_s1 := FO_s1.ext Ex33
            have E_o1 := E_o1.ext Ex33
            have FC_o1 := FC_o1.ext Ex33
            have FV_o1 := FV_o1.ext Ex33
            have V_d1 := V_d1.ext Ex33
            have S_LESS := S_LESS.ext Ex33
            have E_s2 := E_s2.ext Ex33
            have F_s2 := F_s2.ext Ex33
            have FO_s2 := FO_s2.ext Ex33
            have E_o2 := E_o2.ext Ex33
            have FC_o2 := FC_o2.ext Ex33
            have FV_o2 := FV_o2.ext Ex33
            have V_d2 := V_d2.ext Ex33
            have S_LESS_OR_EQUAL := S_LESS_OR_EQUAL.ext Ex33
            have E_s3 := E_s3.ext Ex33
            have F_s3 := F_s3.ext Ex33
            have FO_s3 := FO_s3.ext Ex33
            have E_o3 := E_o3.ext Ex33
            have FC_o3 := FC_o3.ext Ex33
            have FV_o3 := FV_o3.ext Ex33
            have V_d3 := V_d3.ext Ex33
            have S_GREATER := S_GREATER.ext Ex33
            have E_s4 := E_s4.ext Ex33
            have F_s4 := F_s4.ext Ex33
            have FO_s4 := FO_s4.ext Ex33
            have E_o4 := E_o4.ext Ex33
            have FC_o4 := FC_o4.ext Ex33
            have FV_o4 := FV_o4.ext Ex33
            have V_d4 := V_d4.ext Ex33
            have S_GREATER_OR_EQUAL := S_GREATER_OR_EQUAL.ext Ex33
            have E_s5 := E_s5.ext Ex33
            have F_s5 := F_s5.ext Ex33
            have FO_s5 := FO_s5.ext Ex33
            have E_o5 := E_o5.ext Ex33
            have FC_o5 := FC_o5.ext Ex33
            have FV_o5 := FV_o5.ext Ex33
            have V_d5 := V_d5.ext Ex33
            have Zs34 := Nat.le_trans Z0 Ex33.1
            have hk := Nat.le_trans hk Ex33.1
            have hk : T33.heap.size ≤ (T33.heap).size := Nat.le_of_eq (congrArg Array.size (show T33.heap = T33.heap from rfl))
            refine GoW.tr (S' := T33.setTop (mkF m 101 #[.val (.int p0), .val (.int ((p0 &&& (2147483647 : Int32)) % (6 : Int32))), .val (.ref s4), .val (.int (1 : Int32)), .val (.int (1 : Int32)), .val (.ref o4), .unset] [(.int (0 : Int32))])) st33 ?_
            refine GoW.st (S' := T33.setTop (mkF m 103 #[.val (.int p0), .val (.int ((p0 &&& (2147483647 : Int32)) % (6 : Int32))), .val (.ref s4), .val (.int (1 : Int32)), .val (.int (1 : Int32)), .val (.ref o4), .unset] [(.ref o4), (.int (0 : Int32))])) (fun _ kk => XS.aload X33.here hx rfl (hb hby at_101) rfl rfl kk) ?_
            refine GoW.st (S' := T33.setTop (mkF m 104 #[.val (.int p0), .val (.int ((p0 &&& (2147483647 : Int32)) % (6 : Int32))), .val (.ref s4), .val (.int (1 : Int32)), .val (.int (1 : Int32)), .val (.ref o4), .unset] [(.int (1 : Int32)), (.ref o4), (.int (0 : Int32))])) (fun _ kk => XS.iconst X33.here hx rfl (hb hby at_103) kk) ?_
            obtain ⟨_, _, ⟨T35, L35, k35, n35⟩, -, X35, hS35, hg35, ⟨Lc35, hQ35, l35, y35, z35⟩, st35⟩ := callSS X33 hx (y := (⟨"com/example/winj/winj/storage/ComparisonOrdersPinLaw", "holds", "(Ljava/lang/String;I)Z"⟩ : MethodName)) hown (mvT hZ (hw _ (List.mem_of_getElem? (i := 17) rfl))) (mvT hZ (hw _ (List.mem_of_getElem? (i := 18) rfl))) (mvT hZ (hw _ (List.mem_of_getElem? (i := 19) rfl))) (mvT hZ (hw _ (List.mem_of_getElem? (i := 20) rfl))) (by decide) (own_backS (W := 1) (P := PV_a4 Z la0 la1 la2 la3 la4) (rmHa4 l Z az hw [] o4 (1 : Int32) zc d4 kd4 la0 lb0 lk0 la1 lb1 lk1 la2 lb2 lk2 la3 lb3 lk3 la4 lb4 lk4 T33.heap hC hcw nz O_z S_C hzc E_o4 FC_o4 FV_o4 V_d4 El0 Cl0 Vl0 Al0 El1 Cl1 Vl1 Al1 El2 Cl2 Vl2 Al2 El3 Cl3 Vl3 Al3 El4 Cl4 Vl4 Al4 rfl) hZ (hw _ (List.mem_of_getElem? (i := 20) rfl)) (hw _ (List.mem_of_getElem? (i := 19) rfl)) (by decide) (by decide)) (g := (mkF m 104 #[.val (.int p0), .val (.int ((p0 &&& (2147483647 : Int32)) % (6 : Int32))), .val (.ref s4), .val (.int (1 : Int32)), .val (.int (1 : Int32)), .val (.ref o4), .unset] [(.int (1 : Int32)), (.ref o4), (.int (0 : Int32))])) rfl (by rw [hml]; rfl) (argsL := [(.ref o4), (.int (1 : Int32))]) (rest := [(.int (0 : Int32))]) (lenOf pd_2 rfl) rfl (by show 2 * 0 + _ ≤ _; exact Nat.le_of_eq rfl) (hb hby at_104) (fun vmq hvq => ⟨rfl, rfl, ⟨LitV.stays (s := s) Li0 hvq.wide, LitV.stays (s := s) Li1 hvq.wide, LitV.stays (s := s) Li2 hvq.wide, LitV.stays (s := s) Li3 hvq.wide, LitV.stays (s := s) Li4 hvq.wide⟩, (by decide : 10 + 0 ≤ _), (by decide : 48 + 0 ≤ _)⟩)
            dsimp only [Pt.U, Pt.locs, Pt.cells, Pt.slots] at X35 l35 y35 z35 st35 hQ35 hS35 hg35
            subst l35 y35 z35
            have Li0 := LitV.stays (s := s) Li0 hS35.1
            have Li1 := LitV.stays (s := s) Li1 hS35.1
            have Li2 := LitV.stays (s := s) Li2 hS35.1
            have Li3 := LitV.stays (s := s) Li3 hS35.1
            have Li4 := LitV.stays (s := s) Li4 hS35.1
            obtain ⟨X35, hS, hZ, hown⟩ := rebS hS (own_hk rfl hk) X35 hS35 hg35 hZ hown
            obtain ⟨rfl, N35q, e35⟩ := hQ35
            have N35 := Fr.app N33 (own_frm N35q Zs34)
            have hk : T35.heap.size ≤ (T33.heap).size := Nat.le_of_eq (congrArg Array.size (show T35.heap = T33.heap from e35))
            refine GoW.tr (S' := T35.setTop (mkF m 107 #[.val (.int p0), .val (.int ((p0 &&& (2147483647 : Int32)) % (6 : Int32))), .val (.ref s4), .val (.int (1 : Int32)), .val (.int (1 : Int32)), .val (.ref o4), .unset] [(.int (1 : Int32)), (.int (0 : Int32))])) st35 ?_
            refine GoW.st (S' := T35.setTop (mkF m 110 #[.val (.int p0), .val (.int ((p0 &&& (2147483647 : Int32)) % (6 : Int32))), .val (.ref s4), .val (.int (1 : Int32)), .val (.int (1 : Int32)), .val (.ref o4), .unset] [])) (fun _ kk => XS.icmpNo X35.here hx rfl (hb hby at_107) rfl (feq (by decide : ¬ ((0 : Int32) = (1 : Int32)))).1 kk) ?_
            refine GoW.st (S' := T35.setTop (mkF m 111 #[.val (.int p0), .val (.int ((p0 &&& (2147483647 : Int32)) % (6 : Int32))), .val (.ref s4), .val (.int (1 : Int32)), .val (.int (1 : Int32)), .val (.ref o4), .unset] [(.int (1 : Int32))])) (fun _ kk => XS.iconst X35.here hx rfl (hb hby at_110) kk) ?_
            refine GoW.st (S' := T35.setTop (mkF m 115 #[.val (.int p0), .val (.int ((p0 &&& (2147483647 : Int32)) % (6 : Int32))), .val (.ref s4), .val (.int (1 : Int32)), .val (.int (1 : Int32)), .val (.ref o4), .unset] [(.int (1 : Int32))])) (fun _ kk => XS.goto X35.here hx rfl (pc0 := 111) (pc' := 115) rfl (hb hby at_111) (by decide) (by decide) kk) ?_
            refine GoW.st (S' := T35.setTop (mkF m 117 #[.val (.int p0), .val (.int ((p0 &&& (2147483647 : Int32)) % (6 : Int32))), .val (.ref s4), .val (.int (1 : Int32)), .val (.int (1 : Int32)), .val (.ref o4), .val (.int (1 : Int32))] [])) (fun _ kk => XS.istore X35.here hx rfl (hb hby at_115) rfl (l' := #[.val (.int p0), .val (.int ((p0 &&& (2147483647 : Int32)) % (6 : Int32))), .val (.ref s4), .val (.int (1 : Int32)), .val (.int (1 : Int32)), .val (.ref o4), .val (.int (1 : Int32))]) rfl kk) ?_
            refine GoW.st (S' := T35.setTop (mkF m 119 #[.val (.int p0), .val (.int ((p0 &&& (2147483647 : Int32)) % (6 : Int32))), .val (.ref s4), .val (.int (1 : Int32)), .val (.int (1 : Int32)), .val (.ref o4), .val (.int (1 : Int32))] [(.int (1 : Int32))])) (fun _ kk => XS.iload X35.here hx rfl (hb hby at_117) rfl kk) ?_
            refine GoW.st (S' := T35.setTop (mkF m 120 #[.val (.int p0), .val (.int ((p0 &&& (2147483647 : Int32)) % (6 : Int32))), .val (.ref s4), .val (.int (1 : Int32)), .val (.int (1 : Int32)), .val (.ref o4), .val (.int (1 : Int32))] [(.int (1 : Int32)), (.int (1 : Int32))])) (fun _ kk => XS.iloadN X35.here hx rfl (hb hby at_119) rfl kk) ?_
            refine GoW.st (S' := T35.setTop (mkF m 123 #[.val (.int p0), .val (.int ((p0 &&& (2147483647 : Int32)) % (6 : Int32))), .val (.ref s4), .val (.int (1 : Int32)), .val (.int (1 : Int32)), .val (.ref o4), .val (.int (1 : Int32))] [])) (fun _ kk => XS.icmpNo X35.here hx rfl (hb hby at_120) rfl (teq (by decide : (1 : Int32) = (1 : Int32))).2 kk) ?_
            refine GoW.st (S' := T35.setTop (mkF m 125 #[.val (.int p0), .val (.int ((p0 &&& (2147483647 : Int32)) % (6 : Int32))), .val (.ref s4), .val (.int (1 : Int32)), .val (.int (1 : Int32)), .val (.ref o4), .val (.int (1 : Int32))] [(.int (1 : Int32))])) (fun _ kk => XS.iload X35.here hx rfl (hb hby at_123) rfl kk) ?_
            refine GoW.st (S' := T35.setTop (mkF m 127 #[.val (.int p0), .val (.int ((p0 &&& (2147483647 : Int32)) % (6 : Int32))), .val (.ref s4), .val (.int (1 : Int32)), .val (.int (1 : Int32)), .val (.ref o4), .val (.int (1 : Int32))] [(.int (1 : Int32)), (.int (1 : Int32))])) (fun _ kk => XS.iload X35.here hx rfl (hb hby at_125) rfl kk) ?_
            refine GoW.st (S' := T35.setTop (mkF m 130 #[.val (.int p0), .val (.int ((p0 &&& (2147483647 : Int32)) % (6 : Int32))), .val (.ref s4), .val (.int (1 : Int32)), .val (.int (1 : Int32)), .val (.ref o4), .val (.int (1 : Int32))] [])) (fun _ kk => XS.icmpNo X35.here hx rfl (hb hby at_127) rfl (teq (by decide : (1 : Int32) = (1 : Int32))).2 kk) ?_
            refine GoW.st (S' := T35.setTop (mkF m 131 #[.val (.int p0), .val (.int ((p0 &&& (2147483647 : Int32)) % (6 : Int32))), .val (.ref s4), .val (.int (1 : Int32)), .val (.int (1 : Int32)), .val (.ref o4), .val (.int (1 : Int32))] [(.int (1 : Int32))])) (fun _ kk => XS.iconst X35.here hx rfl (hb hby at_130) kk) ?_
            refine GoW.st (S' := T35.setTop (mkF m 135 #[.val (.int p0), .val (.int ((p0 &&& (2147483647 : Int32)) % (6 : Int32))), .val (.ref s4), .val (.int (1 : Int32)), .val (.int (1 : Int32)), .val (.ref o4), .val (.int (1 : Int32))] [(.int (1 : Int32))])) (fun _ kk => XS.goto X35.here hx rfl (pc0 := 131) (pc' := 135) rfl (hb hby at_131) (by decide) (by decide) kk) ?_
            exact GoW.retN X35 hx hlk hS (own_hk e35 hk) (t := .boolean) Bd.returns (by simp) (hb hby at_135) (⟨rfl, hn0 ▸ N35⟩) (by decide) (by decide)
          · refine GoW.st (S' := s₁.setTop (mkF m 77 #[.val (.int p0), .val (.int ((p0 &&& (2147483647 : Int32)) % (6 : Int32))), .unset, .unset, .unset, .unset, .unset] [])) (fun _ kk => XS.icmpYes X0.here hx rfl (pc0 := 65) (pc' := 77) rfl (hb hby at_65) rfl (feq hc29).2 (by decide) (by decide) kk) ?_
            obtain ⟨T36, X36, e36, st36⟩ := getS2 X0 hx hZ hown (host := "") (Or.inl (hw _ (List.mem_of_getElem? (i := 53) rfl))) Via.refl e0 S_GREATER_OR_EQUAL (g := (mkF m 77 #[.val (.int p0), .val (.int ((p0 &&& (2147483647 : Int32)) % (6 : Int32))), .unset, .unset, .unset, .unset, .unset] [])) rfl (hb hby at_77)
            refine GoW.st (S' := T36.setTop (mkF m 80 #[.val (.int p0), .val (.int ((p0 &&& (2147483647 : Int32)) % (6 : Int32))), .unset, .unset, .unset, .unset, .unset] [(.ref s5)])) st36 ?_
            refine GoW.st (S' := T36.setTop (mkF m 81 #[.val (.int p0), .val (.int ((p0 &&& (2147483647 : Int32)) % (6 : Int32))), .val (.ref s5), .unset, .unset, .unset, .unset] [])) (fun _ kk => XS.astoreN X36.here hx rfl (hb hby at_80) rfl rfl (l' := #[.val (.int p0), .val (.int ((p0 &&& (2147483647 : Int32)) % (6 : Int32))), .val (.ref s5), .unset, .unset, .unset, .unset]) rfl kk) ?_
            refine GoW.st (S' := T36.setTop (mkF m 82 #[.val (.int p0), .val (.int ((p0 &&& (2147483647 : Int32)) % (6 : Int32))), .val (.ref s5), .unset, .unset, .unset, .unset] [(.int (1 : Int32))])) (fun _ kk => XS.iconst X36.here hx rfl (hb hby at_81) kk) ?_
            refine GoW.st (S' := T36.setTop (mkF m 83 #[.val (.int p0), .val (.int ((p0 &&& (2147483647 : Int32)) % (6 : Int32))), .val (.ref s5), .val (.int (1 : Int32)), .unset, .unset, .unset] [])) (fun _ kk => XS.istoreN X36.here hx rfl (hb hby at_82) rfl (l' := #[.val (.int p0), .val (.int ((p0 &&& (2147483647 : Int32)) % (6 : Int32))), .val (.ref s5), .val (.int (1 : Int32)), .unset, .unset, .unset]) rfl kk) ?_
            refine GoW.st (S' := T36.setTop (mkF m 84 #[.val (.int p0), .val (.int ((p0 &&& (2147483647 : Int32)) % (6 : Int32))), .val (.ref s5), .val (.int (1 : Int32)), .unset, .unset, .unset] [(.ref s5)])) (fun _ kk => XS.aloadN X36.here hx rfl (hb hby at_83) rfl rfl kk) ?_
            obtain ⟨cq37, kq37, q37a, q37b, q37c⟩ := isOf hZ e36 E_s5
            obtain ⟨_, _, ⟨T37, L37, k37, n37⟩, -, X37, ⟨Lc37, hQ37, l37, y37, z37⟩, st37⟩ := X36.virtualBack hx (y := (⟨"com/example/winj/winj/storage/Comparison", "orders", "()Z"⟩ : MethodName)) (z := (⟨"com/example/winj/winj/storage/Comparison", "orders", "()Z"⟩ : MethodName)) hown (mvT hZ (hw _ (List.mem_of_getElem? (i := 4) rfl))) (mvT hZ (hw _ (List.mem_of_getElem? (i := 5) rfl))) (notFace_of_selects (args := #[]) (mvT hZ (hw _ (List.mem_of_getElem? (i := 7) rfl)))) (mvT hZ (hw _ (List.mem_of_getElem? (i := 7) rfl))) (mvT hZ (hw _ (List.mem_of_getElem? (i := 6) rfl))) (by decide) (backOf (W := 0) (rmOr2 l Z az hw [] s5 s0 s1 h0 n0 Z0 S_EQUAL S_NOT_EQUAL ne_5_0 ne_5_1) hZ (hw _ (List.mem_of_getElem? (i := 8) rfl)) (hw _ (List.mem_of_getElem? (i := 2) rfl)) (by decide) (by decide)) q37a q37c (g := (mkF m 84 #[.val (.int p0), .val (.int ((p0 &&& (2147483647 : Int32)) % (6 : Int32))), .val (.ref s5), .val (.int (1 : Int32)), .unset, .unset, .unset] [(.ref s5)])) rfl (by rw [hml]; rfl) (Steps.refl _) (argsL := []) (rest := []) (lenOf pd_0 rfl) rfl (by show 2 * 0 + _ ≤ _; exact Nat.le_of_eq rfl) (hb hby at_84) (fun _ _ => ⟨rfl, e36, (by decide : 0 + 0 ≤ _), (by decide : 0 + 0 ≤ _)⟩)
            dsimp only [Pt.U, Pt.locs, Pt.cells, Pt.slots] at X37 l37 y37 z37 st37 hQ37
            subst l37 y37 z37
            obtain ⟨rfl, N37q, e37⟩ := hQ37
            have N37 := Fr.app N0 N37q
            refine GoW.tr (S' := T37.setTop (mkF m 87 #[.val (.int p0), .val (.int ((p0 &&& (2147483647 : Int32)) % (6 : Int32))), .val (.ref s5), .val (.int (1 : Int32)), .unset, .unset, .unset] [(.int (1 : Int32))])) st37 ?_
            refine GoW.st (S' := T37.setTop (mkF m 89 #[.val (.int p0), .val (.int ((p0 &&& (2147483647 : Int32)) % (6 : Int32))), .val (.ref s5), .val (.int (1 : Int32)), .val (.int (1 : Int32)), .unset, .unset] [])) (fun _ kk => XS.istore X37.here hx rfl (hb hby at_87) rfl (l' := #[.val (.int p0), .val (.int ((p0 &&& (2147483647 : Int32)) % (6 : Int32))), .val (.ref s5), .val (.int (1 : Int32)), .val (.int (1 : Int32)), .unset, .unset]) rfl kk) ?_
            refine GoW.st (S' := T37.setTop (mkF m 90 #[.val (.int p0), .val (.int ((p0 &&& (2147483647 : Int32)) % (6 : Int32))), .val (.ref s5), .val (.int (1 : Int32)), .val (.int (1 : Int32)), .unset, .unset] [(.ref s5)])) (fun _ kk => XS.aloadN X37.here hx rfl (hb hby at_89) rfl rfl kk) ?_
            obtain ⟨cq38, kq38, q38a, q38b, q38c⟩ := isOf hZ e37 E_s5
            obtain ⟨_, _, ⟨T38, L38, k38, n38⟩, -, X38, ⟨Lc38, hQ38, l38, y38, z38⟩, st38⟩ := X37.virtualBack hx (y := (⟨"com/example/winj/winj/storage/Comparison", "operator", "()Ljava/lang/String;"⟩ : MethodName)) (z := (⟨"com/example/winj/winj/storage/Comparison", "operator", "()Ljava/lang/String;"⟩ : MethodName)) hown (mvT hZ (hw _ (List.mem_of_getElem? (i := 10) rfl))) (mvT hZ (hw _ (List.mem_of_getElem? (i := 11) rfl))) (notFace_of_selects (args := #[]) (mvT hZ (hw _ (List.mem_of_getElem? (i := 13) rfl)))) (mvT hZ (hw _ (List.mem_of_getElem? (i := 13) rfl))) (mvT hZ (hw _ (List.mem_of_getElem? (i := 12) rfl))) (by decide) (backOf (W := 0) (rmOp l Z az hw [] s5 o5 h0 n0 Z0 FO_s5) hZ (hw _ (List.mem_of_getElem? (i := 14) rfl)) (hw _ (List.mem_of_getElem? (i := 2) rfl)) (by decide) (by decide)) q38a q38c (g := (mkF m 90 #[.val (.int p0), .val (.int ((p0 &&& (2147483647 : Int32)) % (6 : Int32))), .val (.ref s5), .val (.int (1 : Int32)), .val (.int (1 : Int32)), .unset, .unset] [(.ref s5)])) rfl (by rw [hml]; rfl) (Steps.refl _) (argsL := []) (rest := []) (lenOf pd_1 rfl) rfl (by show 2 * 0 + _ ≤ _; exact Nat.le_of_eq rfl) (hb hby at_90) (fun _ _ => ⟨rfl, e37, (by decide : 0 + 0 ≤ _), (by decide : 0 + 0 ≤ _)⟩)
            dsimp only [Pt.U, Pt.locs, Pt.cells, Pt.slots] at X38 l38 y38 z38 st38 hQ38
            subst l38 y38 z38
            obtain ⟨rfl, N38q, e38⟩ := hQ38
            have N38 := Fr.app N37 N38q
            refine GoW.tr (S' := T38.setTop (mkF m 93 #[.val (.int p0), .val (.int ((p0 &&& (2147483647 : Int32)) % (6 : Int32))), .val (.ref s5), .val (.int (1 : Int32)), .val (.int (1 : Int32)), .unset, .unset] [(.ref o5)])) st38 ?_
            refine GoW.st (S' := T38.setTop (mkF m 95 #[.val (.int p0), .val (.int ((p0 &&& (2147483647 : Int32)) % (6 : Int32))), .val (.ref s5), .val (.int (1 : Int32)), .val (.int (1 : Int32)), .val (.ref o5), .unset] [])) (fun _ kk => XS.astore X38.here hx rfl (hb hby at_93) rfl rfl (l' := #[.val (.int p0), .val (.int ((p0 &&& (2147483647 : Int32)) % (6 : Int32))), .val (.ref s5), .val (.int (1 : Int32)), .val (.int (1 : Int32)), .val (.ref o5), .unset]) rfl kk) ?_
            refine GoW.st (S' := T38.setTop (mkF m 97 #[.val (.int p0), .val (.int ((p0 &&& (2147483647 : Int32)) % (6 : Int32))), .val (.ref s5), .val (.int (1 : Int32)), .val (.int (1 : Int32)), .val (.ref o5), .unset] [(.ref o5)])) (fun _ kk => XS.aload X38.here hx rfl (hb hby at_95) rfl rfl kk) ?_
            refine GoW.st (S' := T38.setTop (mkF m 98 #[.val (.int p0), .val (.int ((p0 &&& (2147483647 : Int32)) % (6 : Int32))), .val (.ref s5), .val (.int (1 : Int32)), .val (.int (1 : Int32)), .val (.ref o5), .unset] [(.int (-1 : Int32)), (.ref o5)])) (fun _ kk => XS.iconst X38.here hx rfl (hb hby at_97) kk) ?_
            obtain ⟨_, _, ⟨T39, L39, k39, n39⟩, -, X39, hS39, hg39, ⟨Lc39, hQ39, l39, y39, z39⟩, st39⟩ := callSS X38 hx (y := (⟨"com/example/winj/winj/storage/ComparisonOrdersPinLaw", "holds", "(Ljava/lang/String;I)Z"⟩ : MethodName)) hown (mvT hZ (hw _ (List.mem_of_getElem? (i := 17) rfl))) (mvT hZ (hw _ (List.mem_of_getElem? (i := 18) rfl))) (mvT hZ (hw _ (List.mem_of_getElem? (i := 19) rfl))) (mvT hZ (hw _ (List.mem_of_getElem? (i := 20) rfl))) (by decide) (own_backS (W := 0) (P := PV0 Z) (rmHf5 l Z az hw [] o5 (-1 : Int32) zc d5 kd5 h0 hC hcw nz O_z S_C hzc E_o5 FC_o5 FV_o5 V_d5 rfl) hZ (hw _ (List.mem_of_getElem? (i := 20) rfl)) (hw _ (List.mem_of_getElem? (i := 19) rfl)) (by decide) (by decide)) (g := (mkF m 98 #[.val (.int p0), .val (.int ((p0 &&& (2147483647 : Int32)) % (6 : Int32))), .val (.ref s5), .val (.int (1 : Int32)), .val (.int (1 : Int32)), .val (.ref o5), .unset] [(.int (-1 : Int32)), (.ref o5)])) rfl (by rw [hml]; rfl) (argsL := [(.ref o5), (.int (-1 : Int32))]) (rest := []) (lenOf pd_2 rfl) rfl (by show 2 * 0 + _ ≤ _; exact Nat.le_of_eq rfl) (hb hby at_98) (fun vmq hvq => ⟨rfl, e38, own_ib I hvq, (by decide : 0 + 12 ≤ _), (by decide : 0 + 60 ≤ _)⟩)
            dsimp only [Pt.U, Pt.locs, Pt.cells, Pt.slots] at X39 l39 y39 z39 st39 hQ39 hS39 hg39
            subst l39 y39 z39
            obtain ⟨X39, hS, hZ, hown⟩ := rebS hS (own_hk e38 hk) X39 hS39 hg39 hZ hown
            obtain ⟨rfl, N39q, Ex39, la0, lb0, lk0, la1, lb1, lk1, la2, lb2, lk2, la3, lb3, lk3, la4, lb4, lk4, la5, lb5, lk5, ⟨Li0, El0, Cl0, Vl0, Al0⟩, ⟨Li1, El1, Cl1, Vl1, Al1⟩, ⟨Li2, El2, Cl2, Vl2, Al2⟩, ⟨Li3, El3, Cl3, Vl3, Al3⟩, ⟨Li4, El4, Cl4, Vl4, Al4⟩, ⟨Li5, El5, Cl5, Vl5, Al5⟩⟩ := hQ39
            have N39 := Fr.app N38 (own_frm N39q Z0)
            have O_z := O_z.ext Ex39
            have S_C := S_C.ext Ex39
            have S_EQUAL := S_EQUAL.ext Ex39
            have E_s0 := E_s0.ext Ex39
            have F_s0 := F_s0.ext Ex39
            have FO_s0 := FO_s0.ext Ex39
            have E_o0 := E_o0.ext Ex39
            have FC_o0 := FC_o0.ext Ex39
            have FV_o0 := FV_o0.ext Ex39
            have V_d0 := V_d0.ext Ex39
            have S_NOT_EQUAL := S_NOT_EQUAL.ext Ex39
            have E_s1 := E_s1.ext Ex39
            have F_s1 := F_s1.ext Ex39
            have FO_s1 := FO_s1.ext Ex39
            have E_o1 := E_o1.ext Ex39
            have FC_o1 := FC_o1.ext Ex39
            have FV_o1 := FV_o1.ext Ex39
            have V_d1 := V_d1.ext Ex39
            have S_LESS := S_LESS.ext Ex39
            have E_s2 := E_s2.ext Ex39
            have F_s2 := F_s2.ext Ex39
            have FO_s2 := FO_s2.ext Ex39
            have E_o2 := E_o2.ext Ex39
            have FC_o2 := FC_o2.ext Ex39
            have FV_o2 := FV_o2.ext Ex39
            have V_d2 := V_d2.ext Ex39
            have S_LESS_OR_EQUAL := S_LESS_OR_EQUAL.ext Ex39
            have E_s3 := E_s3.ext Ex39
            have F_s3 := F_s3.ext Ex39
            have FO_s3 := FO_s3.ext Ex39
            have E_o3 := E_o3.ext Ex39
            have FC_o3 := FC_o3.ext Ex39
            have FV_o3 := FV_o3.ext Ex39
            have V_d3 := V_d3.ext Ex39
            have S_GREATER := S_GREATER.ext Ex39
            have E_s4 := E_s4.ext Ex39
            have F_s4 := F_s4.ext Ex39
            have FO_s4 := FO_s4.ext Ex39
            have E_o4 := E_o4.ext Ex39
            have FC_o4 := FC_o4.ext Ex39
            have FV_o4 := FV_o4.ext Ex39
            have V_d4 := V_d4.ext Ex39
            have S_GREATER_OR_EQUAL := S_GREATER_OR_EQUAL.ext Ex39
            have E_s5 := E_s5.ext Ex39
            have F_s5 := F_s5.ext Ex39
            have FO_s5 := FO_s5.ext Ex39
            have E_o5 := E_o5.ext Ex39
            have FC_o5 := FC_o5.ext Ex39
            have FV_o5 := FV_o5.ext Ex39
            have V_d5 := V_d5.ext Ex39
            have Zs40 := Nat.le_trans Z0 Ex39.1
            have hk := Nat.le_trans hk Ex39.1
            have hk : T39.heap.size ≤ (T39.heap).size := Nat.le_of_eq (congrArg Array.size (show T39.heap = T39.heap from rfl))
            refine GoW.tr (S' := T39.setTop (mkF m 101 #[.val (.int p0), .val (.int ((p0 &&& (2147483647 : Int32)) % (6 : Int32))), .val (.ref s5), .val (.int (1 : Int32)), .val (.int (1 : Int32)), .val (.ref o5), .unset] [(.int (0 : Int32))])) st39 ?_
            refine GoW.st (S' := T39.setTop (mkF m 103 #[.val (.int p0), .val (.int ((p0 &&& (2147483647 : Int32)) % (6 : Int32))), .val (.ref s5), .val (.int (1 : Int32)), .val (.int (1 : Int32)), .val (.ref o5), .unset] [(.ref o5), (.int (0 : Int32))])) (fun _ kk => XS.aload X39.here hx rfl (hb hby at_101) rfl rfl kk) ?_
            refine GoW.st (S' := T39.setTop (mkF m 104 #[.val (.int p0), .val (.int ((p0 &&& (2147483647 : Int32)) % (6 : Int32))), .val (.ref s5), .val (.int (1 : Int32)), .val (.int (1 : Int32)), .val (.ref o5), .unset] [(.int (1 : Int32)), (.ref o5), (.int (0 : Int32))])) (fun _ kk => XS.iconst X39.here hx rfl (hb hby at_103) kk) ?_
            obtain ⟨_, _, ⟨T41, L41, k41, n41⟩, -, X41, hS41, hg41, ⟨Lc41, hQ41, l41, y41, z41⟩, st41⟩ := callSS X39 hx (y := (⟨"com/example/winj/winj/storage/ComparisonOrdersPinLaw", "holds", "(Ljava/lang/String;I)Z"⟩ : MethodName)) hown (mvT hZ (hw _ (List.mem_of_getElem? (i := 17) rfl))) (mvT hZ (hw _ (List.mem_of_getElem? (i := 18) rfl))) (mvT hZ (hw _ (List.mem_of_getElem? (i := 19) rfl))) (mvT hZ (hw _ (List.mem_of_getElem? (i := 20) rfl))) (by decide) (own_backS (W := 1) (P := PV_a5 Z la0 la1 la2 la3 la4 la5) (rmHa5 l Z az hw [] o5 (1 : Int32) zc d5 kd5 la0 lb0 lk0 la1 lb1 lk1 la2 lb2 lk2 la3 lb3 lk3 la4 lb4 lk4 la5 lb5 lk5 T39.heap hC hcw nz O_z S_C hzc E_o5 FC_o5 FV_o5 V_d5 El0 Cl0 Vl0 Al0 El1 Cl1 Vl1 Al1 El2 Cl2 Vl2 Al2 El3 Cl3 Vl3 Al3 El4 Cl4 Vl4 Al4 El5 Cl5 Vl5 Al5 rfl) hZ (hw _ (List.mem_of_getElem? (i := 20) rfl)) (hw _ (List.mem_of_getElem? (i := 19) rfl)) (by decide) (by decide)) (g := (mkF m 104 #[.val (.int p0), .val (.int ((p0 &&& (2147483647 : Int32)) % (6 : Int32))), .val (.ref s5), .val (.int (1 : Int32)), .val (.int (1 : Int32)), .val (.ref o5), .unset] [(.int (1 : Int32)), (.ref o5), (.int (0 : Int32))])) rfl (by rw [hml]; rfl) (argsL := [(.ref o5), (.int (1 : Int32))]) (rest := [(.int (0 : Int32))]) (lenOf pd_2 rfl) rfl (by show 2 * 0 + _ ≤ _; exact Nat.le_of_eq rfl) (hb hby at_104) (fun vmq hvq => ⟨rfl, rfl, ⟨LitV.stays (s := s) Li0 hvq.wide, LitV.stays (s := s) Li1 hvq.wide, LitV.stays (s := s) Li2 hvq.wide, LitV.stays (s := s) Li3 hvq.wide, LitV.stays (s := s) Li4 hvq.wide, LitV.stays (s := s) Li5 hvq.wide⟩, (by decide : 12 + 0 ≤ _), (by decide : 60 + 0 ≤ _)⟩)
            dsimp only [Pt.U, Pt.locs, Pt.cells, Pt.slots] at X41 l41 y41 z41 st41 hQ41 hS41 hg41
            subst l41 y41 z41
            have Li0 := LitV.stays (s := s) Li0 hS41.1
            have Li1 := LitV.stays (s := s) Li1 hS41.1
            have Li2 := LitV.stays (s := s) Li2 hS41.1
            have Li3 := LitV.stays (s := s) Li3 hS41.1
            have Li4 := LitV.stays (s := s) Li4 hS41.1
            have Li5 := LitV.stays (s := s) Li5 hS41.1
            obtain ⟨X41, hS, hZ, hown⟩ := rebS hS (own_hk rfl hk) X41 hS41 hg41 hZ hown
            obtain ⟨rfl, N41q, e41⟩ := hQ41
            have N41 := Fr.app N39 (own_frm N41q Zs40)
            have hk : T41.heap.size ≤ (T39.heap).size := Nat.le_of_eq (congrArg Array.size (show T41.heap = T39.heap from e41))
            refine GoW.tr (S' := T41.setTop (mkF m 107 #[.val (.int p0), .val (.int ((p0 &&& (2147483647 : Int32)) % (6 : Int32))), .val (.ref s5), .val (.int (1 : Int32)), .val (.int (1 : Int32)), .val (.ref o5), .unset] [(.int (1 : Int32)), (.int (0 : Int32))])) st41 ?_
            refine GoW.st (S' := T41.setTop (mkF m 110 #[.val (.int p0), .val (.int ((p0 &&& (2147483647 : Int32)) % (6 : Int32))), .val (.ref s5), .val (.int (1 : Int32)), .val (.int (1 : Int32)), .val (.ref o5), .unset] [])) (fun _ kk => XS.icmpNo X41.here hx rfl (hb hby at_107) rfl (feq (by decide : ¬ ((0 : Int32) = (1 : Int32)))).1 kk) ?_
            refine GoW.st (S' := T41.setTop (mkF m 111 #[.val (.int p0), .val (.int ((p0 &&& (2147483647 : Int32)) % (6 : Int32))), .val (.ref s5), .val (.int (1 : Int32)), .val (.int (1 : Int32)), .val (.ref o5), .unset] [(.int (1 : Int32))])) (fun _ kk => XS.iconst X41.here hx rfl (hb hby at_110) kk) ?_
            refine GoW.st (S' := T41.setTop (mkF m 115 #[.val (.int p0), .val (.int ((p0 &&& (2147483647 : Int32)) % (6 : Int32))), .val (.ref s5), .val (.int (1 : Int32)), .val (.int (1 : Int32)), .val (.ref o5), .unset] [(.int (1 : Int32))])) (fun _ kk => XS.goto X41.here hx rfl (pc0 := 111) (pc' := 115) rfl (hb hby at_111) (by decide) (by decide) kk) ?_
            refine GoW.st (S' := T41.setTop (mkF m 117 #[.val (.int p0), .val (.int ((p0 &&& (2147483647 : Int32)) % (6 : Int32))), .val (.ref s5), .val (.int (1 : Int32)), .val (.int (1 : Int32)), .val (.ref o5), .val (.int (1 : Int32))] [])) (fun _ kk => XS.istore X41.here hx rfl (hb hby at_115) rfl (l' := #[.val (.int p0), .val (.int ((p0 &&& (2147483647 : Int32)) % (6 : Int32))), .val (.ref s5), .val (.int (1 : Int32)), .val (.int (1 : Int32)), .val (.ref o5), .val (.int (1 : Int32))]) rfl kk) ?_
            refine GoW.st (S' := T41.setTop (mkF m 119 #[.val (.int p0), .val (.int ((p0 &&& (2147483647 : Int32)) % (6 : Int32))), .val (.ref s5), .val (.int (1 : Int32)), .val (.int (1 : Int32)), .val (.ref o5), .val (.int (1 : Int32))] [(.int (1 : Int32))])) (fun _ kk => XS.iload X41.here hx rfl (hb hby at_117) rfl kk) ?_
            refine GoW.st (S' := T41.setTop (mkF m 120 #[.val (.int p0), .val (.int ((p0 &&& (2147483647 : Int32)) % (6 : Int32))), .val (.ref s5), .val (.int (1 : Int32)), .val (.int (1 : Int32)), .val (.ref o5), .val (.int (1 : Int32))] [(.int (1 : Int32)), (.int (1 : Int32))])) (fun _ kk => XS.iloadN X41.here hx rfl (hb hby at_119) rfl kk) ?_
            refine GoW.st (S' := T41.setTop (mkF m 123 #[.val (.int p0), .val (.int ((p0 &&& (2147483647 : Int32)) % (6 : Int32))), .val (.ref s5), .val (.int (1 : Int32)), .val (.int (1 : Int32)), .val (.ref o5), .val (.int (1 : Int32))] [])) (fun _ kk => XS.icmpNo X41.here hx rfl (hb hby at_120) rfl (teq (by decide : (1 : Int32) = (1 : Int32))).2 kk) ?_
            refine GoW.st (S' := T41.setTop (mkF m 125 #[.val (.int p0), .val (.int ((p0 &&& (2147483647 : Int32)) % (6 : Int32))), .val (.ref s5), .val (.int (1 : Int32)), .val (.int (1 : Int32)), .val (.ref o5), .val (.int (1 : Int32))] [(.int (1 : Int32))])) (fun _ kk => XS.iload X41.here hx rfl (hb hby at_123) rfl kk) ?_
            refine GoW.st (S' := T41.setTop (mkF m 127 #[.val (.int p0), .val (.int ((p0 &&& (2147483647 : Int32)) % (6 : Int32))), .val (.ref s5), .val (.int (1 : Int32)), .val (.int (1 : Int32)), .val (.ref o5), .val (.int (1 : Int32))] [(.int (1 : Int32)), (.int (1 : Int32))])) (fun _ kk => XS.iload X41.here hx rfl (hb hby at_125) rfl kk) ?_
            refine GoW.st (S' := T41.setTop (mkF m 130 #[.val (.int p0), .val (.int ((p0 &&& (2147483647 : Int32)) % (6 : Int32))), .val (.ref s5), .val (.int (1 : Int32)), .val (.int (1 : Int32)), .val (.ref o5), .val (.int (1 : Int32))] [])) (fun _ kk => XS.icmpNo X41.here hx rfl (hb hby at_127) rfl (teq (by decide : (1 : Int32) = (1 : Int32))).2 kk) ?_
            refine GoW.st (S' := T41.setTop (mkF m 131 #[.val (.int p0), .val (.int ((p0 &&& (2147483647 : Int32)) % (6 : Int32))), .val (.ref s5), .val (.int (1 : Int32)), .val (.int (1 : Int32)), .val (.ref o5), .val (.int (1 : Int32))] [(.int (1 : Int32))])) (fun _ kk => XS.iconst X41.here hx rfl (hb hby at_130) kk) ?_
            refine GoW.st (S' := T41.setTop (mkF m 135 #[.val (.int p0), .val (.int ((p0 &&& (2147483647 : Int32)) % (6 : Int32))), .val (.ref s5), .val (.int (1 : Int32)), .val (.int (1 : Int32)), .val (.ref o5), .val (.int (1 : Int32))] [(.int (1 : Int32))])) (fun _ kk => XS.goto X41.here hx rfl (pc0 := 131) (pc' := 135) rfl (hb hby at_131) (by decide) (by decide) kk) ?_
            exact GoW.retN X41 hx hlk hS (own_hk e41 hk) (t := .boolean) Bd.returns (by simp) (hb hby at_135) (⟨rfl, hn0 ▸ N41⟩) (by decide) (by decide)
theorem own_fld {args : Array Value} {s : State} {t : Term} {a : Addr} {C n d : String} {k : Int32} (ev : t.eval args s none [] s = some (.ref a)) (h : (Cond.eq (.field t C n d) (.int k)).value args s none s [] = some true) : Fld s s.heap a C n d (.int k) := by
  obtain ⟨x, y, e1, e2, k1, k2⟩ := cmp_v (Or.inl h)
  cases Option.some.inj ((Term.int_eval k).symm.trans e2)
  obtain ⟨z, rfl⟩ := k2
  have q : (Cond.eq (.field t C n d) (.int k)).value args s none s [] = some (decide (z = k)) := by simp [Cond.value, e1, e2]
  cases gotT q h
  exact Fld.start ((fld_at ev).symm.trans e1)
theorem own_not {args : Array Value} {s : State} {t : Term} {z : Int32} (ev : t.eval args s none [] s = some (.int z)) (h : (Cond.not (.eq t (.int 0))).value args s none s [] = some true) : ¬ z = 0 := fun q => by
  subst q
  have e : (Cond.eq t (.int 0)).value args s none s [] = some true := eq_i ev (Term.int_eval 0) rfl
  simp [Cond.value] at h e
  rw [e] at h
  simp at h
theorem own_el {args : Array Value} {s : State} {t : Term} {b : Addr} {cl : Cell} {j v : Int32} (ev : t.eval args s none [] s = some (.ref b)) (ha : s.arrayAt? b = some cl) (hj : ¬ j < 0) (h : (Cond.eq (.elem t (.int j)) (.int v)).value args s none s [] = some true) : cl.slots[j.toNatClampNeg]? = some (.int v) := by
  obtain ⟨x, y, e1, e2, k1, k2⟩ := cmp_v (Or.inl h)
  cases Option.some.inj ((Term.int_eval v).symm.trans e2)
  obtain ⟨z, rfl⟩ := k2
  have q : (Cond.eq (.elem t (.int j)) (.int v)).value args s none s [] = some (decide (z = v)) := by simp [Cond.value, e1, e2]
  cases gotT q h
  exact (elem_f ev (Term.int_eval j) ha hj).symm.trans e1
theorem own_op1 {args : Array Value} {s : State} {t : Term} {b : Addr} {v : Int32} (ev : t.eval args s none [] s = some (.ref b)) (hA : (Cond.arrayOf t .byte).value args s none s [] = some true) (hl : (Cond.eq (.length t) (.int 1)).value args s none s [] = some true) (h0 : (Cond.eq (.elem t (.int 0)) (.int v)).value args s none s [] = some true) (hv : fits .byte (.int v) = true) : ∃ k, Arv s s.heap b k .byte (1 : Int32) (([v] : List Int32).map .int) (.int 0) := by
  obtain ⟨cl, A⟩ := Arr.start ev hA
  have ha := A.fin (Vm.Alike.refl _)
  have hs := own_size (own_len ev ha hl) (k := 1) (by decide)
  have e0 := own_el ev ha (by decide) h0
  refine ⟨_, cl, A, rfl, hs, by decide, fun i hi => ?_, fun i hi => ?_⟩
  all_goals (obtain rfl : i = 0 := by omega)
  · exact e0
  · exact hv
theorem own_op2 {args : Array Value} {s : State} {t : Term} {b : Addr} {v w : Int32} (ev : t.eval args s none [] s = some (.ref b)) (hA : (Cond.arrayOf t .byte).value args s none s [] = some true) (hl : (Cond.eq (.length t) (.int 2)).value args s none s [] = some true) (h0 : (Cond.eq (.elem t (.int 0)) (.int v)).value args s none s [] = some true) (h1 : (Cond.eq (.elem t (.int 1)) (.int w)).value args s none s [] = some true) (hv : fits .byte (.int v) = true ∧ fits .byte (.int w) = true) : ∃ k, Arv s s.heap b k .byte (2 : Int32) (([v, w] : List Int32).map .int) (.int 0) := by
  obtain ⟨cl, A⟩ := Arr.start ev hA
  have ha := A.fin (Vm.Alike.refl _)
  have hs := own_size (own_len ev ha hl) (k := 2) (by decide)
  have e0 := own_el ev ha (by decide) h0
  have e1 := own_el ev ha (by decide) h1
  refine ⟨_, cl, A, rfl, hs, by decide, fun i hi => ?_, fun i hi => ?_⟩
  all_goals (obtain rfl | rfl : i = 0 ∨ i = 1 := by omega)
  · exact e0
  · exact e1
  · exact hv.1
  · exact hv.2
set_option maxRecDepth 65536 in
set_option maxHeartbeats 4000000 in
theorem comes_1 {Post : Tables → Env → Array Value → State → Outcome → State → Prop} (hpost : ∀ tb e args s v u, (limb_1_1.after args s (.returned v) u = true ∧ limb_1_2.after args s (.returned v) u = true ∧ True) → Jvm.D.FramedW s (.returned v) u (Jvm.fieldLocs frame_1_writes args s ++ Jvm.arrayLocs frame_1_arrays args s ++ Jvm.staticLocs frame_1_statics s) 16 6208 → Post tb e args s (.returned v) u) :
    ArmFor flags0 classFile x code maxLocals ret World_1 tables_1 room_1 Calls_1 rest_1 Pre_1 Post := by
  intro l hfl _ _ p e ha hc hk s m args below hf hA hF happ hP
  obtain ⟨hcalls, hrest, hpre⟩ := hP
  obtain ⟨-, -, -, hnamed, -, -, -, hat⟩ := (Spec.applies_iff hf).mp happ
  obtain ⟨hg, hn⟩ := and_e (Cond.before_iff.mp (show (Jvm.Cond.and given_1 narrow_1).before args s = true from hpre))
  obtain ⟨g0, gr0⟩ := and_e hg
  have ga0 := gr0
  obtain ⟨w0, rfl⟩ : ∃ w0 : Value, args = #[w0] := by
    have hs : args.size = 1 := by simpa [Cond.value, given_1] using g0
    obtain ⟨L⟩ := args
    match L, hs with
    | [w0], _ => exact ⟨w0, rfl⟩
  have hw := fun d (hd : d ∈ tables_1) => atoms_spec (ws := Jvm.Cond.code x code maxLocals ret :: tables_1) hat d (List.mem_cons_of_mem _ hd)
  have hfit : Fit s := fun {y c} hc i hi => by
    obtain ⟨ha, rfl⟩ := Array.getElem?_eq_some_iff.mp hc
    have q := List.all_eq_true.mp ((Array.all_eq_true_iff_forall_mem.mp hF) _ (Array.getElem_mem ha)) i (List.mem_range.mpr hi)
    simpa [Array.getElem?_eq_getElem hi] using q
  obtain ⟨i0, ei0⟩ := is_v ga0
  obtain rfl : w0 = (.int i0) := Option.some.inj ei0
  obtain ⟨m0, nr0⟩ := and_e hn
  obtain ⟨m1, nr1⟩ := and_e nr0
  obtain ⟨m2, nr2⟩ := and_e nr1
  obtain ⟨m3, nr3⟩ := and_e nr2
  obtain ⟨m4, nr4⟩ := and_e nr3
  obtain ⟨m5, nr5⟩ := and_e nr4
  obtain ⟨m6, nr6⟩ := and_e nr5
  obtain ⟨m7, nr7⟩ := and_e nr6
  obtain ⟨m8, nr8⟩ := and_e nr7
  obtain ⟨m9, nr9⟩ := and_e nr8
  obtain ⟨m10, nr10⟩ := and_e nr9
  obtain ⟨m11, nr11⟩ := and_e nr10
  obtain ⟨m12, nr12⟩ := and_e nr11
  obtain ⟨m13, nr13⟩ := and_e nr12
  obtain ⟨m14, nr14⟩ := and_e nr13
  obtain ⟨m15, nr15⟩ := and_e nr14
  obtain ⟨m16, nr16⟩ := and_e nr15
  obtain ⟨m17, nr17⟩ := and_e nr16
  obtain ⟨m18, nr18⟩ := and_e nr17
  obtain ⟨m19, nr19⟩ := and_e nr18
  obtain ⟨m20, nr20⟩ := and_e nr19
  obtain ⟨m21, nr21⟩ := and_e nr20
  obtain ⟨m22, nr22⟩ := and_e nr21
  obtain ⟨m23, nr23⟩ := and_e nr22
  obtain ⟨m24, nr24⟩ := and_e nr23
  obtain ⟨m25, nr25⟩ := and_e nr24
  obtain ⟨m26, nr26⟩ := and_e nr25
  obtain ⟨m27, nr27⟩ := and_e nr26
  obtain ⟨m28, nr28⟩ := and_e nr27
  obtain ⟨m29, nr29⟩ := and_e nr28
  obtain ⟨m30, nr30⟩ := and_e nr29
  obtain ⟨m31, nr31⟩ := and_e nr30
  obtain ⟨m32, nr32⟩ := and_e nr31
  obtain ⟨m33, nr33⟩ := and_e nr32
  obtain ⟨m34, nr34⟩ := and_e nr33
  obtain ⟨m35, nr35⟩ := and_e nr34
  obtain ⟨m36, nr36⟩ := and_e nr35
  obtain ⟨m37, nr37⟩ := and_e nr36
  obtain ⟨m38, nr38⟩ := and_e nr37
  obtain ⟨m39, nr39⟩ := and_e nr38
  obtain ⟨m40, nr40⟩ := and_e nr39
  obtain ⟨m41, nr41⟩ := and_e nr40
  obtain ⟨m42, nr42⟩ := and_e nr41
  obtain ⟨m43, nr43⟩ := and_e nr42
  have m44 := nr43
  have hsets := (atoms_of jdkStatics_1 (show (jdkStatics_1.foldr Jvm.Cond.and restOwn_1).before _ s = true from by rw [← rest_1_c_eq]; exact hrest)).1
  obtain ⟨zc, ezc⟩ := is_v (Cond.before_iff.mp (hsets _ (List.mem_of_getElem? (i := 1) rfl)))
  have S_C : Sta s s.heap "java/lang/String" "COMPACT_STRINGS" "Z" (.int zc) := Sta.start ezc (Or.inl (hsets _ (List.mem_of_getElem? (i := 0) rfl)))
  have hcw := hsets _ (List.mem_of_getElem? (i := 2) rfl)
  have hzc : ¬ zc = 0 := own_not ezc (Cond.before_iff.mp hcw)
  obtain ⟨hC, -⟩ := hcalls
  obtain ⟨s0, es0⟩ := exa_v m0
  have E_s0 := Exa.start es0 m0
  have S_0 := Sta.start es0 (Or.inr ⟨(hw _ (List.mem_of_getElem? (i := 2) rfl)), (hw _ (List.mem_of_getElem? (i := 3) rfl))⟩)
  have F_s0 := own_fld es0 m8
  obtain ⟨o0, eo0⟩ := exa_v m1
  have FO_0 := Fld.start ((fld_at es0).symm.trans eo0)
  have E_o0 := Exa.start eo0 m1
  have FC_0 := own_fld eo0 m2
  obtain ⟨d0, ed0⟩ := arr_v m3
  have FV_0 := Fld.start ((fld_at eo0).symm.trans ed0)
  obtain ⟨kd0, V_0⟩ := own_op1 ed0 m3 m4 m5 (by decide)
  obtain ⟨s1, es1⟩ := exa_v m9
  have E_s1 := Exa.start es1 m9
  have S_1 := Sta.start es1 (Or.inr ⟨(hw _ (List.mem_of_getElem? (i := 2) rfl)), (hw _ (List.mem_of_getElem? (i := 46) rfl))⟩)
  have F_s1 := own_fld es1 m10
  obtain ⟨o1, eo1⟩ := exa_v m24
  have FO_1 := Fld.start ((fld_at es1).symm.trans eo1)
  have E_o1 := Exa.start eo1 m24
  have FC_1 := own_fld eo1 m25
  obtain ⟨d1, ed1⟩ := arr_v m26
  have FV_1 := Fld.start ((fld_at eo1).symm.trans ed1)
  obtain ⟨kd1, V_1⟩ := own_op2 ed1 m26 m27 m28 m29 (by decide)
  obtain ⟨s2, es2⟩ := exa_v m17
  have E_s2 := Exa.start es2 m17
  have S_2 := Sta.start es2 (Or.inr ⟨(hw _ (List.mem_of_getElem? (i := 2) rfl)), (hw _ (List.mem_of_getElem? (i := 51) rfl))⟩)
  have F_s2 := own_fld es2 m18
  obtain ⟨o2, eo2⟩ := exa_v m19
  have FO_2 := Fld.start ((fld_at es2).symm.trans eo2)
  have E_o2 := Exa.start eo2 m19
  have FC_2 := own_fld eo2 m20
  obtain ⟨d2, ed2⟩ := arr_v m21
  have FV_2 := Fld.start ((fld_at eo2).symm.trans ed2)
  obtain ⟨kd2, V_2⟩ := own_op1 ed2 m21 m22 m23 (by decide)
  obtain ⟨s3, es3⟩ := exa_v m6
  have E_s3 := Exa.start es3 m6
  have S_3 := Sta.start es3 (Or.inr ⟨(hw _ (List.mem_of_getElem? (i := 2) rfl)), (hw _ (List.mem_of_getElem? (i := 44) rfl))⟩)
  have F_s3 := own_fld es3 m7
  obtain ⟨o3, eo3⟩ := exa_v m11
  have FO_3 := Fld.start ((fld_at es3).symm.trans eo3)
  have E_o3 := Exa.start eo3 m11
  have FC_3 := own_fld eo3 m12
  obtain ⟨d3, ed3⟩ := arr_v m13
  have FV_3 := Fld.start ((fld_at eo3).symm.trans ed3)
  obtain ⟨kd3, V_3⟩ := own_op2 ed3 m13 m14 m15 m16 (by decide)
  obtain ⟨s4, es4⟩ := exa_v m38
  have E_s4 := Exa.start es4 m38
  have S_4 := Sta.start es4 (Or.inr ⟨(hw _ (List.mem_of_getElem? (i := 2) rfl)), (hw _ (List.mem_of_getElem? (i := 58) rfl))⟩)
  have F_s4 := own_fld es4 m39
  obtain ⟨o4, eo4⟩ := exa_v m40
  have FO_4 := Fld.start ((fld_at es4).symm.trans eo4)
  have E_o4 := Exa.start eo4 m40
  have FC_4 := own_fld eo4 m41
  obtain ⟨d4, ed4⟩ := arr_v m42
  have FV_4 := Fld.start ((fld_at eo4).symm.trans ed4)
  obtain ⟨kd4, V_4⟩ := own_op1 ed4 m42 m43 m44 (by decide)
  obtain ⟨s5, es5⟩ := exa_v m30
  have E_s5 := Exa.start es5 m30
  have S_5 := Sta.start es5 (Or.inr ⟨(hw _ (List.mem_of_getElem? (i := 2) rfl)), (hw _ (List.mem_of_getElem? (i := 54) rfl))⟩)
  have F_s5 := own_fld es5 m31
  obtain ⟨o5, eo5⟩ := exa_v m32
  have FO_5 := Fld.start ((fld_at es5).symm.trans eo5)
  have E_o5 := Exa.start eo5 m32
  have FC_5 := own_fld eo5 m33
  obtain ⟨d5, ed5⟩ := arr_v m34
  have FV_5 := Fld.start ((fld_at eo5).symm.trans ed5)
  obtain ⟨kd5, V_5⟩ := own_op2 ed5 m34 m35 m36 m37 (by decide)
  obtain ⟨n, o, h1, h2, h3, _, L, rfl, ⟨rfl, N⟩, hq⟩ := rm0 l s _ hw tables_1 i0 zc s0 s1 s2 s3 s4 s5 o0 o1 o2 o3 o4 o5 d0 d1 d2 d3 d4 d5 kd0 kd1 kd2 kd3 kd4 kd5 s.heap hC hcw _ (Old.start s) S_C hzc S_0 E_s0 F_s0 FO_0 E_o0 FC_0 FV_0 V_0 S_1 E_s1 F_s1 FO_1 E_o1 FC_1 FV_1 V_1 S_2 E_s2 F_s2 FO_2 E_o2 FC_2 FV_2 V_2 S_3 E_s3 F_s3 FO_3 E_o3 FC_3 FV_3 V_3 S_4 E_s4 F_s4 FO_4 E_o4 FC_4 FV_4 V_4 S_5 E_s5 F_s5 FO_5 E_o5 FC_5 FV_5 V_5 p e ha hc hk s m _ below hf ((Spec.applies_iff_loose hf).mp happ).1 ⟨rfl, State.Warmed39.refl s, rfl, IB.start⟩ trivial
  refine ⟨n, _, h1, h2, h3, hpost _ _ _ _ _ _ ⟨Cond.after_iff.mpr rfl, Cond.after_iff.mpr (eq_i res_at (Term.int_eval (1)) rfl), trivial⟩ ⟨hq.1, hq.2.1, hq.2.2.1, (hq.2.2.2.sift fun y hy => Or.inr (N y hy)).mono (by decide) (by decide)⟩⟩
theorem main_1_1 : Claimed_1_1 := comes_1 fun _ _ _ _ _ _ h hF => ⟨h.1, hF⟩
theorem main_1_2 : Claimed_1_2 := comes_1 fun _ _ _ _ _ _ h hF => ⟨h.2.1, hF⟩
end Jvm.Pilot.@@N@@
namespace Jvm.Pilot.@@N@@
open Jvm Jvm.ClassFile Sem Op Lib Jvm.Free Jvm.Stand Jvm.Pilot.@@N@@.Jvm.D
/-! MADE BY PROGRAM (witnessworld.py) out of the Statement's table words and the real class files: 18 classes; the members and pool entries that the words name. The judged class is class 1, her method 2. -/
namespace start1
open Jvm.ClassFile
def u (s : String) : CpInfo := .utf8 (stringToUtf16 s)
/-- a pool by its gaps: so many unusable entries, then the entry; so many at the end -/
def gap : Nat → List CpInfo → List CpInfo
  | 0, r => r
  | n + 1, r => .unusable :: gap n r
def poolList (es : List (Nat × CpInfo)) (last : Nat) : List CpInfo := es.foldr (fun e r => gap e.1 (e.2 :: r)) (gap last [])
def pool (es : List (Nat × CpInfo)) (last : Nat) : Array CpInfo := ⟨poolList es last⟩
def fileOf (pool : Array CpInfo) (this : Nat) (attrs : Array Attribute := #[]) (ms : Array MethodInfo := #[]) (fl : Nat := 33) (sup : Nat := 0) (ifs : Array Nat := #[]) (fds : Array FieldInfo := #[]) : ClassFile where
  minorVersion := 0
  majorVersion := 65
  constantPool := pool
  accessFlags := fl
  thisClass := this
  superClass := sup
  interfaces := ifs
  fields := fds
  methods := ms
  attributes := attrs
def plain (name : String) (sup : Option ClassId) : Class where
  name := name
  kind := .ordinary
  loader := none
  accessFlags := 33
  super := sup
  interfaces := #[]
  cf := none
  fields := #[]
  methods := #[]
  instanceTypes := #[]
  staticTypes := #[]
  resolved := #[]
  callSites := []
  init := .initialized
  statics := none
  mirror := none

def pool0 : Array CpInfo := pool [(5, u "<init>"), (0, u "()V"), (1, .class_ 10), (1, u "java/lang/Object")] 113

def k0m0 : Method := { name := "<init>", desc := "()V", sig := { parameters := [], returnType := none }, accessFlags := 1, code := none }
/-- java/lang/Object -/
def k0 : Class := { plain "java/lang/Object" none with
  accessFlags := 33
  interfaces := #[]
  cf := some (fileOf pool0 8 #[] #[{ accessFlags := 1, nameIndex := 5, descriptorIndex := 6, attributes := #[] }] 33 0 #[] #[])
  fields := #[]
  methods := #[k0m0]
  instanceTypes := #[]
  staticTypes := #[]
  resolved := Array.replicate 124 none
  statics := none }

def pool1 : Array CpInfo := pool [(2, .class_ 4), (1, u "java/lang/Object"), (0, u "<init>"), (0, u "()V"), (0, .string 8), (0, u "="), (0, .methodref 10 11), (0, .class_ 12), (0, .nameAndType 13 14), (0, u "java/lang/String"), (0, u "equals"), (0, u "(Ljava/lang/Object;)Z"), (0, .string 16), (0, u "<>"), (0, .string 18), (0, u "<"), (0, .string 20), (0, u "<="), (0, .string 22), (0, u ">"), (0, .string 24), (0, u ">="), (0, .integer 2147483647), (0, .fieldref 27 28), (0, .class_ 29), (0, .nameAndType 30 31), (0, u "com/example/winj/winj/storage/Comparison"), (0, u "EQUAL"), (0, u "Lcom/example/winj/winj/storage/Comparison;"), (0, .fieldref 27 33), (0, .nameAndType 34 31), (0, u "NOT_EQUAL"), (0, .fieldref 27 36), (0, .nameAndType 37 31), (0, u "LESS"), (0, .fieldref 27 39), (0, .nameAndType 40 31), (0, u "LESS_OR_EQUAL"), (0, .fieldref 27 42), (0, .nameAndType 43 31), (0, u "GREATER"), (0, .fieldref 27 45), (0, .nameAndType 46 31), (0, u "GREATER_OR_EQUAL"), (0, .methodref 27 48), (0, .nameAndType 49 50), (0, u "orders"), (0, u "()Z"), (0, .methodref 27 52), (0, .nameAndType 53 54), (0, u "operator"), (0, u "()Ljava/lang/String;"), (0, .methodref 56 57), (0, .class_ 58), (0, .nameAndType 59 60), (0, u "com/example/winj/winj/storage/ComparisonOrdersPinLaw"), (0, u "holds"), (0, u "(Ljava/lang/String;I)Z"), (3, u "law"), (0, u "(I)Z")] 2

def k1m0 : Method := { name := "<init>", desc := "()V", sig := { parameters := [], returnType := none }, accessFlags := 1, code := none }
def k1c1 : Code := { maxStack := 2, maxLocals := 2, code := method_2_code, exceptionTable := #[], attributes := #[] }
def k1m1 : Method := { name := "holds", desc := "(Ljava/lang/String;I)Z", sig := { parameters := [(.object "java/lang/String"), .int], returnType := some .boolean }, accessFlags := 10, code := some k1c1 }
def k1c2 : Code := { maxStack := 3, maxLocals := 7, code := code, exceptionTable := #[], attributes := #[] }
def k1m2 : Method := { name := "law", desc := "(I)Z", sig := { parameters := [.int], returnType := some .boolean }, accessFlags := 9, code := some k1c2 }
/-- com/example/winj/winj/storage/ComparisonOrdersPinLaw -/
def k1 : Class := { plain "com/example/winj/winj/storage/ComparisonOrdersPinLaw" (some 0) with
  accessFlags := 49
  interfaces := #[]
  cf := some (fileOf pool1 56 #[] #[{ accessFlags := 1, nameIndex := 5, descriptorIndex := 6, attributes := #[] }, { accessFlags := 10, nameIndex := 59, descriptorIndex := 60, attributes := #[] }, { accessFlags := 9, nameIndex := 64, descriptorIndex := 65, attributes := #[] }] 49 2 #[] #[])
  fields := #[]
  methods := #[k1m0, k1m1, k1m2]
  instanceTypes := #[]
  staticTypes := #[]
  resolved := Array.replicate 68 none
  statics := none }

def pool2 : Array CpInfo := pool [(1, .class_ 2), (0, u "java/lang/constant/Constable"), (0, .class_ 4), (0, u "java/lang/Object")] 6

/-- java/lang/constant/Constable -/
def k2 : Class := { plain "java/lang/constant/Constable" (some 0) with
  accessFlags := 1537
  interfaces := #[]
  cf := some (fileOf pool2 1 #[] #[] 1537 3 #[] #[])
  fields := #[]
  methods := #[]
  instanceTypes := #[]
  staticTypes := #[]
  resolved := Array.replicate 11 none
  statics := none }

def pool3 : Array CpInfo := pool [(1, .class_ 2), (0, u "java/lang/Comparable"), (0, .class_ 4), (0, u "java/lang/Object")] 7

/-- java/lang/Comparable -/
def k3 : Class := { plain "java/lang/Comparable" (some 0) with
  accessFlags := 1537
  interfaces := #[]
  cf := some (fileOf pool3 1 #[] #[] 1537 3 #[] #[])
  fields := #[]
  methods := #[]
  instanceTypes := #[]
  staticTypes := #[]
  resolved := Array.replicate 12 none
  statics := none }

def pool4 : Array CpInfo := pool [(1, .class_ 2), (0, u "java/io/Serializable"), (0, .class_ 4), (0, u "java/lang/Object")] 2

/-- java/io/Serializable -/
def k4 : Class := { plain "java/io/Serializable" (some 0) with
  accessFlags := 1537
  interfaces := #[]
  cf := some (fileOf pool4 1 #[] #[] 1537 3 #[] #[])
  fields := #[]
  methods := #[]
  instanceTypes := #[]
  staticTypes := #[]
  resolved := Array.replicate 7 none
  statics := none }

def pool5 : Array CpInfo := pool [(2, .class_ 4), (1, u "java/lang/Enum"), (0, u "name"), (0, u "Ljava/lang/String;"), (2, u "ordinal"), (0, u "I"), (1, .class_ 14), (1, u "java/lang/Object"), (4, u "hash"), (86, .class_ 108), (1, u "java/lang/Enum$EnumDesc"), (2, .class_ 112), (0, u "java/lang/constant/Constable"), (0, .class_ 114), (0, u "java/lang/Comparable"), (0, .class_ 116), (0, u "java/io/Serializable")] 87

/-- java/lang/Enum -/
def k5 : Class := { plain "java/lang/Enum" (some 0) with
  accessFlags := 1057
  interfaces := #[2, 3, 4]
  cf := some (fileOf pool5 2 #[.nestMembers #[106]] #[] 1057 12 #[111, 113, 115] #[{ accessFlags := 18, nameIndex := 5, descriptorIndex := 6, attributes := #[] }, { accessFlags := 18, nameIndex := 9, descriptorIndex := 10, attributes := #[] }, { accessFlags := 2, nameIndex := 19, descriptorIndex := 10, attributes := #[] }])
  fields := #[{ name := "name", type := (.object "java/lang/String"), accessFlags := 18, slot := 0, constantValue := 0 }, { name := "ordinal", type := .int, accessFlags := 18, slot := 1, constantValue := 0 }, { name := "hash", type := .int, accessFlags := 2, slot := 2, constantValue := 0 }]
  methods := #[]
  instanceTypes := #[(.object "java/lang/String"), .int, .int]
  staticTypes := #[]
  resolved := Array.replicate 204 none
  statics := none }

def pool6 : Array CpInfo := pool [(1, .class_ 2), (0, u "com/example/winj/winj/storage/Comparison"), (0, .fieldref 1 4), (0, .nameAndType 5 6), (0, u "EQUAL"), (0, u "Lcom/example/winj/winj/storage/Comparison;"), (0, .fieldref 1 8), (0, .nameAndType 9 6), (0, u "NOT_EQUAL"), (2, u "LESS"), (2, u "LESS_OR_EQUAL"), (2, u "GREATER"), (2, u "GREATER_OR_EQUAL"), (2, u "$VALUES"), (0, u "[Lcom/example/winj/winj/storage/Comparison;"), (6, .class_ 34), (1, u "java/lang/Enum"), (6, .fieldref 1 42), (0, .nameAndType 43 44), (0, u "operator"), (0, u "Ljava/lang/String;"), (32, u "()Ljava/lang/String;"), (0, u "orders"), (0, u "()Z")] 6

def k6c0 : Code := { maxStack := 1, maxLocals := 1, code := prog_3_method_4_code, exceptionTable := #[], attributes := #[] }
def k6m0 : Method := { name := "operator", desc := "()Ljava/lang/String;", sig := { parameters := [], returnType := some (.object "java/lang/String") }, accessFlags := 0, code := some k6c0 }
def k6c1 : Code := { maxStack := 2, maxLocals := 1, code := prog_3_method_5_code, exceptionTable := #[], attributes := #[] }
def k6m1 : Method := { name := "orders", desc := "()Z", sig := { parameters := [], returnType := some .boolean }, accessFlags := 0, code := some k6c1 }
/-- com/example/winj/winj/storage/Comparison -/
def k6 : Class := { plain "com/example/winj/winj/storage/Comparison" (some 5) with
  accessFlags := 16433
  interfaces := #[]
  cf := some (fileOf pool6 1 #[] #[{ accessFlags := 0, nameIndex := 43, descriptorIndex := 77, attributes := #[] }, { accessFlags := 0, nameIndex := 78, descriptorIndex := 79, attributes := #[] }] 16433 32 #[] #[{ accessFlags := 16409, nameIndex := 5, descriptorIndex := 6, attributes := #[] }, { accessFlags := 16409, nameIndex := 9, descriptorIndex := 6, attributes := #[] }, { accessFlags := 16409, nameIndex := 12, descriptorIndex := 6, attributes := #[] }, { accessFlags := 16409, nameIndex := 15, descriptorIndex := 6, attributes := #[] }, { accessFlags := 16409, nameIndex := 18, descriptorIndex := 6, attributes := #[] }, { accessFlags := 16409, nameIndex := 21, descriptorIndex := 6, attributes := #[] }, { accessFlags := 18, nameIndex := 43, descriptorIndex := 44, attributes := #[] }, { accessFlags := 4122, nameIndex := 24, descriptorIndex := 25, attributes := #[] }])
  fields := #[{ name := "EQUAL", type := (.object "com/example/winj/winj/storage/Comparison"), accessFlags := 16409, slot := 0, constantValue := 0 }, { name := "NOT_EQUAL", type := (.object "com/example/winj/winj/storage/Comparison"), accessFlags := 16409, slot := 1, constantValue := 0 }, { name := "LESS", type := (.object "com/example/winj/winj/storage/Comparison"), accessFlags := 16409, slot := 2, constantValue := 0 }, { name := "LESS_OR_EQUAL", type := (.object "com/example/winj/winj/storage/Comparison"), accessFlags := 16409, slot := 3, constantValue := 0 }, { name := "GREATER", type := (.object "com/example/winj/winj/storage/Comparison"), accessFlags := 16409, slot := 4, constantValue := 0 }, { name := "GREATER_OR_EQUAL", type := (.object "com/example/winj/winj/storage/Comparison"), accessFlags := 16409, slot := 5, constantValue := 0 }, { name := "operator", type := (.object "java/lang/String"), accessFlags := 18, slot := 3, constantValue := 0 }, { name := "$VALUES", type := (.array (.object "com/example/winj/winj/storage/Comparison")), accessFlags := 4122, slot := 6, constantValue := 0 }]
  methods := #[k6m0, k6m1]
  instanceTypes := #[(.object "java/lang/String"), .int, .int, (.object "java/lang/String")]
  staticTypes := #[(.object "com/example/winj/winj/storage/Comparison"), (.object "com/example/winj/winj/storage/Comparison"), (.object "com/example/winj/winj/storage/Comparison"), (.object "com/example/winj/winj/storage/Comparison"), (.object "com/example/winj/winj/storage/Comparison"), (.object "com/example/winj/winj/storage/Comparison"), (.array (.object "com/example/winj/winj/storage/Comparison"))]
  resolved := Array.replicate 86 none
  statics := some 0 }

def pool7 : Array CpInfo := pool [(2, .class_ 4), (1, u "java/lang/CharSequence"), (42, .class_ 48), (0, u "java/lang/CharSequence$1CodePointIterator"), (10, .class_ 60), (0, u "java/lang/CharSequence$1CharIterator"), (5, .class_ 67), (0, u "java/lang/Object")] 63

/-- java/lang/CharSequence -/
def k7 : Class := { plain "java/lang/CharSequence" (some 0) with
  accessFlags := 1537
  interfaces := #[]
  cf := some (fileOf pool7 2 #[.nestMembers #[47, 59]] #[] 1537 66 #[] #[])
  fields := #[]
  methods := #[]
  instanceTypes := #[]
  staticTypes := #[]
  resolved := Array.replicate 131 none
  statics := none }

def pool8 : Array CpInfo := pool [(1, .class_ 2), (0, u "java/lang/constant/ConstantDesc"), (0, .class_ 4), (0, u "java/lang/Object")] 32

/-- java/lang/constant/ConstantDesc -/
def k8 : Class := { plain "java/lang/constant/ConstantDesc" (some 0) with
  accessFlags := 1537
  interfaces := #[]
  cf := some (fileOf pool8 1 #[] #[] 1537 3 #[] #[])
  fields := #[]
  methods := #[]
  instanceTypes := #[]
  staticTypes := #[]
  resolved := Array.replicate 37 none
  statics := none }

def pool9 : Array CpInfo := pool [(2, .class_ 4), (1, u "java/lang/Object"), (0, u "<init>"), (0, u "()V"), (2, .fieldref 10 11), (0, .class_ 12), (0, .nameAndType 13 14), (0, u "java/lang/String"), (0, u "value"), (0, u "[B"), (0, .fieldref 10 16), (0, .nameAndType 17 18), (0, u "coder"), (0, u "B"), (2, u "hash"), (0, u "I"), (2, u "hashIsZero"), (0, u "Z"), (11, .fieldref 10 39), (0, .nameAndType 40 26), (0, u "COMPACT_STRINGS"), (66, .class_ 109), (1, u "java/lang/StringLatin1"), (431, .methodref 107 542), (0, .nameAndType 543 544), (0, u "equals"), (0, u "([B[B)Z"), (28, u "(Ljava/lang/Object;)Z"), (1, .class_ 576), (0, u "java/lang/CharSequence"), (22, u "CASE_INSENSITIVE_ORDER"), (0, u "Ljava/util/Comparator;"), (500, u "serialPersistentFields"), (0, u "[Ljava/io/ObjectStreamField;"), (0, .class_ 1104), (0, u "java/lang/String$CaseInsensitiveComparator"), (1, .class_ 1107), (0, u "java/io/Serializable"), (0, .class_ 1109), (0, u "java/lang/Comparable"), (0, .class_ 1111), (0, u "java/lang/constant/Constable"), (0, .class_ 1113), (0, u "java/lang/constant/ConstantDesc"), (2, u "serialVersionUID"), (0, u "J"), (3, u "REPL"), (0, u "C"), (2, u "LATIN1"), (1, u "UTF16")] 323

def k9m0 : Method := { name := "<init>", desc := "()V", sig := { parameters := [], returnType := none }, accessFlags := 1, code := none }
def k9c1 : Code := { maxStack := 2, maxLocals := 3, code := jdk_42_method_66_code, exceptionTable := #[], attributes := #[] }
def k9m1 : Method := { name := "equals", desc := "(Ljava/lang/Object;)Z", sig := { parameters := [(.object "java/lang/Object")], returnType := some .boolean }, accessFlags := 1, code := some k9c1 }
/-- java/lang/String -/
def k9 : Class := { plain "java/lang/String" (some 0) with
  accessFlags := 49
  interfaces := #[4, 3, 7, 2, 8]
  cf := some (fileOf pool9 10 #[.nestMembers #[1103]] #[{ accessFlags := 1, nameIndex := 5, descriptorIndex := 6, attributes := #[] }, { accessFlags := 1, nameIndex := 543, descriptorIndex := 573, attributes := #[] }] 49 2 #[1106, 1108, 575, 1110, 1112] #[{ accessFlags := 18, nameIndex := 13, descriptorIndex := 14, attributes := #[] }, { accessFlags := 18, nameIndex := 17, descriptorIndex := 18, attributes := #[] }, { accessFlags := 2, nameIndex := 21, descriptorIndex := 22, attributes := #[] }, { accessFlags := 2, nameIndex := 25, descriptorIndex := 26, attributes := #[] }, { accessFlags := 26, nameIndex := 1116, descriptorIndex := 1117, attributes := #[] }, { accessFlags := 24, nameIndex := 40, descriptorIndex := 26, attributes := #[] }, { accessFlags := 26, nameIndex := 1101, descriptorIndex := 1102, attributes := #[] }, { accessFlags := 26, nameIndex := 1121, descriptorIndex := 1122, attributes := #[] }, { accessFlags := 25, nameIndex := 599, descriptorIndex := 600, attributes := #[] }, { accessFlags := 24, nameIndex := 1125, descriptorIndex := 18, attributes := #[] }, { accessFlags := 24, nameIndex := 1127, descriptorIndex := 18, attributes := #[] }])
  fields := #[{ name := "value", type := (.array .byte), accessFlags := 18, slot := 0, constantValue := 0 }, { name := "coder", type := .byte, accessFlags := 18, slot := 1, constantValue := 0 }, { name := "hash", type := .int, accessFlags := 2, slot := 2, constantValue := 0 }, { name := "hashIsZero", type := .boolean, accessFlags := 2, slot := 3, constantValue := 0 }, { name := "serialVersionUID", type := .long, accessFlags := 26, slot := 0, constantValue := 0 }, { name := "COMPACT_STRINGS", type := .boolean, accessFlags := 24, slot := 1, constantValue := 0 }, { name := "serialPersistentFields", type := (.array (.object "java/io/ObjectStreamField")), accessFlags := 26, slot := 2, constantValue := 0 }, { name := "REPL", type := .char, accessFlags := 26, slot := 3, constantValue := 0 }, { name := "CASE_INSENSITIVE_ORDER", type := (.object "java/util/Comparator"), accessFlags := 25, slot := 4, constantValue := 0 }, { name := "LATIN1", type := .byte, accessFlags := 24, slot := 5, constantValue := 0 }, { name := "UTF16", type := .byte, accessFlags := 24, slot := 6, constantValue := 0 }]
  methods := #[k9m0, k9m1]
  instanceTypes := #[(.array .byte), .byte, .int, .boolean]
  staticTypes := #[.long, .boolean, (.array (.object "java/io/ObjectStreamField")), .char, (.object "java/util/Comparator"), .byte, .byte]
  resolved := Array.replicate 1451 none
  statics := some 1 }

def pool10 : Array CpInfo := pool [(4, .class_ 6), (1, u "java/lang/Object"), (0, u "<init>"), (0, u "()V"), (5, .class_ 16), (1, u "java/lang/StringLatin1"), (104, u "$assertionsDisabled"), (0, u "Z"), (98, .class_ 223), (1, u "java/lang/StringLatin1$LinesSpliterator"), (57, u "equals"), (0, u "([B[B)Z"), (107, .class_ 391), (0, u "java/lang/StringLatin1$CharsSpliterator")] 3

def k10m0 : Method := { name := "<init>", desc := "()V", sig := { parameters := [], returnType := none }, accessFlags := 0, code := none }
def k10c1 : Code := { maxStack := 3, maxLocals := 3, code := jdk_43_method_13_code, exceptionTable := #[], attributes := #[] }
def k10m1 : Method := { name := "equals", desc := "([B[B)Z", sig := { parameters := [(.array .byte), (.array .byte)], returnType := some .boolean }, accessFlags := 9, code := some k10c1 }
/-- java/lang/StringLatin1 -/
def k10 : Class := { plain "java/lang/StringLatin1" (some 0) with
  accessFlags := 48
  interfaces := #[]
  cf := some (fileOf pool10 14 #[.nestMembers #[390, 221]] #[{ accessFlags := 0, nameIndex := 7, descriptorIndex := 8, attributes := #[] }, { accessFlags := 9, nameIndex := 281, descriptorIndex := 282, attributes := #[] }] 48 4 #[] #[{ accessFlags := 4120, nameIndex := 121, descriptorIndex := 122, attributes := #[] }])
  fields := #[{ name := "$assertionsDisabled", type := .boolean, accessFlags := 4120, slot := 0, constantValue := 0 }]
  methods := #[k10m0, k10m1]
  instanceTypes := #[]
  staticTypes := #[.boolean]
  resolved := Array.replicate 395 none
  statics := none }

def pool11 : Array CpInfo := pool [(2, .class_ 4), (1, u "java/lang/Object"), (0, u "<init>"), (0, u "()V"), (17, .class_ 26), (1, u "jdk/internal/util/Preconditions"), (28, .class_ 56), (0, u "jdk/internal/util/Preconditions$4"), (57, .class_ 115), (0, u "jdk/internal/util/Preconditions$1"), (7, u "SIOOBE_FORMATTER"), (0, u "Ljava/util/function/BiFunction;"), (0, .class_ 126), (0, u "jdk/internal/util/Preconditions$2"), (3, u "AIOOBE_FORMATTER"), (0, .class_ 132), (0, u "jdk/internal/util/Preconditions$3"), (3, u "IOOBE_FORMATTER")] 57

def k11m0 : Method := { name := "<init>", desc := "()V", sig := { parameters := [], returnType := none }, accessFlags := 1, code := none }
/-- jdk/internal/util/Preconditions -/
def k11 : Class := { plain "jdk/internal/util/Preconditions" (some 0) with
  accessFlags := 33
  interfaces := #[]
  cf := some (fileOf pool11 24 #[.nestMembers #[55, 131, 125, 114]] #[{ accessFlags := 1, nameIndex := 5, descriptorIndex := 6, attributes := #[] }] 33 2 #[] #[{ accessFlags := 25, nameIndex := 123, descriptorIndex := 124, attributes := #[] }, { accessFlags := 25, nameIndex := 130, descriptorIndex := 124, attributes := #[] }, { accessFlags := 25, nameIndex := 136, descriptorIndex := 124, attributes := #[] }])
  fields := #[{ name := "SIOOBE_FORMATTER", type := (.object "java/util/function/BiFunction"), accessFlags := 25, slot := 0, constantValue := 0 }, { name := "AIOOBE_FORMATTER", type := (.object "java/util/function/BiFunction"), accessFlags := 25, slot := 1, constantValue := 0 }, { name := "IOOBE_FORMATTER", type := (.object "java/util/function/BiFunction"), accessFlags := 25, slot := 2, constantValue := 0 }]
  methods := #[k11m0]
  instanceTypes := #[]
  staticTypes := #[(.object "java/util/function/BiFunction"), (.object "java/util/function/BiFunction"), (.object "java/util/function/BiFunction")]
  resolved := Array.replicate 194 none
  statics := some 2 }

def pool12 : Array CpInfo := pool [(9, u "<init>"), (6, .class_ 18), (1, u "java/lang/Object"), (0, u "()V"), (1, .class_ 23), (1, u "jdk/internal/util/ArraysSupport"), (0, u "LOG2_ARRAY_LONG_INDEX_SCALE"), (0, u "I"), (2, u "U"), (0, u "Ljdk/internal/misc/Unsafe;"), (8, u "BIG_ENDIAN"), (0, u "Z"), (8, u "LOG2_BYTE_BIT_SIZE"), (4, u "LOG2_ARRAY_INT_INDEX_SCALE"), (54, u "JLA"), (0, u "Ljdk/internal/access/JavaLangAccess;"), (11, u "LOG2_ARRAY_BOOLEAN_INDEX_SCALE"), (9, u "LOG2_ARRAY_BYTE_INDEX_SCALE"), (5, u "LOG2_ARRAY_CHAR_INDEX_SCALE"), (5, u "LOG2_ARRAY_SHORT_INDEX_SCALE"), (18, u "LOG2_ARRAY_FLOAT_INDEX_SCALE"), (24, u "LOG2_ARRAY_DOUBLE_INDEX_SCALE"), (89, u "T_BOOLEAN"), (2, u "T_CHAR"), (1, u "T_FLOAT"), (1, u "T_DOUBLE"), (1, u "T_BYTE"), (1, u "T_SHORT"), (1, u "T_INT"), (1, u "T_LONG"), (1, u "SOFT_MAX_ARRAY_LENGTH")] 83

def k12m0 : Method := { name := "<init>", desc := "()V", sig := { parameters := [], returnType := none }, accessFlags := 2, code := none }
/-- jdk/internal/util/ArraysSupport -/
def k12 : Class := { plain "jdk/internal/util/ArraysSupport" (some 0) with
  accessFlags := 33
  interfaces := #[]
  cf := some (fileOf pool12 21 #[] #[{ accessFlags := 2, nameIndex := 9, descriptorIndex := 19, attributes := #[] }] 33 16 #[] #[{ accessFlags := 24, nameIndex := 28, descriptorIndex := 29, attributes := #[] }, { accessFlags := 26, nameIndex := 38, descriptorIndex := 39, attributes := #[] }, { accessFlags := 25, nameIndex := 121, descriptorIndex := 25, attributes := #[] }, { accessFlags := 25, nameIndex := 131, descriptorIndex := 25, attributes := #[] }, { accessFlags := 25, nameIndex := 137, descriptorIndex := 25, attributes := #[] }, { accessFlags := 25, nameIndex := 143, descriptorIndex := 25, attributes := #[] }, { accessFlags := 25, nameIndex := 53, descriptorIndex := 25, attributes := #[] }, { accessFlags := 25, nameIndex := 24, descriptorIndex := 25, attributes := #[] }, { accessFlags := 25, nameIndex := 162, descriptorIndex := 25, attributes := #[] }, { accessFlags := 25, nameIndex := 187, descriptorIndex := 25, attributes := #[] }, { accessFlags := 26, nameIndex := 48, descriptorIndex := 25, attributes := #[] }, { accessFlags := 25, nameIndex := 277, descriptorIndex := 25, attributes := #[] }, { accessFlags := 25, nameIndex := 280, descriptorIndex := 25, attributes := #[] }, { accessFlags := 25, nameIndex := 282, descriptorIndex := 25, attributes := #[] }, { accessFlags := 25, nameIndex := 284, descriptorIndex := 25, attributes := #[] }, { accessFlags := 25, nameIndex := 286, descriptorIndex := 25, attributes := #[] }, { accessFlags := 25, nameIndex := 288, descriptorIndex := 25, attributes := #[] }, { accessFlags := 25, nameIndex := 290, descriptorIndex := 25, attributes := #[] }, { accessFlags := 25, nameIndex := 292, descriptorIndex := 25, attributes := #[] }, { accessFlags := 26, nameIndex := 108, descriptorIndex := 109, attributes := #[] }, { accessFlags := 25, nameIndex := 294, descriptorIndex := 25, attributes := #[] }])
  fields := #[{ name := "U", type := (.object "jdk/internal/misc/Unsafe"), accessFlags := 24, slot := 0, constantValue := 0 }, { name := "BIG_ENDIAN", type := .boolean, accessFlags := 26, slot := 1, constantValue := 0 }, { name := "LOG2_ARRAY_BOOLEAN_INDEX_SCALE", type := .int, accessFlags := 25, slot := 2, constantValue := 0 }, { name := "LOG2_ARRAY_BYTE_INDEX_SCALE", type := .int, accessFlags := 25, slot := 3, constantValue := 0 }, { name := "LOG2_ARRAY_CHAR_INDEX_SCALE", type := .int, accessFlags := 25, slot := 4, constantValue := 0 }, { name := "LOG2_ARRAY_SHORT_INDEX_SCALE", type := .int, accessFlags := 25, slot := 5, constantValue := 0 }, { name := "LOG2_ARRAY_INT_INDEX_SCALE", type := .int, accessFlags := 25, slot := 6, constantValue := 0 }, { name := "LOG2_ARRAY_LONG_INDEX_SCALE", type := .int, accessFlags := 25, slot := 7, constantValue := 0 }, { name := "LOG2_ARRAY_FLOAT_INDEX_SCALE", type := .int, accessFlags := 25, slot := 8, constantValue := 0 }, { name := "LOG2_ARRAY_DOUBLE_INDEX_SCALE", type := .int, accessFlags := 25, slot := 9, constantValue := 0 }, { name := "LOG2_BYTE_BIT_SIZE", type := .int, accessFlags := 26, slot := 10, constantValue := 0 }, { name := "T_BOOLEAN", type := .int, accessFlags := 25, slot := 11, constantValue := 0 }, { name := "T_CHAR", type := .int, accessFlags := 25, slot := 12, constantValue := 0 }, { name := "T_FLOAT", type := .int, accessFlags := 25, slot := 13, constantValue := 0 }, { name := "T_DOUBLE", type := .int, accessFlags := 25, slot := 14, constantValue := 0 }, { name := "T_BYTE", type := .int, accessFlags := 25, slot := 15, constantValue := 0 }, { name := "T_SHORT", type := .int, accessFlags := 25, slot := 16, constantValue := 0 }, { name := "T_INT", type := .int, accessFlags := 25, slot := 17, constantValue := 0 }, { name := "T_LONG", type := .int, accessFlags := 25, slot := 18, constantValue := 0 }, { name := "JLA", type := (.object "jdk/internal/access/JavaLangAccess"), accessFlags := 26, slot := 19, constantValue := 0 }, { name := "SOFT_MAX_ARRAY_LENGTH", type := .int, accessFlags := 25, slot := 20, constantValue := 0 }]
  methods := #[k12m0]
  instanceTypes := #[]
  staticTypes := #[(.object "jdk/internal/misc/Unsafe"), .boolean, .int, .int, .int, .int, .int, .int, .int, .int, .int, .int, .int, .int, .int, .int, .int, .int, .int, (.object "jdk/internal/access/JavaLangAccess"), .int]
  resolved := Array.replicate 378 none
  statics := none }

def pool13 : Array CpInfo := pool [(1, u "java/lang/Cloneable"), (0, .class_ 1), (0, u "java/lang/Object"), (0, .class_ 3)] 3

/-- java/lang/Cloneable -/
def k13 : Class := { plain "java/lang/Cloneable" (some 0) with
  accessFlags := 1537
  interfaces := #[]
  cf := some (fileOf pool13 2 #[] #[] 1537 4 #[] #[])
  fields := #[]
  methods := #[]
  instanceTypes := #[]
  staticTypes := #[]
  resolved := Array.replicate 8 none
  statics := none }

/-- the primitive byte -/
def k14 : Class := { plain "byte" none with kind := .primitive 'B', accessFlags := 0x411 }
/-- [B -/
def k15 : Class := { plain "[B" (some 0) with kind := .array 14 .byte, interfaces := #[13, 4], accessFlags := 1041 }

/-- the primitive int -/
def k16 : Class := { plain "int" none with kind := .primitive 'I', accessFlags := 0x411 }
/-- [I -/
def k17 : Class := { plain "[I" (some 0) with kind := .array 16 .int, interfaces := #[13, 4], accessFlags := 1041 }

def heap : Heap := #[{ cls := 6, slots := #[.ref 15, .ref 16, .ref 17, .ref 18, .ref 19, .ref 20, .null], vm := .statics 6 },
  { cls := 9, slots := #[.long 0, .int 1, .null, .int 0, .null, .int 0, .int 0], vm := .statics 9 },
  { cls := 11, slots := #[.null, .null, .null], vm := .statics 11 },
  { cls := 15, slots := #[.int 61], vm := .none },
  { cls := 15, slots := #[.int 60, .int 62], vm := .none },
  { cls := 15, slots := #[.int 60], vm := .none },
  { cls := 15, slots := #[.int 60, .int 61], vm := .none },
  { cls := 15, slots := #[.int 62], vm := .none },
  { cls := 15, slots := #[.int 62, .int 61], vm := .none },
  { cls := 9, slots := #[.ref 3, .int 0, .int 0, .int 0], vm := .none },
  { cls := 9, slots := #[.ref 4, .int 0, .int 0, .int 0], vm := .none },
  { cls := 9, slots := #[.ref 5, .int 0, .int 0, .int 0], vm := .none },
  { cls := 9, slots := #[.ref 6, .int 0, .int 0, .int 0], vm := .none },
  { cls := 9, slots := #[.ref 7, .int 0, .int 0, .int 0], vm := .none },
  { cls := 9, slots := #[.ref 8, .int 0, .int 0, .int 0], vm := .none },
  { cls := 6, slots := #[.null, .int 0, .int 0, .ref 9], vm := .none },
  { cls := 6, slots := #[.null, .int 1, .int 0, .ref 10], vm := .none },
  { cls := 6, slots := #[.null, .int 2, .int 0, .ref 11], vm := .none },
  { cls := 6, slots := #[.null, .int 3, .int 0, .ref 12], vm := .none },
  { cls := 6, slots := #[.null, .int 4, .int 0, .ref 13], vm := .none },
  { cls := 6, slots := #[.null, .int 5, .int 0, .ref 14], vm := .none }]
def classes : Array Class := #[k0, k1, k2, k3, k4, k5, k6, k7, k8, k9, k10, k11, k12, k13, k14, k15, k16, k17]
def interned : List (Array UInt16 × Addr) := []
def slotsUsed : Nat := 74
def theMethod : MethodId := ⟨1, 2⟩
def args0 : Array Value := #[.int 5]
def aboutOver (below : List Frame) : State where
  vm := { classes := classes, interned := interned.toArray }
  heap := heap
  slotsUsed := slotsUsed
  threads := #[{ frames := .invoking theMethod args0 :: below }]
def below0 : List Frame := [.native { method := ⟨0, 0⟩, args := #[] }]
def about1 : State := aboutOver below0
def p0 : Program := .bare "" "" ""
def e0 : Env := launch0.env 0 0 0
theorem w_frames : about1.frames = Frame.invoking theMethod args0 :: below0 := rfl
set_option maxRecDepth 65536 in
theorem w_args : argsFit about1.vm theMethod args0 = true := by decide +kernel
set_option maxRecDepth 65536 in
theorem w_heap : heapFits about1 = true := by decide +kernel
set_option maxRecDepth 65536 in
theorem w_runnable : about1.curStatus? = some .runnable := by decide +kernel
set_option maxRecDepth 65536 in
theorem w_alone : about1.alone = true := by decide +kernel
set_option maxRecDepth 65536 in
theorem w_named : about1.methodNamed? x = some theMethod := by decide +kernel
set_option maxRecDepth 65536 in
theorem w_hears : about1.hears theMethod below0 = true := by decide +kernel
set_option maxRecDepth 65536 in
theorem w_ripe : about1.ripe theMethod args0 below0 = true := by decide +kernel
theorem w_running : about1.status = .running := rfl
set_option maxRecDepth 65536 in
theorem w_room : about1.hasRoom e0.platform room_1 = true :=
  launch0.hasRoom_least _ room_1 (by decide +kernel) (by decide +kernel) (by decide +kernel) (by decide +kernel) (by decide +kernel) (by decide +kernel)
theorem allAtoms_all (ts : List Jvm.Cond) (a : Array Jvm.Value) (st : Jvm.State) : (allAtoms ts).before a st = ts.all (fun c => c.before a st) := by
  induction ts with
  | nil => rfl
  | cons c t ih =>
    show (Jvm.Cond.and c (allAtoms t)).before a st = _
    rw [Jvm.Cond.before_and, ih, List.all_cons]
def words1 : List Jvm.Cond := Jvm.Cond.code x code maxLocals ret :: tables_1
/-- a 'code' word, met by the world's own term for the bytes: nothing is compared byte by byte -/
theorem code_word {y : MethodName} {bytes : ByteArray} {mx : Nat} {rt : Option FieldType} {a : Array Value} {s : State} {m : MethodId} {meth : Method} {c : Code} (h1 : s.methodNamed? y = some m) (h2 : s.vm.method? m = some meth) (h3 : meth.code = some c) (h4 : c.code = bytes)
    (h5 : (c.maxLocals == mx && c.exceptionTable.isEmpty && decide (c.maxStack ≤ mostOperands) && decide (meth.sig.returnType = rt) && !meth.locks && decide (parseMethodDescriptor y.desc = some meth.sig)) = true) : (Jvm.Cond.code y bytes mx rt).before a s = true := by
  simp only [Bool.and_eq_true, beq_iff_eq, Bool.not_eq_true', decide_eq_true_eq] at h5
  obtain ⟨⟨⟨⟨⟨g1, g2⟩, g3⟩, g4⟩, g5⟩, g6⟩ := h5
  simp [Cond.before, Cond.holds, Cond.value, h1, h2, h3, h4, g1, g2, g3, g4, g5, g6]
def isCode : Jvm.Cond → Bool
  | .code _ _ _ _ => true
  | _ => false
theorem all_split {L : List Jvm.Cond} {P : Jvm.Cond → Bool} (h1 : L.all (fun c => isCode c || P c) = true) (h2 : ∀ c ∈ L.filter isCode, P c = true) : L.all P = true := by
  refine List.all_eq_true.mpr fun c hc => ?_
  have h := List.all_eq_true.mp h1 c hc
  rcases Bool.eq_false_or_eq_true (isCode c) with hi | hi
  · exact h2 c (List.mem_filter.mpr ⟨hc, hi⟩)
  · simpa [hi] using h
set_option maxRecDepth 65536 in
theorem w_c0 : (Jvm.Cond.code x code maxLocals ret).before args0 about1 = true := code_word (m := ⟨1, 2⟩) (meth := k1m2) (c := k1c2) (by decide +kernel) rfl rfl rfl (by decide +kernel)
set_option maxRecDepth 65536 in
theorem w_c1 : (Jvm.Cond.code ({ cls := "com/example/winj/winj/storage/Comparison", name := "orders", desc := "()Z" } : Jvm.MethodName) prog_3_method_5_code (1 : Nat) (Option.some Jvm.ClassFile.FieldType.boolean)).before args0 about1 = true := code_word (m := ⟨6, 1⟩) (meth := k6m1) (c := k6c1) (by decide +kernel) rfl rfl rfl (by decide +kernel)
set_option maxRecDepth 65536 in
theorem w_c2 : (Jvm.Cond.code ({ cls := "com/example/winj/winj/storage/Comparison", name := "operator", desc := "()Ljava/lang/String;" } : Jvm.MethodName) prog_3_method_4_code (1 : Nat) (Option.some (Jvm.ClassFile.FieldType.object "java/lang/String"))).before args0 about1 = true := code_word (m := ⟨6, 0⟩) (meth := k6m0) (c := k6c0) (by decide +kernel) rfl rfl rfl (by decide +kernel)
set_option maxRecDepth 65536 in
theorem w_c3 : (Jvm.Cond.code ({ cls := "com/example/winj/winj/storage/ComparisonOrdersPinLaw", name := "holds", desc := "(Ljava/lang/String;I)Z" } : Jvm.MethodName) method_2_code (2 : Nat) (Option.some Jvm.ClassFile.FieldType.boolean)).before args0 about1 = true := code_word (m := ⟨1, 1⟩) (meth := k1m1) (c := k1c1) (by decide +kernel) rfl rfl rfl (by decide +kernel)
set_option maxRecDepth 65536 in
theorem w_c4 : (Jvm.Cond.code ({ cls := "java/lang/String", name := "equals", desc := "(Ljava/lang/Object;)Z" } : Jvm.MethodName) jdk_42_method_66_code (3 : Nat) (Option.some Jvm.ClassFile.FieldType.boolean)).before args0 about1 = true := code_word (m := ⟨9, 1⟩) (meth := k9m1) (c := k9c1) (by decide +kernel) rfl rfl rfl (by decide +kernel)
set_option maxRecDepth 65536 in
theorem w_c5 : (Jvm.Cond.code ({ cls := "java/lang/StringLatin1", name := "equals", desc := "([B[B)Z" } : Jvm.MethodName) jdk_43_method_13_code (3 : Nat) (Option.some Jvm.ClassFile.FieldType.boolean)).before args0 about1 = true := code_word (m := ⟨10, 1⟩) (meth := k10m1) (c := k10c1) (by decide +kernel) rfl rfl rfl (by decide +kernel)
def codes1 : List Jvm.Cond := [Jvm.Cond.code x code maxLocals ret, Jvm.Cond.code ({ cls := "com/example/winj/winj/storage/Comparison", name := "orders", desc := "()Z" } : Jvm.MethodName) prog_3_method_5_code (1 : Nat) (Option.some Jvm.ClassFile.FieldType.boolean), Jvm.Cond.code ({ cls := "com/example/winj/winj/storage/Comparison", name := "operator", desc := "()Ljava/lang/String;" } : Jvm.MethodName) prog_3_method_4_code (1 : Nat) (Option.some (Jvm.ClassFile.FieldType.object "java/lang/String")), Jvm.Cond.code ({ cls := "com/example/winj/winj/storage/ComparisonOrdersPinLaw", name := "holds", desc := "(Ljava/lang/String;I)Z" } : Jvm.MethodName) method_2_code (2 : Nat) (Option.some Jvm.ClassFile.FieldType.boolean), Jvm.Cond.code ({ cls := "java/lang/String", name := "equals", desc := "(Ljava/lang/Object;)Z" } : Jvm.MethodName) jdk_42_method_66_code (3 : Nat) (Option.some Jvm.ClassFile.FieldType.boolean), Jvm.Cond.code ({ cls := "java/lang/StringLatin1", name := "equals", desc := "([B[B)Z" } : Jvm.MethodName) jdk_43_method_13_code (3 : Nat) (Option.some Jvm.ClassFile.FieldType.boolean)]
set_option maxRecDepth 65536 in
theorem codes_eq : words1.filter isCode = codes1 := rfl
theorem w_codes : ∀ c ∈ words1.filter isCode, c.before args0 about1 = true := by
  rw [codes_eq]
  intro c hc
  simp only [codes1, List.mem_cons, List.not_mem_nil, or_false] at hc
  rcases hc with rfl | rfl | rfl | rfl | rfl | rfl
  · exact w_c0
  · exact w_c1
  · exact w_c2
  · exact w_c3
  · exact w_c4
  · exact w_c5
set_option maxRecDepth 65536 in
theorem w_t1 : (words1.take 24).all (fun c => isCode c || c.before args0 about1) = true := by decide +kernel
set_option maxRecDepth 65536 in
theorem w_t2 : ((words1.drop 24).take 24).all (fun c => isCode c || c.before args0 about1) = true := by decide +kernel
set_option maxRecDepth 65536 in
theorem w_t3 : ((words1.drop 24).drop 24).all (fun c => isCode c || c.before args0 about1) = true := by decide +kernel
theorem w_tables : (allAtoms (Jvm.Cond.code x code maxLocals ret :: tables_1)).before args0 about1 = true := by
  rw [allAtoms_all]
  show words1.all (fun c => c.before args0 about1) = true
  refine all_split ?_ w_codes
  rw [← List.take_append_drop 24 words1, List.all_append, w_t1, ← List.take_append_drop 24 (words1.drop 24), List.all_append, w_t2, w_t3]
  rfl
set_option maxRecDepth 65536 in
theorem w_rest : rest_1_c.before args0 about1 = true := by decide +kernel
set_option maxRecDepth 65536 in
theorem w_case : (Jvm.Cond.and given_1 narrow_1).before args0 about1 = true := by decide +kernel
set_option maxRecDepth 65536 in
theorem w_consts : constsHeld consts_1 about1 := Jvm.Lit.constsHeldB_iff.mp (by decide +kernel)
theorem w_applies : (headSpec (Jvm.Cond.code x code maxLocals ret :: tables_1) room_1).applies x e0.platform about1 = true :=
  (Spec.applies_iff w_frames).mpr ⟨w_running, w_runnable, w_alone, w_named, w_hears, w_ripe, w_room, w_tables⟩
theorem atStart : AtStart classFile x code maxLocals ret World_1 tables_1 room_1 Calls_1 rest_1 Pre_1 launch0 p0 e0 about1 theMethod args0 below0 :=
  ⟨lists_1, trivial, launch0.admits_env _ _ _, launch0.least_env, fairChoices_fair.cas, fairChoices_fair.clock, w_frames, w_args, w_heap, w_applies, ⟨w_consts, trivial⟩, w_rest, w_case⟩
end start1
theorem witness_1 : WitnessClaimed_1 := ⟨start1.p0, start1.e0, start1.about1, start1.theMethod, start1.args0, start1.below0, start1.atStart⟩
end Jvm.Pilot.@@N@@
