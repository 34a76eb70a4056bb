import JvmDerived
import JvmDerived.Pilot.@@N@@Statement
import JvmDerived.Pilot.@@N@@Code
set_option linter.unusedVariables false
set_option linter.unusedSimpArgs false
namespace Jvm.Pilot.@@N@@
open Jvm Jvm.ClassFile Sem Op Lib Jvm.Free Jvm.Stand Jvm.LawKit Jvm.RoadKit Bundle Jvm.Pilot.@@N@@.Jvm.D
section OwnKit
variable {p : Program} {l : Launch} {e : Env} {R : Room} {s : State} {m : MethodId} {args : Array Value} {below : List Frame} {meth : Method} {c : Code} {T : State} {locs : List Loc} {cells slots ck sk : Nat} {S S' t : State} {Q : Option Value → Heap → List Loc → Prop}
/-- from S the run comes to a return of which Q is said -/
def Go (p : Program) (e : Env) (below : List Frame) (s : State) (Q : Option Value → Heap → List Loc → Prop) (ck sk : Nat) (S : State) : Prop :=
  ∃ s₂ o, Steps p.tables e below S s₂ ∧ s₂.status = .running ∧ Ended s₂ below o ∧ ∃ v L, o = .returned v ∧ Q v s₂.heap L ∧ FrameEnd s o s₂ L ck sk
theorem Go.st (h : ∀ t, Steps p.tables e below S' t → Steps p.tables e below S t) (k : Go p e below s Q ck sk S') : Go p e below s Q ck sk S := by
  obtain ⟨s₂, o, h1, r⟩ := k
  exact ⟨s₂, o, h _ h1, r⟩
theorem Go.tr (h : Steps p.tables e below S S') (k : Go p e below s Q ck sk S') : Go p e below s Q ck sk S := Go.st (fun _ q => h.trans q) k
theorem via (h : Steps p.tables e below S' t → Steps p.tables e below S t) (k : Steps p.tables e below S' t) : Steps p.tables e below S t := h k
theorem Go.retW (X : Stand p l e R s m args below meth c T locs cells slots) (hx : p.tables.exec = Jvm.exec) (hlk : meth.locks = false) {pc : Nat} {Ls : Array Slot} {w : Value} {ty : FieldType} {i : Instr} {rest : List Value} (hret : meth.sig.returnType = some ty) (hn : narrow ty w = w)
    (hi : (i = .ireturn ∧ (ty = .int ∨ ty = .boolean ∨ ty = .byte ∨ ty = .char ∨ ty = .short) ∧ ∃ z, w = .int z) ∨ (i = .lreturn ∧ ty = .long ∧ ∃ z, w = .long z) ∨ (i = .dreturn ∧ ty = .double ∧ ∃ z, w = .double z) ∨ (i = .freturn ∧ ty = .float ∧ ∃ z, w = .float z) ∨ (i = .areturn ∧ ty.isReference = true ∧ w.isRef = true))
    (hd : decode c.code pc = .ok (i, 1)) (hQ : Q (some w) T.heap locs) (hc : cells ≤ ck) (hs : slots ≤ sk) : Go p e below s Q ck sk (T.setTop (mkF m pc Ls (w :: rest))) := by
  obtain ⟨fs, hr, hrun, hended, hW, hsame⟩ := X.leave (v := some w) (fun h => by rw [hret] at h; cases h)
  exact ⟨_, _, retOut X hx hret hn hi hd hr, hrun, hended, _, _, rfl, hQ, ⟨_, rfl⟩, hW, hsame.mono hc hs⟩
theorem Go.retI (X : Stand p l e R s m args below meth c T locs cells slots) (hx : p.tables.exec = Jvm.exec) (hlk : meth.locks = false) {pc : Nat} {Ls : Array Slot} {z : Int32} {rest : List Value} (hret : meth.sig.returnType = some .int) (hd : decode c.code pc = .ok (.ireturn, 1)) (hQ : Q (some (.int z)) T.heap locs) (hc : cells ≤ ck) (hs : slots ≤ sk) : Go p e below s Q ck sk (T.setTop (mkF m pc Ls (.int z :: rest))) :=
  Go.retW X hx hlk hret rfl (Or.inl ⟨rfl, Or.inl rfl, _, rfl⟩) hd hQ hc hs
theorem Go.retJ (X : Stand p l e R s m args below meth c T locs cells slots) (hx : p.tables.exec = Jvm.exec) (hlk : meth.locks = false) {pc : Nat} {Ls : Array Slot} {z : Int64} {rest : List Value} (hret : meth.sig.returnType = some .long) (hd : decode c.code pc = .ok (.lreturn, 1)) (hQ : Q (some (.long z)) T.heap locs) (hc : cells ≤ ck) (hs : slots ≤ sk) : Go p e below s Q ck sk (T.setTop (mkF m pc Ls (.long z :: rest))) :=
  Go.retW X hx hlk hret rfl (Or.inr (Or.inl ⟨rfl, rfl, _, rfl⟩)) hd hQ hc hs
theorem Go.retA (X : Stand p l e R s m args below meth c T locs cells slots) (hx : p.tables.exec = Jvm.exec) (hlk : meth.locks = false) {pc : Nat} {Ls : Array Slot} {w : Value} {ty : FieldType} {rest : List Value} (hret : meth.sig.returnType = some ty) (ht : ty.isReference = true) (hw : w.isRef = true) (hd : decode c.code pc = .ok (.areturn, 1)) (hQ : Q (some w) T.heap locs) (hc : cells ≤ ck) (hs : slots ≤ sk) : Go p e below s Q ck sk (T.setTop (mkF m pc Ls (w :: rest))) :=
  Go.retW X hx hlk hret (by cases ty <;> first | (cases ht; done) | (cases w <;> first | rfl | cases hw)) (Or.inr (Or.inr (Or.inr (Or.inr ⟨rfl, ht, hw⟩)))) hd hQ hc hs
theorem Go.retN (X : Stand p l e R s m args below meth c T locs cells slots) (hx : p.tables.exec = Jvm.exec) (hlk : meth.locks = false) {pc : Nat} {Ls : Array Slot} {z : Int32} {t : FieldType} {rest : List Value} (hret : meth.sig.returnType = some t) (ht : t = .boolean ∨ t = .byte ∨ t = .char ∨ t = .short) (hd : decode c.code pc = .ok (.ireturn, 1)) (hQ : Q (some (.int (nar t z))) T.heap locs) (hc : cells ≤ ck) (hs : slots ≤ sk) : Go p e below s Q ck sk (T.setTop (mkF m pc Ls (.int z :: rest))) := by
  obtain ⟨fs, hr, hrun, hended, hW, hsame⟩ := X.leave (v := some (.int (nar t z))) (fun h => by rw [hret] at h; cases h)
  exact ⟨_, _, Jvm.RoadKit.retN X hx hret ht hd hr, hrun, hended, _, _, rfl, hQ, ⟨_, rfl⟩, hW, hsame.mono hc hs⟩
theorem Go.ret0 (X : Stand p l e R s m args below meth c T locs cells slots) (hx : p.tables.exec = Jvm.exec) (hlk : meth.locks = false) {pc : Nat} {Ls : Array Slot} (hret : meth.sig.returnType = none) (hd : decode c.code pc = .ok (.return_, 1)) (hQ : Q none T.heap locs) (hc : cells ≤ ck) (hs : slots ≤ sk) : Go p e below s Q ck sk (T.setTop (mkF m pc Ls [])) := by
  obtain ⟨fs, hr, hrun, hended, hW, hsame⟩ := X.leave (v := none) (fun _ => rfl)
  exact ⟨_, _, X.returnOut hx hret hd hr, hrun, hended, _, _, rfl, hQ, ⟨_, rfl⟩, hW, hsame.mono hc hs⟩
/-- what a body leaves that writes nothing -/
def PQ (w : Value) (n0 : Nat) (h0 : Heap) (v : Option Value) (h : Heap) (L : List Loc) : Prop := v = some w ∧ Fr n0 L ∧ h = h0
/-- what the law leaves -/
def LQ (n0 : Nat) (v : Option Value) (h : Heap) (L : List Loc) : Prop := v = some (.int 1) ∧ Fr n0 L
/-- the j-th of a list of ints -/
def bt (bs : List Int32) (j : Int32) : Int32 := bs.getD j.toNatClampNeg 0
theorem own_at {bs : List Int32} {c : Cell} {j : Int32} (H : Has c (bs.map .int) (.int 0)) (hin : ¬ (j < 0 ∨ c.slots.size ≤ j.toNatClampNeg)) : c.slots[j.toNatClampNeg]? = some (.int (bt bs j)) :=
  Has.at H hin (by unfold bt; simp only [List.getD, List.getElem?_map]; cases bs[j.toNatClampNeg]? <;> rfl)
/-- the j-th of a list of longs -/
def bl (bs : List Int64) (j : Int32) : Int64 := bs.getD j.toNatClampNeg 0
theorem own_atL {bs : List Int64} {c : Cell} {j : Int32} (H : Has c (bs.map .long) (.long 0)) (hin : ¬ (j < 0 ∨ c.slots.size ≤ j.toNatClampNeg)) : c.slots[j.toNatClampNeg]? = some (.long (bl bs j)) :=
  Has.at H hin (by unfold bl; simp only [List.getD, List.getElem?_map]; cases bs[j.toNatClampNeg]? <;> rfl)
theorem own_len {t : Term} {a : Addr} {cl : Cell} {n : Int32} (ev : t.eval args s none [] s = some (.ref a)) (ha : s.arrayAt? a = some cl) (h : (Cond.eq (.length t) (.int n)).value args s none s [] = some true) : cl.slots.size < 2 ^ 31 ∧ cl.slots.size.toInt32 = n := by
  by_cases q : cl.slots.size < 2 ^ 31
  · exact ⟨q, gotT (Cond.eq_ints (len_f ev ha q) (Term.int_eval n)) h⟩
  · exfalso
    simp [Cond.value, Term.eval, ev, ha, q] at h
theorem own_size {cl : Cell} {n : Int32} {k : Nat} (q : cl.slots.size < 2 ^ 31 ∧ cl.slots.size.toInt32 = n) (hk : n.toInt = k) : cl.slots.size = k := by
  have h := len_toInt q.1
  rw [q.2, hk] at h
  omega
theorem own_selp {Z : State} {az : Array Value} {y : MethodName} {n : Nat} (hZ : Z.Warmed39 s.vm) (wi : (Cond.instantiable y.cls n).before az Z = true) (wp : (Cond.privateMethod y).before az Z = true) (w : (Cond.instanceMethod y).before az Z = true) (hy : y.cls ≠ "java/lang/invoke/MethodHandle" ∧ y.cls ≠ "java/lang/invoke/VarHandle") : (Cond.selects y.cls y y).before args s = true := by
  obtain ⟨c, k, h1, h2, h3, h4, -⟩ := Cond.instantiable_spec (mvT hZ wi : (Cond.instantiable y.cls n).before args s = true)
  exact selects_self_of_private h1 h2 (Bool.or_eq_false_iff.mp h4).1 (Cond.privateMethod_at (mvP hZ wp (args := #[]))) (mvT hZ w) hy
theorem own_extK {h h' : Heap} (K : Keep h h' []) : Ext h h' := ⟨K.1, fun a c q => K.2.1 a c q (List.not_mem_nil)⟩
theorem own_stak {Z : State} {h h' : Heap} {ws : List Addr} {C n d : String} {v : Value} (K : Keep h h' ws) (hn : ∀ x ∈ ws, ∀ cell : Cell, h[x]? = some cell → cell.vm.isStatics = false) (F : Sta Z h C n d v) : Sta Z h' C n d v := by
  obtain ⟨cf, i, k, f, st, cell, h1, h2, h3, h4, h5, h6, h7⟩ := F
  exact ⟨cf, i, k, f, st, cell, h1, h2, h3, h4, K.2.1 _ _ h5 (fun hm => by have q := hn _ hm _ h5; rw [h6] at q; cases q), h6, h7⟩
end OwnKit

theorem pd_0 : parseMethodDescriptor "(ICCC)Ljava/lang/String;" = some ⟨[.int, .char, .char, .char], some (.object "java/lang/String")⟩ := by decide +kernel
theorem pd_1 : parseMethodDescriptor "([C)V" = some ⟨[(.array .char)], none⟩ := by decide +kernel
theorem pd_2 : parseMethodDescriptor "([CIILjava/lang/Void;)V" = some ⟨[(.array .char), .int, .int, (.object "java/lang/Void")], none⟩ := by decide +kernel
theorem pd_3 : parseMethodDescriptor "()V" = some ⟨[], none⟩ := by decide +kernel
theorem pd_4 : parseMethodDescriptor "([CII)[B" = some ⟨[(.array .char), .int, .int], some (.array .byte)⟩ := by decide +kernel
theorem pd_5 : parseMethodDescriptor "([CI[BII)I" = some ⟨[(.array .char), .int, (.array .byte), .int, .int], some .int⟩ := by decide +kernel
theorem pd_6 : parseMethodDescriptor "([BI)B" = some ⟨[(.array .byte), .int], some .byte⟩ := by decide +kernel
theorem pd_7 : parseMethodDescriptor "(I)Lcom/example/patient_snoop/patientsnoop/io/Token$Kind;" = some ⟨[.int], some (.object "com/example/patient_snoop/patientsnoop/io/Token$Kind")⟩ := by decide +kernel
theorem pd_8 : parseMethodDescriptor "(Lcom/example/patient_snoop/patientsnoop/io/Token$Kind;Ljava/lang/String;I)V" = some ⟨[(.object "com/example/patient_snoop/patientsnoop/io/Token$Kind"), (.object "java/lang/String"), .int], none⟩ := by decide +kernel
theorem pd_9 : parseMethodDescriptor "(Ljava/lang/String;)Z" = some ⟨[(.object "java/lang/String")], some .boolean⟩ := by decide +kernel
theorem pd_10 : parseMethodDescriptor "(Ljava/lang/Object;)Z" = some ⟨[(.object "java/lang/Object")], some .boolean⟩ := by decide +kernel
theorem pd_11 : parseMethodDescriptor "([B[B)Z" = some ⟨[(.array .byte), (.array .byte)], some .boolean⟩ := by decide +kernel
/-- 1 where the lists are alike -/
def own_eqI (xs ys : List Int32) : Int32 := if xs = ys then 1 else 0
theorem own_fldu {Z : State} {h : Heap} {a : Addr} {C n d : String} {v w : Value} (F : Fld Z h a C n d v) (G : Fld Z h a C n d w) : v = w := Decidable.byContradiction fun q => (Fld.ne F G q) rfl
theorem own_arvu {Z : State} {h : Heap} {b : Addr} {k k' : ClassId} {z z' : Int32} {xs ys : List Int32} (A : Arv Z h b k .byte z (xs.map .int) (.int 0)) (B : Arv Z h b k' .byte z' (ys.map .int) (.int 0)) (lx : z.toNatClampNeg = xs.length) (ly : z'.toNatClampNeg = ys.length) : xs = ys := by
  obtain ⟨c, A1, -, A3, -, A5, -⟩ := A
  obtain ⟨c', B1, -, B3, -, B5, -⟩ := B
  cases A1.1.symm.trans B1.1
  have hl : xs.length = ys.length := by omega
  refine List.ext_getElem hl fun i h1 h2 => ?_
  have q := (A5 i (by omega)).symm.trans (B5 i (by omega))
  simp only [List.getD_eq_getElem?_getD, List.getElem?_map, List.getElem?_eq_getElem h1, List.getElem?_eq_getElem h2] at q
  exact Value.int.inj (Option.some.inj q)
theorem own_zn {z : Int32} {n : Nat} (h : ¬ z < 0) (q : z.toNatClampNeg = n) : z.toInt = n := by
  rw [Int32.lt_iff_toInt_lt] at h
  simp only [Int32.reduceToInt, Int32.toNatClampNeg] at h q
  omega
theorem own_zz {z z' : Int32} (h : ¬ z < 0) (h' : ¬ z' < 0) (q : z.toNatClampNeg = z'.toNatClampNeg) : z = z' := Int32.toInt_inj.mp ((own_zn h rfl).trans (by rw [q]; exact (own_zn h' rfl).symm))
theorem own_arvn {Z : State} {h : Heap} {b : Addr} {k : ClassId} {ty : FieldType} {z : Int32} {vs : List Value} {d : Value} (A : Arv Z h b k ty z vs d) : ¬ z < 0 := by obtain ⟨c, -, -, -, q, -⟩ := A; exact q
theorem own_add1 {w : Int32} {i : Nat} (h : w.toInt = i) (hb : i < 2147483647) : (w + (1 : Int32)).toInt = (i + 1 : Nat) := by
  have q := c_iadd w 1
  simp only [Int32.reduceToInt] at q
  rw [h] at q
  have h1 := (w + (1 : Int32)).le_toInt
  have h2 := (w + (1 : Int32)).toInt_lt
  simp only [Int.reducePow, Int.reduceNeg] at h1 h2
  omega
theorem own_btg {xs : List Int32} {w : Int32} {i : Nat} (h : w.toInt = i) : bt xs w = xs.getD i 0 := by
  unfold bt; rw [show w.toNatClampNeg = i from by simp only [Int32.toNatClampNeg]; omega]
theorem own_eq1 {xs ys : List Int32} (hl : xs.length = ys.length) (h : ∀ j, j < xs.length → xs.getD j 0 = ys.getD j 0) : own_eqI xs ys = 1 := by
  unfold own_eqI
  rw [if_pos (List.ext_getElem hl fun i h1 h2 => ?_)]
  have q := h i h1
  simpa [List.getD_eq_getElem?_getD, List.getElem?_eq_getElem h1, List.getElem?_eq_getElem h2] using q
theorem own_eq0 {xs ys : List Int32} {i : Nat} (h : ¬ xs.getD i 0 = ys.getD i 0) : own_eqI xs ys = 0 := by
  unfold own_eqI; rw [if_neg fun q => h (by rw [q])]
theorem own_eql {xs ys : List Int32} (h : ¬ xs.length = ys.length) : own_eqI xs ys = 0 := by
  unfold own_eqI; rw [if_neg fun q => h (by rw [q])]
theorem own_eq01 (xs ys : List Int32) : own_eqI xs ys = 0 ∨ own_eqI xs ys = 1 := by unfold own_eqI; split; exact Or.inr rfl; exact Or.inl rfl
theorem own_ltz {w z : Int32} {i n : Nat} (h : w.toInt = i) (hz : z.toInt = n) (q : i < n) : ¬ w < 0 ∧ w < z := by
  rw [Int32.lt_iff_toInt_lt, Int32.lt_iff_toInt_lt, h, hz]; simp only [Int32.reduceToInt]; omega
theorem own_gez {w z : Int32} {i n : Nat} (h : w.toInt = i) (hz : z.toInt = n) (q : n ≤ i) : ¬ w < z := by
  rw [Int32.lt_iff_toInt_lt, h, hz]; omega
theorem d13_0 : decode jdk_43_method_13_code 0 = .ok (.aload_n 0, 1) := by decide +kernel
theorem d13_1 : decode jdk_43_method_13_code 1 = .ok (.arraylength, 1) := by decide +kernel
theorem d13_2 : decode jdk_43_method_13_code 2 = .ok (.aload_n 1, 1) := by decide +kernel
theorem d13_3 : decode jdk_43_method_13_code 3 = .ok (.arraylength, 1) := by decide +kernel
theorem d13_4 : decode jdk_43_method_13_code 4 = .ok (.if_icmp .ne 30, 3) := by decide +kernel
theorem d13_7 : decode jdk_43_method_13_code 7 = .ok (.iconst 0, 1) := by decide +kernel
theorem d13_8 : decode jdk_43_method_13_code 8 = .ok (.istore_n 2, 1) := by decide +kernel
theorem d13_9 : decode jdk_43_method_13_code 9 = .ok (.iload_n 2, 1) := by decide +kernel
theorem d13_10 : decode jdk_43_method_13_code 10 = .ok (.aload_n 0, 1) := by decide +kernel
theorem d13_11 : decode jdk_43_method_13_code 11 = .ok (.arraylength, 1) := by decide +kernel
theorem d13_12 : decode jdk_43_method_13_code 12 = .ok (.if_icmp .ge 20, 3) := by decide +kernel
theorem d13_15 : decode jdk_43_method_13_code 15 = .ok (.aload_n 0, 1) := by decide +kernel
theorem d13_16 : decode jdk_43_method_13_code 16 = .ok (.iload_n 2, 1) := by decide +kernel
theorem d13_17 : decode jdk_43_method_13_code 17 = .ok (.baload, 1) := by decide +kernel
theorem d13_18 : decode jdk_43_method_13_code 18 = .ok (.aload_n 1, 1) := by decide +kernel
theorem d13_19 : decode jdk_43_method_13_code 19 = .ok (.iload_n 2, 1) := by decide +kernel
theorem d13_20 : decode jdk_43_method_13_code 20 = .ok (.baload, 1) := by decide +kernel
theorem d13_21 : decode jdk_43_method_13_code 21 = .ok (.if_icmp .eq 5, 3) := by decide +kernel
theorem d13_24 : decode jdk_43_method_13_code 24 = .ok (.iconst 0, 1) := by decide +kernel
theorem d13_25 : decode jdk_43_method_13_code 25 = .ok (.ireturn, 1) := by decide +kernel
theorem d13_26 : decode jdk_43_method_13_code 26 = .ok (.iinc 2 1, 3) := by decide +kernel
theorem d13_29 : decode jdk_43_method_13_code 29 = .ok (.goto (-20), 3) := by decide +kernel
theorem d13_32 : decode jdk_43_method_13_code 32 = .ok (.iconst 1, 1) := by decide +kernel
theorem d13_33 : decode jdk_43_method_13_code 33 = .ok (.ireturn, 1) := by decide +kernel
theorem d13_34 : decode jdk_43_method_13_code 34 = .ok (.iconst 0, 1) := by decide +kernel
theorem d13_35 : decode jdk_43_method_13_code 35 = .ok (.ireturn, 1) := by decide +kernel
theorem pn_0 : plainName "java/lang/StringLatin1" = true := by first | (simp [plainName, overriddenIn]; done) | decide +kernel
theorem ef_13 (m : MethodId) (a0 : Addr) (a1 : Addr) : entryFrame m #[(.ref a0), (.ref a1)] 3 = mkF m 0 #[.val (.ref a0), .val (.ref a1), .unset] [] := by first | (simp [entryFrame, mkF, argsToLocals, Value.category]; done) | rfl
set_option maxRecDepth 65536 in
set_option maxHeartbeats 4000000 in
theorem loopLE {l : Launch} {Z : State} {az : Array Value} (hw : ∀ d ∈ tables_1, d.before az Z = true) {p : Program} {e : Env} {s : State} {m : MethodId} {args : Array Value} {below : List Frame} {meth : Method} {c : Code} {h0 : Heap} {n0 : Nat} (a0 a1 : Addr) (k0 k1 : ClassId) (z : Int32) (xs ys : List Int32) (hx : p.tables.exec = Jvm.exec) (hZ : Z.Warmed39 s.vm) (hby : c.code = jdk_43_method_13_code) (hml : c.maxLocals = 3) (hown : s.vm.findClass "java/lang/StringLatin1" = some m.cls) (hlk : meth.locks = false) (hret : meth.sig.returnType = some .boolean) (Z0 : n0 ≤ h0.size) (V_a0 : Arv Z h0 a0 k0 .byte z (xs.map .int) (.int 0)) (V_a1 : Arv Z h0 a1 k1 .byte z (ys.map .int) (.int 0)) (lx : z.toNatClampNeg = xs.length) (ly : z.toNatClampNeg = ys.length) :
    ∀ (k : Nat) (T0 : State) (locs : List Loc) (i : Nat) (wv : Int32), Stand p l e ({ frames := 0, cells := 0, slots := 0, locals := 0 } : Room) s m args below meth c T0 locs 0 0 → Fr n0 locs → T0.heap = h0 → (i + k = xs.length) → (wv.toInt = i) → (∀ j, j < i → xs.getD j 0 = ys.getD j 0) →  Go p e below s (PQ (.int (own_eqI xs ys)) n0 h0) 0 0 (T0.setTop (mkF m 9 #[.val (.ref a0), .val (.ref a1), .val (.int wv)] [])) := by
  intro k
  induction k with
  | zero =>
    intro T0 locs i wv X0 N0 e0 hik hwv hpre
    have hz := own_zn (own_arvn V_a0) lx
    have hn := own_gez hwv hz (by omega)
    refine Go.st (S' := T0.setTop (mkF m 10 #[.val (.ref a0), .val (.ref a1), .val (.int wv)] [(.int wv)])) (fun _ kk => XS.iloadN X0.here hx rfl (hb hby d13_9) rfl kk) ?_
    refine Go.st (S' := T0.setTop (mkF m 11 #[.val (.ref a0), .val (.ref a1), .val (.int wv)] [(.ref a0), (.int wv)])) (fun _ kk => XS.aloadN X0.here hx rfl (hb hby d13_10) rfl rfl kk) ?_
    obtain ⟨cl1, Ar1, -, S1, Ng1, -, -⟩ := (id V_a0)
    refine Go.st (S' := T0.setTop (mkF m 12 #[.val (.ref a0), .val (.ref a1), .val (.int wv)] [(.int z), (.int wv)])) (fun _ kk => X0.arraylength hx (by rw [e0]; exact Ar1.1) (State.isArrayOf_alike hZ.alike Ar1.2.1) (g := (mkF m 11 #[.val (.ref a0), .val (.ref a1), .val (.int wv)] [(.ref a0), (.int wv)])) rfl rfl (hb hby d13_11) _ (by rw [len_of S1 Ng1]; exact kk)) ?_
    refine Go.st (S' := T0.setTop (mkF m 32 #[.val (.ref a0), .val (.ref a1), .val (.int wv)] [])) (fun _ kk => XS.icmpYes X0.here hx rfl (pc0 := 12) (pc' := 32) rfl (hb hby d13_12) rfl (flt hn).2.1 (by decide) (by decide) kk) ?_
    refine Go.st (S' := T0.setTop (mkF m 33 #[.val (.ref a0), .val (.ref a1), .val (.int wv)] [(.int (1 : Int32))])) (fun _ kk => XS.iconst X0.here hx rfl (hb hby d13_32) kk) ?_
    exact Go.retN X0 hx hlk (t := .boolean) hret (by simp) (hb hby d13_33) (⟨congrArg (fun q => some (Value.int q)) (Eq.symm (show own_eqI xs ys = (1 : Int32) from own_eq1 (lx.symm.trans ly) (fun j hj => hpre j (by omega)))), N0, e0⟩) (by decide) (by decide)
  | succ k ih =>
    intro T0 locs i wv X0 N0 e0 hik hwv hpre
    have hz := own_zn (own_arvn V_a0) lx
    have hin := own_ltz hwv hz (by omega)
    refine Go.st (S' := T0.setTop (mkF m 10 #[.val (.ref a0), .val (.ref a1), .val (.int wv)] [(.int wv)])) (fun _ kk => XS.iloadN X0.here hx rfl (hb hby d13_9) rfl kk) ?_
    refine Go.st (S' := T0.setTop (mkF m 11 #[.val (.ref a0), .val (.ref a1), .val (.int wv)] [(.ref a0), (.int wv)])) (fun _ kk => XS.aloadN X0.here hx rfl (hb hby d13_10) rfl rfl kk) ?_
    obtain ⟨cl1, Ar1, -, S1, Ng1, -, -⟩ := (id V_a0)
    refine Go.st (S' := T0.setTop (mkF m 12 #[.val (.ref a0), .val (.ref a1), .val (.int wv)] [(.int z), (.int wv)])) (fun _ kk => X0.arraylength hx (by rw [e0]; exact Ar1.1) (State.isArrayOf_alike hZ.alike Ar1.2.1) (g := (mkF m 11 #[.val (.ref a0), .val (.ref a1), .val (.int wv)] [(.ref a0), (.int wv)])) rfl rfl (hb hby d13_11) _ (by rw [len_of S1 Ng1]; exact kk)) ?_
    refine Go.st (S' := T0.setTop (mkF m 15 #[.val (.ref a0), .val (.ref a1), .val (.int wv)] [])) (fun _ kk => XS.icmpNo X0.here hx rfl (hb hby d13_12) rfl (tlt hin.2).2.1 kk) ?_
    refine Go.st (S' := T0.setTop (mkF m 16 #[.val (.ref a0), .val (.ref a1), .val (.int wv)] [(.ref a0)])) (fun _ kk => XS.aloadN X0.here hx rfl (hb hby d13_15) rfl rfl kk) ?_
    refine Go.st (S' := T0.setTop (mkF m 17 #[.val (.ref a0), .val (.ref a1), .val (.int wv)] [(.int wv), (.ref a0)])) (fun _ kk => XS.iloadN X0.here hx rfl (hb hby d13_16) rfl kk) ?_
    obtain ⟨cl2, Ar2, qk2, S2, Ng2, H2, G2⟩ := (id V_a0)
    have hin2 : ¬ (wv < 0 ∨ cl2.slots.size ≤ (wv).toNatClampNeg) := inb_of S2 hin
    have hat2 : cl2.slots[(wv).toNatClampNeg]? = some (.int (bt xs wv)) := own_at H2 hin2
    refine Go.st (S' := T0.setTop (mkF m 18 #[.val (.ref a0), .val (.ref a1), .val (.int wv)] [(.int (bt xs wv))])) (fun _ kk => X0.baloadBytes hx (j := wv) (v := (.int (bt xs wv))) (by rw [e0]; exact Ar2.1) (State.isArrayOf_alike hZ.alike Ar2.2.1) Ar2.2.2 hin2 hat2 (g := (mkF m 17 #[.val (.ref a0), .val (.ref a1), .val (.int wv)] [(.int wv), (.ref a0)])) rfl rfl (hb hby d13_17) _ kk) ?_
    refine Go.st (S' := T0.setTop (mkF m 19 #[.val (.ref a0), .val (.ref a1), .val (.int wv)] [(.ref a1), (.int (bt xs wv))])) (fun _ kk => XS.aloadN X0.here hx rfl (hb hby d13_18) rfl rfl kk) ?_
    refine Go.st (S' := T0.setTop (mkF m 20 #[.val (.ref a0), .val (.ref a1), .val (.int wv)] [(.int wv), (.ref a1), (.int (bt xs wv))])) (fun _ kk => XS.iloadN X0.here hx rfl (hb hby d13_19) rfl kk) ?_
    obtain ⟨cl3, Ar3, qk3, S3, Ng3, H3, G3⟩ := (id V_a1)
    have hin3 : ¬ (wv < 0 ∨ cl3.slots.size ≤ (wv).toNatClampNeg) := inb_of S3 hin
    have hat3 : cl3.slots[(wv).toNatClampNeg]? = some (.int (bt ys wv)) := own_at H3 hin3
    refine Go.st (S' := T0.setTop (mkF m 21 #[.val (.ref a0), .val (.ref a1), .val (.int wv)] [(.int (bt ys wv)), (.int (bt xs wv))])) (fun _ kk => X0.baloadBytes hx (j := wv) (v := (.int (bt ys wv))) (by rw [e0]; exact Ar3.1) (State.isArrayOf_alike hZ.alike Ar3.2.1) Ar3.2.2 hin3 hat3 (g := (mkF m 20 #[.val (.ref a0), .val (.ref a1), .val (.int wv)] [(.int wv), (.ref a1), (.int (bt xs wv))])) rfl rfl (hb hby d13_20) _ kk) ?_
    by_cases hc4 : (bt xs wv) = (bt ys wv)
    · refine Go.st (S' := T0.setTop (mkF m 26 #[.val (.ref a0), .val (.ref a1), .val (.int wv)] [])) (fun _ kk => XS.icmpYes X0.here hx rfl (pc0 := 21) (pc' := 26) rfl (hb hby d13_21) rfl (teq hc4).1 (by decide) (by decide) kk) ?_
      refine Go.st (S' := T0.setTop (mkF m 29 #[.val (.ref a0), .val (.ref a1), .val (.int (wv + (1 : Int32)))] [])) (fun _ kk => XS.iinc X0.here hx rfl (hb hby d13_26) rfl (l' := #[.val (.ref a0), .val (.ref a1), .val (.int (wv + (1 : Int32)))]) rfl kk) ?_
      refine Go.st (S' := T0.setTop (mkF m 9 #[.val (.ref a0), .val (.ref a1), .val (.int (wv + (1 : Int32)))] [])) (fun _ kk => XS.goto X0.here hx rfl (pc0 := 29) (pc' := 9) rfl (hb hby d13_29) (by decide) (by decide) kk) ?_
      exact ih T0 _ (i + 1) _ X0 N0 e0 (by omega) (own_add1 hwv (by have := z.toInt_lt; omega)) (fun j hj => by
        by_cases q : j < i
        · exact hpre j q
        · obtain rfl : j = i := by omega
          rw [← own_btg hwv, ← own_btg hwv]; exact hc4)
    · refine Go.st (S' := T0.setTop (mkF m 24 #[.val (.ref a0), .val (.ref a1), .val (.int wv)] [])) (fun _ kk => XS.icmpNo X0.here hx rfl (hb hby d13_21) rfl (feq hc4).1 kk) ?_
      refine Go.st (S' := T0.setTop (mkF m 25 #[.val (.ref a0), .val (.ref a1), .val (.int wv)] [(.int (0 : Int32))])) (fun _ kk => XS.iconst X0.here hx rfl (hb hby d13_24) kk) ?_
      exact Go.retN X0 hx hlk (t := .boolean) hret (by simp) (hb hby d13_25) (⟨congrArg (fun q => some (Value.int q)) (Eq.symm (show own_eqI xs ys = (0 : Int32) from own_eq0 (i := i) (by rw [← own_btg hwv, ← own_btg hwv]; exact hc4))), N0, e0⟩) (by decide) (by decide)
set_option maxRecDepth 65536 in
set_option maxHeartbeats 4000000 in
theorem rmLE (l : Launch) (Z : State) (az : Array Value) (hw : ∀ d ∈ tables_1, d.before az Z = true) (ws : List Jvm.Cond) (a0 : Addr) (a1 : Addr) (k0 k1 : ClassId) (z0 z1 : Int32) (xs ys : List Int32) (h0 : Heap) (n0 : Nat) (Z0 : n0 ≤ h0.size) (V_a0 : Arv Z h0 a0 k0 .byte z0 (xs.map .int) (.int 0)) (V_a1 : Arv Z h0 a1 k1 .byte z1 (ys.map .int) (.int 0)) (lx : z0.toNatClampNeg = xs.length) (ly : z1.toNatClampNeg = ys.length) :
    MetFree l (⟨"java/lang/StringLatin1", "equals", "([B[B)Z"⟩ : MethodName) (head1 (Jvm.Cond.code (⟨"java/lang/StringLatin1", "equals", "([B[B)Z"⟩ : MethodName) jdk_43_method_13_code 3 (some .boolean) :: ws) ({ frames := 0, cells := 0, slots := 0, locals := 0 } : Room)) (fun a U => a = #[(.ref a0), (.ref a1)] ∧ Z.Warmed39 U.vm ∧ U.heap = h0) (fun _ _ _ _ _ => True) (fun _ U o U' => ∃ v L, o = .returned v ∧ (PQ (.int (own_eqI xs ys)) n0 h0) v U'.heap L ∧ FrameEnd U o U' L ({ frames := 0, cells := 0, slots := 0, locals := 0 } : Room).cells ({ frames := 0, cells := 0, slots := 0, locals := 0 } : Room).slots) := by
  refine MetFree.of_bodySF (plainFor_of_name pn_0) hisR ?_
  intro p e s m args below meth c s₁ Bd hml0 hP hK
  obtain ⟨rfl, hZ, hh⟩ := hP
  have hx := Bd.exec
  have hby := Bd.bytes
  have hlk : meth.locks = false := Bd.notSynchronized
  have hml : c.maxLocals = 3 := hml0
  have hown : s.vm.findClass "java/lang/StringLatin1" = some m.cls := findClass_of_methodNamed Bd.named
  have hnm := (name_of_methodNamed Bd.named Bd.method).1
  have X0 : Stand p l e ({ frames := 0, cells := 0, slots := 0, locals := 0 } : Room) s m #[(.ref a0), (.ref a1)] below meth c s₁ [] 0 0 := Stand.of_body Bd
  have e0 : s₁.heap = h0 := by rw [← hh, Bd.state]; rfl
  have N0 := Fr.nil n0
  show Go p e below s ((PQ (.int (own_eqI xs ys)) n0 h0)) ({ frames := 0, cells := 0, slots := 0, locals := 0 } : Room).cells ({ frames := 0, cells := 0, slots := 0, locals := 0 } : Room).slots (s₁.setTop (entryFrame m #[(.ref a0), (.ref a1)] 3))
  rw [ef_13 m a0 a1]
  refine Go.st (S' := s₁.setTop (mkF m 1 #[.val (.ref a0), .val (.ref a1), .unset] [(.ref a0)])) (fun _ kk => XS.aloadN X0.here hx rfl (hb hby d13_0) rfl rfl kk) ?_
  obtain ⟨cl1, Ar1, -, S1, Ng1, -, -⟩ := (id V_a0)
  refine Go.st (S' := s₁.setTop (mkF m 2 #[.val (.ref a0), .val (.ref a1), .unset] [(.int z0)])) (fun _ kk => X0.arraylength hx (by rw [e0]; exact Ar1.1) (State.isArrayOf_alike hZ.alike Ar1.2.1) (g := (mkF m 1 #[.val (.ref a0), .val (.ref a1), .unset] [(.ref a0)])) rfl rfl (hb hby d13_1) _ (by rw [len_of S1 Ng1]; exact kk)) ?_
  refine Go.st (S' := s₁.setTop (mkF m 3 #[.val (.ref a0), .val (.ref a1), .unset] [(.ref a1), (.int z0)])) (fun _ kk => XS.aloadN X0.here hx rfl (hb hby d13_2) rfl rfl kk) ?_
  obtain ⟨cl2, Ar2, -, S2, Ng2, -, -⟩ := (id V_a1)
  refine Go.st (S' := s₁.setTop (mkF m 4 #[.val (.ref a0), .val (.ref a1), .unset] [(.int z1), (.int z0)])) (fun _ kk => X0.arraylength hx (by rw [e0]; exact Ar2.1) (State.isArrayOf_alike hZ.alike Ar2.2.1) (g := (mkF m 3 #[.val (.ref a0), .val (.ref a1), .unset] [(.ref a1), (.int z0)])) rfl rfl (hb hby d13_3) _ (by rw [len_of S2 Ng2]; exact kk)) ?_
  by_cases hq : z0 = z1
  · refine Go.st (S' := s₁.setTop (mkF m 7 #[.val (.ref a0), .val (.ref a1), .unset] [])) (fun _ kk => XS.icmpNo X0.here hx rfl (hb hby d13_4) rfl (teq hq).2 kk) ?_
    refine Go.st (S' := s₁.setTop (mkF m 8 #[.val (.ref a0), .val (.ref a1), .unset] [(.int (0 : Int32))])) (fun _ kk => XS.iconst X0.here hx rfl (hb hby d13_7) kk) ?_
    refine Go.st (S' := s₁.setTop (mkF m 9 #[.val (.ref a0), .val (.ref a1), .val (.int (0 : Int32))] [])) (fun _ kk => XS.istoreN X0.here hx rfl (hb hby d13_8) rfl (l' := #[.val (.ref a0), .val (.ref a1), .val (.int (0 : Int32))]) rfl kk) ?_
    subst hq
    exact loopLE hw a0 a1 k0 k1 z0 xs ys hx hZ hby hml hown hlk Bd.returns Z0 V_a0 V_a1 lx ly xs.length s₁ _ 0 _ X0 N0 e0 (Nat.zero_add _) rfl (fun j hj => absurd hj (Nat.not_lt_zero j))
  · refine Go.st (S' := s₁.setTop (mkF m 34 #[.val (.ref a0), .val (.ref a1), .unset] [])) (fun _ kk => XS.icmpYes X0.here hx rfl (pc0 := 4) (pc' := 34) rfl (hb hby d13_4) rfl (feq hq).2 (by decide) (by decide) kk) ?_
    refine Go.st (S' := s₁.setTop (mkF m 35 #[.val (.ref a0), .val (.ref a1), .unset] [(.int (0 : Int32))])) (fun _ kk => XS.iconst X0.here hx rfl (hb hby d13_34) kk) ?_
    exact Go.retN X0 hx hlk (t := .boolean) Bd.returns (by simp) (hb hby d13_35) (⟨congrArg (fun q => some (Value.int q)) (Eq.symm (show own_eqI xs ys = (0 : Int32) from own_eql (fun q => hq (own_zz (own_arvn V_a0) (own_arvn V_a1) (by rw [lx, ly]; exact q))))), N0, e0⟩) (by decide) (by decide)
theorem d12_0 : decode jdk_42_method_66_code 0 = .ok (.aload_n 0, 1) := by decide +kernel
theorem d12_1 : decode jdk_42_method_66_code 1 = .ok (.aload_n 1, 1) := by decide +kernel
theorem d12_2 : decode jdk_42_method_66_code 2 = .ok (.if_acmp .ne 5, 3) := by decide +kernel
theorem d12_5 : decode jdk_42_method_66_code 5 = .ok (.iconst 1, 1) := by decide +kernel
theorem d12_6 : decode jdk_42_method_66_code 6 = .ok (.ireturn, 1) := by decide +kernel
theorem d12_7 : decode jdk_42_method_66_code 7 = .ok (.aload_n 1, 1) := by decide +kernel
theorem d12_8 : decode jdk_42_method_66_code 8 = .ok (.instanceof 10, 3) := by decide +kernel
theorem d12_11 : decode jdk_42_method_66_code 11 = .ok (.ifCond .eq 43, 3) := by decide +kernel
theorem d12_14 : decode jdk_42_method_66_code 14 = .ok (.aload_n 1, 1) := by decide +kernel
theorem d12_15 : decode jdk_42_method_66_code 15 = .ok (.checkcast 10, 3) := by decide +kernel
theorem d12_18 : decode jdk_42_method_66_code 18 = .ok (.astore_n 2, 1) := by decide +kernel
theorem d12_19 : decode jdk_42_method_66_code 19 = .ok (.getstatic 38, 3) := by decide +kernel
theorem d12_22 : decode jdk_42_method_66_code 22 = .ok (.ifCond .eq 14, 3) := by decide +kernel
theorem d12_25 : decode jdk_42_method_66_code 25 = .ok (.aload_n 0, 1) := by decide +kernel
theorem d12_26 : decode jdk_42_method_66_code 26 = .ok (.getfield 15, 3) := by decide +kernel
theorem d12_29 : decode jdk_42_method_66_code 29 = .ok (.aload_n 2, 1) := by decide +kernel
theorem d12_30 : decode jdk_42_method_66_code 30 = .ok (.getfield 15, 3) := by decide +kernel
theorem d12_33 : decode jdk_42_method_66_code 33 = .ok (.if_icmp .ne 21, 3) := by decide +kernel
theorem d12_36 : decode jdk_42_method_66_code 36 = .ok (.aload_n 0, 1) := by decide +kernel
theorem d12_37 : decode jdk_42_method_66_code 37 = .ok (.getfield 9, 3) := by decide +kernel
theorem d12_40 : decode jdk_42_method_66_code 40 = .ok (.aload_n 2, 1) := by decide +kernel
theorem d12_41 : decode jdk_42_method_66_code 41 = .ok (.getfield 9, 3) := by decide +kernel
theorem d12_44 : decode jdk_42_method_66_code 44 = .ok (.invokestatic 541, 3) := by decide +kernel
theorem d12_47 : decode jdk_42_method_66_code 47 = .ok (.ifCond .eq 7, 3) := by decide +kernel
theorem d12_50 : decode jdk_42_method_66_code 50 = .ok (.iconst 1, 1) := by decide +kernel
theorem d12_51 : decode jdk_42_method_66_code 51 = .ok (.goto 4, 3) := by decide +kernel
theorem d12_54 : decode jdk_42_method_66_code 54 = .ok (.iconst 0, 1) := by decide +kernel
theorem d12_55 : decode jdk_42_method_66_code 55 = .ok (.ireturn, 1) := by decide +kernel
theorem pn_1 : plainName "java/lang/String" = true := by first | (simp [plainName, overriddenIn]; done) | decide +kernel
theorem ef_12 (m : MethodId) (a0 : Addr) (a1 : Addr) : entryFrame m #[(.ref a0), (.ref a1)] 3 = mkF m 0 #[.val (.ref a0), .val (.ref a1), .unset] [] := by first | (simp [entryFrame, mkF, argsToLocals, Value.category]; done) | rfl
set_option maxRecDepth 65536 in
set_option maxHeartbeats 4000000 in
theorem rmSE (l : Launch) (Z : State) (az : Array Value) (hw : ∀ d ∈ tables_1, d.before az Z = true) (ws : List Jvm.Cond) (a0 : Addr) (a1 : Addr) (zc : Int32) (d0 d1 : Addr) (k0 k1 : ClassId) (z0 z1 : Int32) (xs0 xs1 : List Int32) (h0 : Heap) (n0 : Nat) (Z0 : n0 ≤ h0.size) (S_C : Sta Z h0 "java/lang/String" "COMPACT_STRINGS" "Z" (.int zc)) (hzc : ¬ zc = 0) (E_a0 : Exa Z h0 a0 "java/lang/String") (FC_a0 : Fld Z h0 a0 "java/lang/String" "coder" "B" (.int 0)) (FV_a0 : Fld Z h0 a0 "java/lang/String" "value" "[B" (.ref d0)) (V_d0 : Arv Z h0 d0 k0 .byte z0 (xs0.map .int) (.int 0)) (l0 : z0.toNatClampNeg = xs0.length) (E_a1 : Exa Z h0 a1 "java/lang/String") (FC_a1 : Fld Z h0 a1 "java/lang/String" "coder" "B" (.int 0)) (FV_a1 : Fld Z h0 a1 "java/lang/String" "value" "[B" (.ref d1)) (V_d1 : Arv Z h0 d1 k1 .byte z1 (xs1.map .int) (.int 0)) (l1 : z1.toNatClampNeg = xs1.length) :
    MetFree l (⟨"java/lang/String", "equals", "(Ljava/lang/Object;)Z"⟩ : MethodName) (head1 (Jvm.Cond.code (⟨"java/lang/String", "equals", "(Ljava/lang/Object;)Z"⟩ : MethodName) jdk_42_method_66_code 3 (some .boolean) :: ws) ({ frames := 1, cells := 0, slots := 0, locals := 14 } : Room)) (fun a U => a = #[(.ref a0), (.ref a1)] ∧ Z.Warmed39 U.vm ∧ U.heap = h0) (fun _ _ _ _ _ => True) (fun _ U o U' => ∃ v L, o = .returned v ∧ (PQ (.int (own_eqI xs0 xs1)) n0 h0) v U'.heap L ∧ FrameEnd U o U' L ({ frames := 1, cells := 0, slots := 0, locals := 14 } : Room).cells ({ frames := 1, cells := 0, slots := 0, locals := 14 } : Room).slots) := by
  refine MetFree.of_bodySF (plainFor_of_name pn_1) hisR ?_
  intro p e s m args below meth c s₁ Bd hml0 hP hK
  obtain ⟨rfl, hZ, hh⟩ := hP
  have hx := Bd.exec
  have hby := Bd.bytes
  have hlk : meth.locks = false := Bd.notSynchronized
  have hml : c.maxLocals = 3 := hml0
  have hown : s.vm.findClass "java/lang/String" = some m.cls := findClass_of_methodNamed Bd.named
  have hnm := (name_of_methodNamed Bd.named Bd.method).1
  have X0 : Stand p l e ({ frames := 1, cells := 0, slots := 0, locals := 14 } : Room) s m #[(.ref a0), (.ref a1)] below meth c s₁ [] 0 0 := Stand.of_body Bd
  have e0 : s₁.heap = h0 := by rw [← hh, Bd.state]; rfl
  have N0 := Fr.nil n0
  show Go p e below s ((PQ (.int (own_eqI xs0 xs1)) n0 h0)) ({ frames := 1, cells := 0, slots := 0, locals := 14 } : Room).cells ({ frames := 1, cells := 0, slots := 0, locals := 14 } : Room).slots (s₁.setTop (entryFrame m #[(.ref a0), (.ref a1)] 3))
  rw [ef_12 m a0 a1]
  refine Go.st (S' := s₁.setTop (mkF m 1 #[.val (.ref a0), .val (.ref a1), .unset] [(.ref a0)])) (fun _ kk => XS.aloadN X0.here hx rfl (hb hby d12_0) rfl rfl kk) ?_
  refine Go.st (S' := s₁.setTop (mkF m 2 #[.val (.ref a0), .val (.ref a1), .unset] [(.ref a1), (.ref a0)])) (fun _ kk => XS.aloadN X0.here hx rfl (hb hby d12_1) rfl rfl kk) ?_
  by_cases hq : a0 = a1
  · subst hq
    have hd : d0 = d1 := Value.ref.inj (own_fldu FV_a0 FV_a1)
    subst hd
    have hxy := own_arvu V_d0 V_d1 l0 l1
    refine Go.st (S' := s₁.setTop (mkF m 5 #[.val (.ref a0), .val (.ref a0), .unset] [])) (fun _ kk => Jvm.RoadKit.acmp (g := (mkF m 2 #[.val (.ref a0), .val (.ref a0), .unset] [(.ref a0), (.ref a0)])) X0 hx rfl rfl rfl (pc0 := 2) (pc' := 5) (same := true) rfl (hb hby d12_2) rfl (decide_eq_true rfl) (by decide) (by decide) kk) ?_
    refine Go.st (S' := s₁.setTop (mkF m 6 #[.val (.ref a0), .val (.ref a0), .unset] [(.int (1 : Int32))])) (fun _ kk => XS.iconst X0.here hx rfl (hb hby d12_5) kk) ?_
    exact Go.retN X0 hx hlk (t := .boolean) Bd.returns (by simp) (hb hby d12_6) (⟨congrArg (fun q => some (Value.int q)) (Eq.symm (show own_eqI xs0 xs1 = (1 : Int32) from if_pos hxy)), N0, e0⟩) (by decide) (by decide)
  · refine Go.st (S' := s₁.setTop (mkF m 7 #[.val (.ref a0), .val (.ref a1), .unset] [])) (fun _ kk => Jvm.RoadKit.acmp (g := (mkF m 2 #[.val (.ref a0), .val (.ref a1), .unset] [(.ref a1), (.ref a0)])) X0 hx rfl rfl rfl (pc0 := 2) (pc' := 7) (same := false) rfl (hb hby d12_2) rfl (decide_eq_false fun q => hq (Value.ref.inj q)) (by decide) (by decide) kk) ?_
    refine Go.st (S' := s₁.setTop (mkF m 8 #[.val (.ref a0), .val (.ref a1), .unset] [(.ref a1)])) (fun _ kk => XS.aloadN X0.here hx rfl (hb hby d12_7) rfl rfl kk) ?_
    obtain ⟨T1, X1, e1, st1⟩ := instY X0 hx hZ hown (hw _ (List.mem_of_getElem? (i := 72) rfl)) e0 (Ins.self E_a1) (g := (mkF m 8 #[.val (.ref a0), .val (.ref a1), .unset] [(.ref a1)])) rfl rfl (hb hby d12_8)
    refine Go.st (S' := T1.setTop (mkF m 11 #[.val (.ref a0), .val (.ref a1), .unset] [(.int (1 : Int32))])) st1 ?_
    refine Go.st (S' := T1.setTop (mkF m 14 #[.val (.ref a0), .val (.ref a1), .unset] [])) (fun _ kk => XS.ifNo X1.here hx rfl (hb hby d12_11) rfl ((if0 _ _).trans (feq (by decide : ¬ ((1 : Int32) = (0 : Int32)))).1) kk) ?_
    refine Go.st (S' := T1.setTop (mkF m 15 #[.val (.ref a0), .val (.ref a1), .unset] [(.ref a1)])) (fun _ kk => XS.aloadN X1.here hx rfl (hb hby d12_14) rfl rfl kk) ?_
    obtain ⟨T2, X2, e2, st2⟩ := castY X1 hx hZ hown (hw _ (List.mem_of_getElem? (i := 72) rfl)) e1 (Ins.self E_a1) (g := (mkF m 15 #[.val (.ref a0), .val (.ref a1), .unset] [(.ref a1)])) rfl rfl (hb hby d12_15)
    refine Go.st (S' := T2.setTop (mkF m 18 #[.val (.ref a0), .val (.ref a1), .unset] [(.ref a1)])) st2 ?_
    refine Go.st (S' := T2.setTop (mkF m 19 #[.val (.ref a0), .val (.ref a1), .val (.ref a1)] [])) (fun _ kk => XS.astoreN X2.here hx rfl (hb hby d12_18) rfl rfl (l' := #[.val (.ref a0), .val (.ref a1), .val (.ref a1)]) rfl kk) ?_
    obtain ⟨T3, X3, e3, st3⟩ := getS2 X2 hx hZ hown (host := "") (Or.inl (hw _ (List.mem_of_getElem? (i := 18) rfl))) Via.refl e2 S_C (g := (mkF m 19 #[.val (.ref a0), .val (.ref a1), .val (.ref a1)] [])) rfl (hb hby d12_19)
    refine Go.st (S' := T3.setTop (mkF m 22 #[.val (.ref a0), .val (.ref a1), .val (.ref a1)] [(.int zc)])) st3 ?_
    refine Go.st (S' := T3.setTop (mkF m 25 #[.val (.ref a0), .val (.ref a1), .val (.ref a1)] [])) (fun _ kk => XS.ifNo X3.here hx rfl (hb hby d12_22) rfl ((if0 _ _).trans (feq hzc).1) kk) ?_
    refine Go.st (S' := T3.setTop (mkF m 26 #[.val (.ref a0), .val (.ref a1), .val (.ref a1)] [(.ref a0)])) (fun _ kk => XS.aloadN X3.here hx rfl (hb hby d12_25) rfl rfl kk) ?_
    obtain ⟨T4, X4, e4, st4⟩ := getF X3 hx hZ hown (host := "") (Or.inl (hw _ (List.mem_of_getElem? (i := 30) rfl))) Via.refl e3 FC_a0 (g := (mkF m 26 #[.val (.ref a0), .val (.ref a1), .val (.ref a1)] [(.ref a0)])) rfl rfl (hb hby d12_26)
    refine Go.st (S' := T4.setTop (mkF m 29 #[.val (.ref a0), .val (.ref a1), .val (.ref a1)] [(.int (0 : Int32))])) st4 ?_
    refine Go.st (S' := T4.setTop (mkF m 30 #[.val (.ref a0), .val (.ref a1), .val (.ref a1)] [(.ref a1), (.int (0 : Int32))])) (fun _ kk => XS.aloadN X4.here hx rfl (hb hby d12_29) rfl rfl kk) ?_
    obtain ⟨T5, X5, e5, st5⟩ := getF X4 hx hZ hown (host := "") (Or.inl (hw _ (List.mem_of_getElem? (i := 30) rfl))) Via.refl e4 FC_a1 (g := (mkF m 30 #[.val (.ref a0), .val (.ref a1), .val (.ref a1)] [(.ref a1), (.int (0 : Int32))])) rfl rfl (hb hby d12_30)
    refine Go.st (S' := T5.setTop (mkF m 33 #[.val (.ref a0), .val (.ref a1), .val (.ref a1)] [(.int (0 : Int32)), (.int (0 : Int32))])) st5 ?_
    refine Go.st (S' := T5.setTop (mkF m 36 #[.val (.ref a0), .val (.ref a1), .val (.ref a1)] [])) (fun _ kk => XS.icmpNo X5.here hx rfl (hb hby d12_33) rfl (teq (by decide : (0 : Int32) = (0 : Int32))).2 kk) ?_
    refine Go.st (S' := T5.setTop (mkF m 37 #[.val (.ref a0), .val (.ref a1), .val (.ref a1)] [(.ref a0)])) (fun _ kk => XS.aloadN X5.here hx rfl (hb hby d12_36) rfl rfl kk) ?_
    obtain ⟨T6, X6, e6, st6⟩ := getF X5 hx hZ hown (host := "") (Or.inl (hw _ (List.mem_of_getElem? (i := 32) rfl))) Via.refl e5 FV_a0 (g := (mkF m 37 #[.val (.ref a0), .val (.ref a1), .val (.ref a1)] [(.ref a0)])) rfl rfl (hb hby d12_37)
    refine Go.st (S' := T6.setTop (mkF m 40 #[.val (.ref a0), .val (.ref a1), .val (.ref a1)] [(.ref d0)])) st6 ?_
    refine Go.st (S' := T6.setTop (mkF m 41 #[.val (.ref a0), .val (.ref a1), .val (.ref a1)] [(.ref a1), (.ref d0)])) (fun _ kk => XS.aloadN X6.here hx rfl (hb hby d12_40) rfl rfl kk) ?_
    obtain ⟨T7, X7, e7, st7⟩ := getF X6 hx hZ hown (host := "") (Or.inl (hw _ (List.mem_of_getElem? (i := 32) rfl))) Via.refl e6 FV_a1 (g := (mkF m 41 #[.val (.ref a0), .val (.ref a1), .val (.ref a1)] [(.ref a1), (.ref d0)])) rfl rfl (hb hby d12_41)
    refine Go.st (S' := T7.setTop (mkF m 44 #[.val (.ref a0), .val (.ref a1), .val (.ref a1)] [(.ref d1), (.ref d0)])) st7 ?_
    obtain ⟨_, _, ⟨T8, L8, k8, n8⟩, -, X8, ⟨Lc8, hQ8, l8, y8, z8⟩, st8⟩ := Jvm.LawKit.callS X7 hx (y := (⟨"java/lang/StringLatin1", "equals", "([B[B)Z"⟩ : MethodName)) hown (mvT hZ (hw _ (List.mem_of_getElem? (i := 73) rfl))) (mvT hZ (hw _ (List.mem_of_getElem? (i := 74) rfl))) (mvT hZ (hw _ (List.mem_of_getElem? (i := 75) rfl))) (mvT hZ (hw _ (List.mem_of_getElem? (i := 76) rfl))) (by decide) (backOf (W := 0) (rmLE l Z az hw [] d0 d1 k0 k1 z0 z1 xs0 xs1 h0 n0 Z0 V_d0 V_d1 l0 l1) hZ (hw _ (List.mem_of_getElem? (i := 76) rfl)) (hw _ (List.mem_of_getElem? (i := 75) rfl)) (by decide) (by decide)) (g := (mkF m 44 #[.val (.ref a0), .val (.ref a1), .val (.ref a1)] [(.ref d1), (.ref d0)])) rfl (by rw [hml]; rfl) (argsL := [(.ref d0), (.ref d1)]) (rest := []) (lenOf pd_11 rfl) rfl (by show 2 * 0 + _ ≤ _; exact Nat.le_of_eq rfl) (hb hby d12_44) (fun _ _ => ⟨rfl, e7, (by decide : 0 + 0 ≤ _), (by decide : 0 + 0 ≤ _)⟩)
    dsimp only [Pt.U, Pt.locs, Pt.cells, Pt.slots] at X8 l8 y8 z8 st8 hQ8
    subst l8 y8 z8
    obtain ⟨hv8, N8q, e8⟩ := hQ8
    subst hv8
    have N8 := Fr.app N0 N8q
    refine Go.st (S' := T8.setTop (mkF m 47 #[.val (.ref a0), .val (.ref a1), .val (.ref a1)] [(.int (own_eqI xs0 xs1))])) st8 ?_
    by_cases hc9 : (own_eqI xs0 xs1) = (0 : Int32)
    · refine Go.st (S' := T8.setTop (mkF m 54 #[.val (.ref a0), .val (.ref a1), .val (.ref a1)] [])) (fun _ kk => XS.ifYes X8.here hx rfl (pc0 := 47) (pc' := 54) rfl (hb hby d12_47) rfl ((if0 _ _).trans (teq hc9).1) (by decide) (by decide) kk) ?_
      refine Go.st (S' := T8.setTop (mkF m 55 #[.val (.ref a0), .val (.ref a1), .val (.ref a1)] [(.int (0 : Int32))])) (fun _ kk => XS.iconst X8.here hx rfl (hb hby d12_54) kk) ?_
      exact Go.retN X8 hx hlk (t := .boolean) Bd.returns (by simp) (hb hby d12_55) (⟨congrArg (fun q => some (Value.int q)) (Eq.symm (show own_eqI xs0 xs1 = (0 : Int32) from hc9)), N8, e8⟩) (by decide) (by decide)
    · refine Go.st (S' := T8.setTop (mkF m 50 #[.val (.ref a0), .val (.ref a1), .val (.ref a1)] [])) (fun _ kk => XS.ifNo X8.here hx rfl (hb hby d12_47) rfl ((if0 _ _).trans (feq hc9).1) kk) ?_
      refine Go.st (S' := T8.setTop (mkF m 51 #[.val (.ref a0), .val (.ref a1), .val (.ref a1)] [(.int (1 : Int32))])) (fun _ kk => XS.iconst X8.here hx rfl (hb hby d12_50) kk) ?_
      refine Go.st (S' := T8.setTop (mkF m 55 #[.val (.ref a0), .val (.ref a1), .val (.ref a1)] [(.int (1 : Int32))])) (fun _ kk => XS.goto X8.here hx rfl (pc0 := 51) (pc' := 55) rfl (hb hby d12_51) (by decide) (by decide) kk) ?_
      exact Go.retN X8 hx hlk (t := .boolean) Bd.returns (by simp) (hb hby d12_55) (⟨congrArg (fun q => some (Value.int q)) (Eq.symm (show own_eqI xs0 xs1 = (1 : Int32) from (own_eq01 xs0 xs1).resolve_left hc9)), N8, e8⟩) (by decide) (by decide)
def Q_c5_1 (Z : State) (a2 : Addr) (k2 : ClassId) (c1 : Int32) (h0 : Heap) (n0 : Nat) (v : Option Value) (h : Heap) (L : List Loc) : Prop := v = some (.int (1 : Int32)) ∧ Fr n0 L ∧ Keep h0 h [a2] ∧ Arv Z h a2 k2 .byte (1 : Int32) [(.int ((c1.toInt8.toInt32).toInt8.toInt32))] (.int 0)
theorem d6_0 : decode jdk_52_method_21_code 0 = .ok (.iconst 0, 1) := by decide +kernel
theorem d6_1 : decode jdk_52_method_21_code 1 = .ok (.istore 5, 2) := by decide +kernel
theorem d6_3 : decode jdk_52_method_21_code 3 = .ok (.iload 5, 2) := by decide +kernel
theorem d6_5 : decode jdk_52_method_21_code 5 = .ok (.iload 4, 2) := by decide +kernel
theorem d6_7 : decode jdk_52_method_21_code 7 = .ok (.if_icmp .ge 37, 3) := by decide +kernel
theorem d6_10 : decode jdk_52_method_21_code 10 = .ok (.aload_n 0, 1) := by decide +kernel
theorem d6_11 : decode jdk_52_method_21_code 11 = .ok (.iload_n 1, 1) := by decide +kernel
theorem d6_12 : decode jdk_52_method_21_code 12 = .ok (.caload, 1) := by decide +kernel
theorem d6_13 : decode jdk_52_method_21_code 13 = .ok (.istore 6, 2) := by decide +kernel
theorem d6_15 : decode jdk_52_method_21_code 15 = .ok (.iload 6, 2) := by decide +kernel
theorem d6_17 : decode jdk_52_method_21_code 17 = .ok (.sipush 255, 3) := by decide +kernel
theorem d6_20 : decode jdk_52_method_21_code 20 = .ok (.if_icmp .le 6, 3) := by decide +kernel
theorem d6_23 : decode jdk_52_method_21_code 23 = .ok (.iload 5, 2) := by decide +kernel
theorem d6_25 : decode jdk_52_method_21_code 25 = .ok (.ireturn, 1) := by decide +kernel
theorem d6_26 : decode jdk_52_method_21_code 26 = .ok (.aload_n 2, 1) := by decide +kernel
theorem d6_27 : decode jdk_52_method_21_code 27 = .ok (.iload_n 3, 1) := by decide +kernel
theorem d6_28 : decode jdk_52_method_21_code 28 = .ok (.iload 6, 2) := by decide +kernel
theorem d6_30 : decode jdk_52_method_21_code 30 = .ok (.i2b, 1) := by decide +kernel
theorem d6_31 : decode jdk_52_method_21_code 31 = .ok (.bastore, 1) := by decide +kernel
theorem d6_32 : decode jdk_52_method_21_code 32 = .ok (.iinc 1 1, 3) := by decide +kernel
theorem d6_35 : decode jdk_52_method_21_code 35 = .ok (.iinc 3 1, 3) := by decide +kernel
theorem d6_38 : decode jdk_52_method_21_code 38 = .ok (.iinc 5 1, 3) := by decide +kernel
theorem d6_41 : decode jdk_52_method_21_code 41 = .ok (.goto (-38), 3) := by decide +kernel
theorem d6_44 : decode jdk_52_method_21_code 44 = .ok (.iload 4, 2) := by decide +kernel
theorem d6_46 : decode jdk_52_method_21_code 46 = .ok (.ireturn, 1) := by decide +kernel
theorem pn_2 : plainName "java/lang/StringUTF16" = true := by first | (simp [plainName, overriddenIn]; done) | decide +kernel
theorem ef_6 (m : MethodId) (a0 : Addr) (p1 : Int32) (a2 : Addr) (p3 : Int32) (p4 : Int32) : entryFrame m #[(.ref a0), (.int p1), (.ref a2), (.int p3), (.int p4)] 7 = mkF m 0 #[.val (.ref a0), .val (.int p1), .val (.ref a2), .val (.int p3), .val (.int p4), .unset, .unset] [] := by first | (simp [entryFrame, mkF, argsToLocals, Value.category]; done) | rfl
set_option maxRecDepth 65536 in
set_option maxHeartbeats 4000000 in
theorem rmC5_1 (l : Launch) (Z : State) (az : Array Value) (hw : ∀ d ∈ tables_1, d.before az Z = true) (ws : List Jvm.Cond) (a0 : Addr) (p1 : Int32) (a2 : Addr) (p3 : Int32) (p4 : Int32) (k0 k2 : ClassId) (c1 : Int32) (h0 : Heap) (n0 : Nat) (Z0 : n0 ≤ h0.size) (V_a0 : Arv Z h0 a0 k0 .char (1 : Int32) [(.int c1)] (.int 0)) (V_a2 : Arv Z h0 a2 k2 .byte (1 : Int32) [(.int (0 : Int32))] (.int 0)) (ne : a0 ≠ a2) (g_a2 : n0 ≤ a2) (h1 : p1 = 0) (h3 : p3 = 0) (h4 : p4 = (1 : Int32)) (u1 : ¬ (255 : Int32) < c1) :
    MetFree l (⟨"java/lang/StringUTF16", "compress", "([CI[BII)I"⟩ : MethodName) (head1 (Jvm.Cond.code (⟨"java/lang/StringUTF16", "compress", "([CI[BII)I"⟩ : MethodName) jdk_52_method_21_code 7 (some .int) :: ws) ({ frames := 0, cells := 0, slots := 0, locals := 0 } : Room)) (fun a U => a = #[(.ref a0), (.int p1), (.ref a2), (.int p3), (.int p4)] ∧ Z.Warmed39 U.vm ∧ U.heap = h0) (fun _ _ _ _ _ => True) (fun _ U o U' => ∃ v L, o = .returned v ∧ (Q_c5_1 Z a2 k2 c1 h0 n0) v U'.heap L ∧ FrameEnd U o U' L ({ frames := 0, cells := 0, slots := 0, locals := 0 } : Room).cells ({ frames := 0, cells := 0, slots := 0, locals := 0 } : Room).slots) := by
  refine MetFree.of_bodySF (plainFor_of_name pn_2) hisR ?_
  intro p e s m args below meth c s₁ Bd hml0 hP hK
  obtain ⟨rfl, hZ, hh⟩ := hP
  have hx := Bd.exec
  have hby := Bd.bytes
  have hlk : meth.locks = false := Bd.notSynchronized
  have hml : c.maxLocals = 7 := hml0
  have hown : s.vm.findClass "java/lang/StringUTF16" = some m.cls := findClass_of_methodNamed Bd.named
  have hnm := (name_of_methodNamed Bd.named Bd.method).1
  have X0 : Stand p l e ({ frames := 0, cells := 0, slots := 0, locals := 0 } : Room) s m #[(.ref a0), (.int p1), (.ref a2), (.int p3), (.int p4)] below meth c s₁ [] 0 0 := Stand.of_body Bd
  have e0 : s₁.heap = h0 := by rw [← hh, Bd.state]; rfl
  have N0 := Fr.nil n0
  show Go p e below s ((Q_c5_1 Z a2 k2 c1 h0 n0)) ({ frames := 0, cells := 0, slots := 0, locals := 0 } : Room).cells ({ frames := 0, cells := 0, slots := 0, locals := 0 } : Room).slots (s₁.setTop (entryFrame m #[(.ref a0), (.int p1), (.ref a2), (.int p3), (.int p4)] 7))
  rw [ef_6 m a0 p1 a2 p3 p4]
  subst h1 h3 h4
  refine Go.st (S' := s₁.setTop (mkF m 1 #[.val (.ref a0), .val (.int (0 : Int32)), .val (.ref a2), .val (.int (0 : Int32)), .val (.int (1 : Int32)), .unset, .unset] [(.int (0 : Int32))])) (fun _ kk => XS.iconst X0.here hx rfl (hb hby d6_0) kk) ?_
  refine Go.st (S' := s₁.setTop (mkF m 3 #[.val (.ref a0), .val (.int (0 : Int32)), .val (.ref a2), .val (.int (0 : Int32)), .val (.int (1 : Int32)), .val (.int (0 : Int32)), .unset] [])) (fun _ kk => XS.istore X0.here hx rfl (hb hby d6_1) rfl (l' := #[.val (.ref a0), .val (.int (0 : Int32)), .val (.ref a2), .val (.int (0 : Int32)), .val (.int (1 : Int32)), .val (.int (0 : Int32)), .unset]) rfl kk) ?_
  refine Go.st (S' := s₁.setTop (mkF m 5 #[.val (.ref a0), .val (.int (0 : Int32)), .val (.ref a2), .val (.int (0 : Int32)), .val (.int (1 : Int32)), .val (.int (0 : Int32)), .unset] [(.int (0 : Int32))])) (fun _ kk => XS.iload X0.here hx rfl (hb hby d6_3) rfl kk) ?_
  refine Go.st (S' := s₁.setTop (mkF m 7 #[.val (.ref a0), .val (.int (0 : Int32)), .val (.ref a2), .val (.int (0 : Int32)), .val (.int (1 : Int32)), .val (.int (0 : Int32)), .unset] [(.int (1 : Int32)), (.int (0 : Int32))])) (fun _ kk => XS.iload X0.here hx rfl (hb hby d6_5) rfl kk) ?_
  refine Go.st (S' := s₁.setTop (mkF m 10 #[.val (.ref a0), .val (.int (0 : Int32)), .val (.ref a2), .val (.int (0 : Int32)), .val (.int (1 : Int32)), .val (.int (0 : Int32)), .unset] [])) (fun _ kk => XS.icmpNo X0.here hx rfl (hb hby d6_7) rfl (tlt (by decide : (0 : Int32) < (1 : Int32))).2.1 kk) ?_
  refine Go.st (S' := s₁.setTop (mkF m 11 #[.val (.ref a0), .val (.int (0 : Int32)), .val (.ref a2), .val (.int (0 : Int32)), .val (.int (1 : Int32)), .val (.int (0 : Int32)), .unset] [(.ref a0)])) (fun _ kk => XS.aloadN X0.here hx rfl (hb hby d6_10) rfl rfl kk) ?_
  refine Go.st (S' := s₁.setTop (mkF m 12 #[.val (.ref a0), .val (.int (0 : Int32)), .val (.ref a2), .val (.int (0 : Int32)), .val (.int (1 : Int32)), .val (.int (0 : Int32)), .unset] [(.int (0 : Int32)), (.ref a0)])) (fun _ kk => XS.iloadN X0.here hx rfl (hb hby d6_11) rfl kk) ?_
  obtain ⟨cl1, Ar1, qk1, S1, Ng1, H1, G1⟩ := (id V_a0)
  have hin1 : ¬ ((0 : Int32) < 0 ∨ cl1.slots.size ≤ ((0 : Int32)).toNatClampNeg) := inb_of S1 ⟨by decide, by decide⟩
  have hat1 : cl1.slots[((0 : Int32)).toNatClampNeg]? = some (.int c1) := Has.at H1 hin1 rfl
  refine Go.st (S' := s₁.setTop (mkF m 13 #[.val (.ref a0), .val (.int (0 : Int32)), .val (.ref a2), .val (.int (0 : Int32)), .val (.int (1 : Int32)), .val (.int (0 : Int32)), .unset] [(.int c1)])) (fun _ kk => X0.caload hx (j := (0 : Int32)) (v := (.int c1)) (by rw [e0]; exact Ar1.1) (State.isArrayOf_alike hZ.alike Ar1.2.1) Ar1.2.2 hin1 hat1 (g := (mkF m 12 #[.val (.ref a0), .val (.int (0 : Int32)), .val (.ref a2), .val (.int (0 : Int32)), .val (.int (1 : Int32)), .val (.int (0 : Int32)), .unset] [(.int (0 : Int32)), (.ref a0)])) rfl rfl (hb hby d6_12) _ kk) ?_
  refine Go.st (S' := s₁.setTop (mkF m 15 #[.val (.ref a0), .val (.int (0 : Int32)), .val (.ref a2), .val (.int (0 : Int32)), .val (.int (1 : Int32)), .val (.int (0 : Int32)), .val (.int c1)] [])) (fun _ kk => XS.istore X0.here hx rfl (hb hby d6_13) rfl (l' := #[.val (.ref a0), .val (.int (0 : Int32)), .val (.ref a2), .val (.int (0 : Int32)), .val (.int (1 : Int32)), .val (.int (0 : Int32)), .val (.int c1)]) rfl kk) ?_
  refine Go.st (S' := s₁.setTop (mkF m 17 #[.val (.ref a0), .val (.int (0 : Int32)), .val (.ref a2), .val (.int (0 : Int32)), .val (.int (1 : Int32)), .val (.int (0 : Int32)), .val (.int c1)] [(.int c1)])) (fun _ kk => XS.iload X0.here hx rfl (hb hby d6_15) rfl kk) ?_
  refine Go.st (S' := s₁.setTop (mkF m 20 #[.val (.ref a0), .val (.int (0 : Int32)), .val (.ref a2), .val (.int (0 : Int32)), .val (.int (1 : Int32)), .val (.int (0 : Int32)), .val (.int c1)] [(.int (255 : Int32)), (.int c1)])) (fun _ kk => XS.sipush X0.here hx rfl (hb hby d6_17) kk) ?_
  refine Go.st (S' := s₁.setTop (mkF m 26 #[.val (.ref a0), .val (.int (0 : Int32)), .val (.ref a2), .val (.int (0 : Int32)), .val (.int (1 : Int32)), .val (.int (0 : Int32)), .val (.int c1)] [])) (fun _ kk => XS.icmpYes X0.here hx rfl (pc0 := 20) (pc' := 26) rfl (hb hby d6_20) rfl (flt u1).2.2.2 (by decide) (by decide) kk) ?_
  refine Go.st (S' := s₁.setTop (mkF m 27 #[.val (.ref a0), .val (.int (0 : Int32)), .val (.ref a2), .val (.int (0 : Int32)), .val (.int (1 : Int32)), .val (.int (0 : Int32)), .val (.int c1)] [(.ref a2)])) (fun _ kk => XS.aloadN X0.here hx rfl (hb hby d6_26) rfl rfl kk) ?_
  refine Go.st (S' := s₁.setTop (mkF m 28 #[.val (.ref a0), .val (.int (0 : Int32)), .val (.ref a2), .val (.int (0 : Int32)), .val (.int (1 : Int32)), .val (.int (0 : Int32)), .val (.int c1)] [(.int (0 : Int32)), (.ref a2)])) (fun _ kk => XS.iloadN X0.here hx rfl (hb hby d6_27) rfl kk) ?_
  refine Go.st (S' := s₁.setTop (mkF m 30 #[.val (.ref a0), .val (.int (0 : Int32)), .val (.ref a2), .val (.int (0 : Int32)), .val (.int (1 : Int32)), .val (.int (0 : Int32)), .val (.int c1)] [(.int c1), (.int (0 : Int32)), (.ref a2)])) (fun _ kk => XS.iload X0.here hx rfl (hb hby d6_28) rfl kk) ?_
  refine Go.st (S' := s₁.setTop (mkF m 31 #[.val (.ref a0), .val (.int (0 : Int32)), .val (.ref a2), .val (.int (0 : Int32)), .val (.int (1 : Int32)), .val (.int (0 : Int32)), .val (.int c1)] [(.int (c1.toInt8.toInt32)), (.int (0 : Int32)), (.ref a2)])) (fun _ kk => XS.i2b X0.here hx rfl (hb hby d6_30) rfl kk) ?_
  obtain ⟨cl2, Ar2, qk2, S2, Ng2, H2, G2⟩ := (id V_a2)
  have hin2 : ¬ ((0 : Int32) < 0 ∨ cl2.slots.size ≤ ((0 : Int32)).toNatClampNeg) := inb_of S2 ⟨by decide, by decide⟩
  obtain ⟨T2, h2, X2, e2, W2, st2⟩ := stB X0 hx hZ e0 Ar2 (j := (0 : Int32)) hin2 (g := (mkF m 31 #[.val (.ref a0), .val (.int (0 : Int32)), .val (.ref a2), .val (.int (0 : Int32)), .val (.int (1 : Int32)), .val (.int (0 : Int32)), .val (.int c1)] [(.int (c1.toInt8.toInt32)), (.int (0 : Int32)), (.ref a2)])) rfl rfl (hb hby d6_31)
  have V_a2 : Arv Z h2 a2 k2 .byte (1 : Int32) [(.int ((c1.toInt8.toInt32).toInt8.toInt32))] (.int (0 : Int32)) := Arv.set Ar2 qk2 S2 Ng2 H2 G2 (fits_nar_byte _) W2 0 rfl (Nat.le_of_ble_eq_true rfl)
  have N2 := Fr.snoc X2 N0 g_a2
  have V_a0 := V_a0.other W2 ne
  have Zs3 := Nat.le_trans Z0 (Keep.of_wr W2).1
  have Kp4 := (Keep.refl h0 [a2]).wr W2 (Or.inl (List.mem_of_getElem? (i := 0) rfl))
  refine Go.st (S' := T2.setTop (mkF m 32 #[.val (.ref a0), .val (.int (0 : Int32)), .val (.ref a2), .val (.int (0 : Int32)), .val (.int (1 : Int32)), .val (.int (0 : Int32)), .val (.int c1)] [])) st2 ?_
  refine Go.st (S' := T2.setTop (mkF m 35 #[.val (.ref a0), .val (.int (1 : Int32)), .val (.ref a2), .val (.int (0 : Int32)), .val (.int (1 : Int32)), .val (.int (0 : Int32)), .val (.int c1)] [])) (fun _ kk => XS.iinc X2.here hx rfl (hb hby d6_32) rfl (l' := #[.val (.ref a0), .val (.int (1 : Int32)), .val (.ref a2), .val (.int (0 : Int32)), .val (.int (1 : Int32)), .val (.int (0 : Int32)), .val (.int c1)]) rfl kk) ?_
  refine Go.st (S' := T2.setTop (mkF m 38 #[.val (.ref a0), .val (.int (1 : Int32)), .val (.ref a2), .val (.int (1 : Int32)), .val (.int (1 : Int32)), .val (.int (0 : Int32)), .val (.int c1)] [])) (fun _ kk => XS.iinc X2.here hx rfl (hb hby d6_35) rfl (l' := #[.val (.ref a0), .val (.int (1 : Int32)), .val (.ref a2), .val (.int (1 : Int32)), .val (.int (1 : Int32)), .val (.int (0 : Int32)), .val (.int c1)]) rfl kk) ?_
  refine Go.st (S' := T2.setTop (mkF m 41 #[.val (.ref a0), .val (.int (1 : Int32)), .val (.ref a2), .val (.int (1 : Int32)), .val (.int (1 : Int32)), .val (.int (1 : Int32)), .val (.int c1)] [])) (fun _ kk => XS.iinc X2.here hx rfl (hb hby d6_38) rfl (l' := #[.val (.ref a0), .val (.int (1 : Int32)), .val (.ref a2), .val (.int (1 : Int32)), .val (.int (1 : Int32)), .val (.int (1 : Int32)), .val (.int c1)]) rfl kk) ?_
  refine Go.st (S' := T2.setTop (mkF m 3 #[.val (.ref a0), .val (.int (1 : Int32)), .val (.ref a2), .val (.int (1 : Int32)), .val (.int (1 : Int32)), .val (.int (1 : Int32)), .val (.int c1)] [])) (fun _ kk => XS.goto X2.here hx rfl (pc0 := 41) (pc' := 3) rfl (hb hby d6_41) (by decide) (by decide) kk) ?_
  refine Go.st (S' := T2.setTop (mkF m 5 #[.val (.ref a0), .val (.int (1 : Int32)), .val (.ref a2), .val (.int (1 : Int32)), .val (.int (1 : Int32)), .val (.int (1 : Int32)), .val (.int c1)] [(.int (1 : Int32))])) (fun _ kk => XS.iload X2.here hx rfl (hb hby d6_3) rfl kk) ?_
  refine Go.st (S' := T2.setTop (mkF m 7 #[.val (.ref a0), .val (.int (1 : Int32)), .val (.ref a2), .val (.int (1 : Int32)), .val (.int (1 : Int32)), .val (.int (1 : Int32)), .val (.int c1)] [(.int (1 : Int32)), (.int (1 : Int32))])) (fun _ kk => XS.iload X2.here hx rfl (hb hby d6_5) rfl kk) ?_
  refine Go.st (S' := T2.setTop (mkF m 44 #[.val (.ref a0), .val (.int (1 : Int32)), .val (.ref a2), .val (.int (1 : Int32)), .val (.int (1 : Int32)), .val (.int (1 : Int32)), .val (.int c1)] [])) (fun _ kk => XS.icmpYes X2.here hx rfl (pc0 := 7) (pc' := 44) rfl (hb hby d6_7) rfl (flt (by decide : ¬ ((1 : Int32) < (1 : Int32)))).2.1 (by decide) (by decide) kk) ?_
  refine Go.st (S' := T2.setTop (mkF m 46 #[.val (.ref a0), .val (.int (1 : Int32)), .val (.ref a2), .val (.int (1 : Int32)), .val (.int (1 : Int32)), .val (.int (1 : Int32)), .val (.int c1)] [(.int (1 : Int32))])) (fun _ kk => XS.iload X2.here hx rfl (hb hby d6_44) rfl kk) ?_
  exact Go.retI X2 hx hlk Bd.returns (hb hby d6_46) (by rw [e2]; exact ⟨rfl, N2, Kp4, V_a2⟩) (by decide) (by decide)
def Q_c3_1 (Z : State) (c1 : Int32) (h0 : Heap) (n0 : Nat) (v : Option Value) (h : Heap) (L : List Loc) : Prop := ∃ (b : Addr) (k : ClassId), v = some (.ref b) ∧ Fr n0 L ∧ Keep h0 h [] ∧ Arv Z h b k .byte (1 : Int32) [(.int ((c1.toInt8.toInt32).toInt8.toInt32))] (.int 0) ∧ Exa Z h b "[B" ∧ h0.size ≤ b
theorem d5_0 : decode jdk_52_method_16_code 0 = .ok (.iload_n 2, 1) := by decide +kernel
theorem d5_1 : decode jdk_52_method_16_code 1 = .ok (.newarray .byte, 2) := by decide +kernel
theorem d5_3 : decode jdk_52_method_16_code 3 = .ok (.astore_n 3, 1) := by decide +kernel
theorem d5_4 : decode jdk_52_method_16_code 4 = .ok (.aload_n 0, 1) := by decide +kernel
theorem d5_5 : decode jdk_52_method_16_code 5 = .ok (.iload_n 1, 1) := by decide +kernel
theorem d5_6 : decode jdk_52_method_16_code 6 = .ok (.aload_n 3, 1) := by decide +kernel
theorem d5_7 : decode jdk_52_method_16_code 7 = .ok (.iconst 0, 1) := by decide +kernel
theorem d5_8 : decode jdk_52_method_16_code 8 = .ok (.iload_n 2, 1) := by decide +kernel
theorem d5_9 : decode jdk_52_method_16_code 9 = .ok (.invokestatic 115, 3) := by decide +kernel
theorem d5_12 : decode jdk_52_method_16_code 12 = .ok (.istore 4, 2) := by decide +kernel
theorem d5_14 : decode jdk_52_method_16_code 14 = .ok (.iload 4, 2) := by decide +kernel
theorem d5_16 : decode jdk_52_method_16_code 16 = .ok (.iload_n 2, 1) := by decide +kernel
theorem d5_17 : decode jdk_52_method_16_code 17 = .ok (.if_icmp .eq 40, 3) := by decide +kernel
theorem d5_20 : decode jdk_52_method_16_code 20 = .ok (.aload_n 0, 1) := by decide +kernel
theorem d5_21 : decode jdk_52_method_16_code 21 = .ok (.iload_n 1, 1) := by decide +kernel
theorem d5_22 : decode jdk_52_method_16_code 22 = .ok (.iload_n 2, 1) := by decide +kernel
theorem d5_23 : decode jdk_52_method_16_code 23 = .ok (.invokestatic 119, 3) := by decide +kernel
theorem d5_26 : decode jdk_52_method_16_code 26 = .ok (.astore 5, 2) := by decide +kernel
theorem d5_28 : decode jdk_52_method_16_code 28 = .ok (.aload 5, 2) := by decide +kernel
theorem d5_30 : decode jdk_52_method_16_code 30 = .ok (.iload 4, 2) := by decide +kernel
theorem d5_32 : decode jdk_52_method_16_code 32 = .ok (.invokestatic 71, 3) := by decide +kernel
theorem d5_35 : decode jdk_52_method_16_code 35 = .ok (.sipush 255, 3) := by decide +kernel
theorem d5_38 : decode jdk_52_method_16_code 38 = .ok (.if_icmp .gt 16, 3) := by decide +kernel
theorem d5_41 : decode jdk_52_method_16_code 41 = .ok (.aload 5, 2) := by decide +kernel
theorem d5_43 : decode jdk_52_method_16_code 43 = .ok (.iconst 0, 1) := by decide +kernel
theorem d5_44 : decode jdk_52_method_16_code 44 = .ok (.aload_n 3, 1) := by decide +kernel
theorem d5_45 : decode jdk_52_method_16_code 45 = .ok (.iconst 0, 1) := by decide +kernel
theorem d5_46 : decode jdk_52_method_16_code 46 = .ok (.iload_n 2, 1) := by decide +kernel
theorem d5_47 : decode jdk_52_method_16_code 47 = .ok (.invokestatic 123, 3) := by decide +kernel
theorem d5_50 : decode jdk_52_method_16_code 50 = .ok (.iload_n 2, 1) := by decide +kernel
theorem d5_51 : decode jdk_52_method_16_code 51 = .ok (.if_icmp .eq 6, 3) := by decide +kernel
theorem d5_54 : decode jdk_52_method_16_code 54 = .ok (.aload 5, 2) := by decide +kernel
theorem d5_56 : decode jdk_52_method_16_code 56 = .ok (.areturn, 1) := by decide +kernel
theorem d5_57 : decode jdk_52_method_16_code 57 = .ok (.aload_n 3, 1) := by decide +kernel
theorem d5_58 : decode jdk_52_method_16_code 58 = .ok (.areturn, 1) := by decide +kernel
theorem ef_5 (m : MethodId) (a0 : Addr) (p1 : Int32) (p2 : Int32) : entryFrame m #[(.ref a0), (.int p1), (.int p2)] 6 = mkF m 0 #[.val (.ref a0), .val (.int p1), .val (.int p2), .unset, .unset, .unset] [] := by first | (simp [entryFrame, mkF, argsToLocals, Value.category]; done) | rfl
set_option maxRecDepth 65536 in
set_option maxHeartbeats 4000000 in
theorem rmC3_1 (l : Launch) (Z : State) (az : Array Value) (hw : ∀ d ∈ tables_1, d.before az Z = true) (ws : List Jvm.Cond) (a0 : Addr) (p1 : Int32) (p2 : Int32) (k0 : ClassId) (c1 : Int32) (h0 : Heap) (n0 : Nat) (Z0 : n0 ≤ h0.size) (V_a0 : Arv Z h0 a0 k0 .char (1 : Int32) [(.int c1)] (.int 0)) (h1 : p1 = 0) (h2 : p2 = (1 : Int32)) (u1 : ¬ (255 : Int32) < c1) :
    MetFree l (⟨"java/lang/StringUTF16", "compress", "([CII)[B"⟩ : MethodName) (head1 (Jvm.Cond.code (⟨"java/lang/StringUTF16", "compress", "([CII)[B"⟩ : MethodName) jdk_52_method_16_code 6 (some (.array .byte)) :: ws) ({ frames := 1, cells := 1, slots := 1, locals := 18 } : Room)) (fun a U => a = #[(.ref a0), (.int p1), (.int p2)] ∧ Z.Warmed39 U.vm ∧ U.heap = h0) (fun _ _ _ _ _ => True) (fun _ U o U' => ∃ v L, o = .returned v ∧ (Q_c3_1 Z c1 h0 n0) v U'.heap L ∧ FrameEnd U o U' L ({ frames := 1, cells := 1, slots := 1, locals := 18 } : Room).cells ({ frames := 1, cells := 1, slots := 1, locals := 18 } : Room).slots) := by
  refine MetFree.of_bodySF (plainFor_of_name pn_2) hisR ?_
  intro p e s m args below meth c s₁ Bd hml0 hP hK
  obtain ⟨rfl, hZ, hh⟩ := hP
  have hx := Bd.exec
  have hby := Bd.bytes
  have hlk : meth.locks = false := Bd.notSynchronized
  have hml : c.maxLocals = 6 := hml0
  have hown : s.vm.findClass "java/lang/StringUTF16" = some m.cls := findClass_of_methodNamed Bd.named
  have hnm := (name_of_methodNamed Bd.named Bd.method).1
  have X0 : Stand p l e ({ frames := 1, cells := 1, slots := 1, locals := 18 } : Room) s m #[(.ref a0), (.int p1), (.int p2)] below meth c s₁ [] 0 0 := Stand.of_body Bd
  have e0 : s₁.heap = h0 := by rw [← hh, Bd.state]; rfl
  have N0 := Fr.nil n0
  show Go p e below s ((Q_c3_1 Z c1 h0 n0)) ({ frames := 1, cells := 1, slots := 1, locals := 18 } : Room).cells ({ frames := 1, cells := 1, slots := 1, locals := 18 } : Room).slots (s₁.setTop (entryFrame m #[(.ref a0), (.int p1), (.int p2)] 6))
  rw [ef_5 m a0 p1 p2]
  subst h1 h2
  refine Go.st (S' := s₁.setTop (mkF m 1 #[.val (.ref a0), .val (.int (0 : Int32)), .val (.int (1 : Int32)), .unset, .unset, .unset] [(.int (1 : Int32))])) (fun _ kk => XS.iloadN X0.here hx rfl (hb hby d5_0) rfl kk) ?_
  obtain ⟨T1, h1, k1, X1, e1, E1, A1, E_b1, st1⟩ := newPE X0 hx hZ (hw _ (List.mem_of_getElem? (i := 23) rfl)) e0 (g := (mkF m 1 #[.val (.ref a0), .val (.int (0 : Int32)), .val (.int (1 : Int32)), .unset, .unset, .unset] [(.int (1 : Int32))])) rfl (hb hby d5_1) rfl (by decide) (cap := 1) (by decide) (by decide) (by decide : 0 + 1 ≤ _) (by decide : 0 + 1 ≤ _) (ad := "[B") rfl
  obtain ⟨b1, g1⟩ : ∃ z, z = h0.size := ⟨_, rfl⟩
  rw [← g1] at A1 E_b1 st1
  have ne_a0_b1 : a0 ≠ b1 := Nat.ne_of_lt (Nat.lt_of_lt_of_le V_a0.lt (Nat.le_of_eq g1.symm))
  have g_b1 : n0 ≤ b1 := Nat.le_trans Z0 (Nat.le_of_eq g1.symm)
  have sz_b1 : h0.size ≤ b1 := Nat.le_trans (Keep.refl h0 []).1 (Nat.le_of_eq g1.symm)
  have V_a0 := V_a0.ext E1
  have Zs2 := Nat.le_trans Z0 E1.1
  have Kp3 := (Keep.refl h0 []).ext E1
  have V_b1 : Arv Z h1 b1 k1 .byte (1 : Int32) [(.int (0 : Int32))] (.int (0 : Int32)) := (Arv.new A1 (by decide)).pad (pad_rep [] (.int (0 : Int32)) 1)
  refine Go.st (S' := T1.setTop (mkF m 3 #[.val (.ref a0), .val (.int (0 : Int32)), .val (.int (1 : Int32)), .unset, .unset, .unset] [(.ref b1)])) st1 ?_
  refine Go.st (S' := T1.setTop (mkF m 4 #[.val (.ref a0), .val (.int (0 : Int32)), .val (.int (1 : Int32)), .val (.ref b1), .unset, .unset] [])) (fun _ kk => XS.astoreN X1.here hx rfl (hb hby d5_3) rfl rfl (l' := #[.val (.ref a0), .val (.int (0 : Int32)), .val (.int (1 : Int32)), .val (.ref b1), .unset, .unset]) rfl kk) ?_
  refine Go.st (S' := T1.setTop (mkF m 5 #[.val (.ref a0), .val (.int (0 : Int32)), .val (.int (1 : Int32)), .val (.ref b1), .unset, .unset] [(.ref a0)])) (fun _ kk => XS.aloadN X1.here hx rfl (hb hby d5_4) rfl rfl kk) ?_
  refine Go.st (S' := T1.setTop (mkF m 6 #[.val (.ref a0), .val (.int (0 : Int32)), .val (.int (1 : Int32)), .val (.ref b1), .unset, .unset] [(.int (0 : Int32)), (.ref a0)])) (fun _ kk => XS.iloadN X1.here hx rfl (hb hby d5_5) rfl kk) ?_
  refine Go.st (S' := T1.setTop (mkF m 7 #[.val (.ref a0), .val (.int (0 : Int32)), .val (.int (1 : Int32)), .val (.ref b1), .unset, .unset] [(.ref b1), (.int (0 : Int32)), (.ref a0)])) (fun _ kk => XS.aloadN X1.here hx rfl (hb hby d5_6) rfl rfl kk) ?_
  refine Go.st (S' := T1.setTop (mkF m 8 #[.val (.ref a0), .val (.int (0 : Int32)), .val (.int (1 : Int32)), .val (.ref b1), .unset, .unset] [(.int (0 : Int32)), (.ref b1), (.int (0 : Int32)), (.ref a0)])) (fun _ kk => XS.iconst X1.here hx rfl (hb hby d5_7) kk) ?_
  refine Go.st (S' := T1.setTop (mkF m 9 #[.val (.ref a0), .val (.int (0 : Int32)), .val (.int (1 : Int32)), .val (.ref b1), .unset, .unset] [(.int (1 : Int32)), (.int (0 : Int32)), (.ref b1), (.int (0 : Int32)), (.ref a0)])) (fun _ kk => XS.iloadN X1.here hx rfl (hb hby d5_8) rfl kk) ?_
  obtain ⟨_, _, ⟨T4, L4, k4, n4⟩, -, X4, ⟨Lc4, hQ4, l4, y4, z4⟩, st4⟩ := Jvm.LawKit.callS X1 hx (y := (⟨"java/lang/StringUTF16", "compress", "([CI[BII)I"⟩ : MethodName)) hown (mvT hZ (hw _ (List.mem_of_getElem? (i := 24) rfl))) (mvT hZ (hw _ (List.mem_of_getElem? (i := 25) rfl))) (mvT hZ (hw _ (List.mem_of_getElem? (i := 21) rfl))) (mvT hZ (hw _ (List.mem_of_getElem? (i := 26) rfl))) (by decide) (backOf (W := 0) (rmC5_1 l Z az hw [] a0 (0 : Int32) b1 (0 : Int32) (1 : Int32) k0 k1 c1 h1 n0 Zs2 V_a0 V_b1 ne_a0_b1 g_b1 rfl rfl rfl u1) hZ (hw _ (List.mem_of_getElem? (i := 26) rfl)) (hw _ (List.mem_of_getElem? (i := 21) rfl)) (by decide) (by decide)) (g := (mkF m 9 #[.val (.ref a0), .val (.int (0 : Int32)), .val (.int (1 : Int32)), .val (.ref b1), .unset, .unset] [(.int (1 : Int32)), (.int (0 : Int32)), (.ref b1), (.int (0 : Int32)), (.ref a0)])) rfl (by rw [hml]; rfl) (argsL := [(.ref a0), (.int (0 : Int32)), (.ref b1), (.int (0 : Int32)), (.int (1 : Int32))]) (rest := []) (lenOf pd_5 rfl) rfl (by show 2 * 0 + _ ≤ _; exact Nat.le_of_eq rfl) (hb hby d5_9) (fun _ _ => ⟨rfl, e1, (by decide : 1 + 0 ≤ _), (by decide : 1 + 0 ≤ _)⟩)
  dsimp only [Pt.U, Pt.locs, Pt.cells, Pt.slots] at X4 l4 y4 z4 st4 hQ4
  subst l4 y4 z4
  obtain ⟨rfl, N4q, K4, Va4⟩ := hQ4
  have N4 := Fr.app N0 N4q
  have V_a0 := V_a0.keep K4 (ninS ne_a0_b1 nin0)
  have E_b1 := E_b1.keep K4
  have Zs5 := Nat.le_trans Zs2 K4.1
  have Kp6 := Kp3.trans K4 (allS (Or.inr sz_b1) all0)
  refine Go.st (S' := T4.setTop (mkF m 12 #[.val (.ref a0), .val (.int (0 : Int32)), .val (.int (1 : Int32)), .val (.ref b1), .unset, .unset] [(.int (1 : Int32))])) st4 ?_
  refine Go.st (S' := T4.setTop (mkF m 14 #[.val (.ref a0), .val (.int (0 : Int32)), .val (.int (1 : Int32)), .val (.ref b1), .val (.int (1 : Int32)), .unset] [])) (fun _ kk => XS.istore X4.here hx rfl (hb hby d5_12) rfl (l' := #[.val (.ref a0), .val (.int (0 : Int32)), .val (.int (1 : Int32)), .val (.ref b1), .val (.int (1 : Int32)), .unset]) rfl kk) ?_
  refine Go.st (S' := T4.setTop (mkF m 16 #[.val (.ref a0), .val (.int (0 : Int32)), .val (.int (1 : Int32)), .val (.ref b1), .val (.int (1 : Int32)), .unset] [(.int (1 : Int32))])) (fun _ kk => XS.iload X4.here hx rfl (hb hby d5_14) rfl kk) ?_
  refine Go.st (S' := T4.setTop (mkF m 17 #[.val (.ref a0), .val (.int (0 : Int32)), .val (.int (1 : Int32)), .val (.ref b1), .val (.int (1 : Int32)), .unset] [(.int (1 : Int32)), (.int (1 : Int32))])) (fun _ kk => XS.iloadN X4.here hx rfl (hb hby d5_16) rfl kk) ?_
  refine Go.st (S' := T4.setTop (mkF m 57 #[.val (.ref a0), .val (.int (0 : Int32)), .val (.int (1 : Int32)), .val (.ref b1), .val (.int (1 : Int32)), .unset] [])) (fun _ kk => XS.icmpYes X4.here hx rfl (pc0 := 17) (pc' := 57) rfl (hb hby d5_17) rfl (teq (by decide : (1 : Int32) = (1 : Int32))).1 (by decide) (by decide) kk) ?_
  refine Go.st (S' := T4.setTop (mkF m 58 #[.val (.ref a0), .val (.int (0 : Int32)), .val (.int (1 : Int32)), .val (.ref b1), .val (.int (1 : Int32)), .unset] [(.ref b1)])) (fun _ kk => XS.aloadN X4.here hx rfl (hb hby d5_57) rfl rfl kk) ?_
  exact Go.retA X4 hx hlk Bd.returns rfl rfl (hb hby d5_58) (by exact ⟨_, _, rfl, N4, Kp6, Va4, E_b1, sz_b1⟩) (by decide) (by decide)
theorem d7_0 : decode jdk_52_method_15_code 0 = .ok (.iload_n 1, 1) := by decide +kernel
theorem d7_1 : decode jdk_52_method_15_code 1 = .ok (.aload_n 0, 1) := by decide +kernel
theorem d7_2 : decode jdk_52_method_15_code 2 = .ok (.arraylength, 1) := by decide +kernel
theorem d7_3 : decode jdk_52_method_15_code 3 = .ok (.isub, 1) := by decide +kernel
theorem d7_4 : decode jdk_52_method_15_code 4 = .ok (.bipush 31, 2) := by decide +kernel
theorem d7_6 : decode jdk_52_method_15_code 6 = .ok (.iushr, 1) := by decide +kernel
theorem d7_7 : decode jdk_52_method_15_code 7 = .ok (.i2b, 1) := by decide +kernel
theorem d7_8 : decode jdk_52_method_15_code 8 = .ok (.ireturn, 1) := by decide +kernel
theorem ef_7 (m : MethodId) (a0 : Addr) (p1 : Int32) : entryFrame m #[(.ref a0), (.int p1)] 2 = mkF m 0 #[.val (.ref a0), .val (.int p1)] [] := by first | (simp [entryFrame, mkF, argsToLocals, Value.category]; done) | rfl
set_option maxRecDepth 65536 in
set_option maxHeartbeats 4000000 in
theorem rmCd_1 (l : Launch) (Z : State) (az : Array Value) (hw : ∀ d ∈ tables_1, d.before az Z = true) (ws : List Jvm.Cond) (a0 : Addr) (p1 : Int32) (k0 : ClassId) (vs : List Value) (h0 : Heap) (n0 : Nat) (Z0 : n0 ≤ h0.size) (V_a0 : Arv Z h0 a0 k0 .byte (1 : Int32) vs (.int 0)) (h1 : p1 = (1 : Int32)) :
    MetFree l (⟨"java/lang/StringUTF16", "coderFromArrayLen", "([BI)B"⟩ : MethodName) (head1 (Jvm.Cond.code (⟨"java/lang/StringUTF16", "coderFromArrayLen", "([BI)B"⟩ : MethodName) jdk_52_method_15_code 2 (some .byte) :: ws) ({ frames := 0, cells := 0, slots := 0, locals := 0 } : Room)) (fun a U => a = #[(.ref a0), (.int p1)] ∧ Z.Warmed39 U.vm ∧ U.heap = h0) (fun _ _ _ _ _ => True) (fun _ U o U' => ∃ v L, o = .returned v ∧ (PQ (.int 0) n0 h0) v U'.heap L ∧ FrameEnd U o U' L ({ frames := 0, cells := 0, slots := 0, locals := 0 } : Room).cells ({ frames := 0, cells := 0, slots := 0, locals := 0 } : Room).slots) := by
  refine MetFree.of_bodySF (plainFor_of_name pn_2) hisR ?_
  intro p e s m args below meth c s₁ Bd hml0 hP hK
  obtain ⟨rfl, hZ, hh⟩ := hP
  have hx := Bd.exec
  have hby := Bd.bytes
  have hlk : meth.locks = false := Bd.notSynchronized
  have hml : c.maxLocals = 2 := hml0
  have hown : s.vm.findClass "java/lang/StringUTF16" = some m.cls := findClass_of_methodNamed Bd.named
  have hnm := (name_of_methodNamed Bd.named Bd.method).1
  have X0 : Stand p l e ({ frames := 0, cells := 0, slots := 0, locals := 0 } : Room) s m #[(.ref a0), (.int p1)] below meth c s₁ [] 0 0 := Stand.of_body Bd
  have e0 : s₁.heap = h0 := by rw [← hh, Bd.state]; rfl
  have N0 := Fr.nil n0
  show Go p e below s ((PQ (.int 0) n0 h0)) ({ frames := 0, cells := 0, slots := 0, locals := 0 } : Room).cells ({ frames := 0, cells := 0, slots := 0, locals := 0 } : Room).slots (s₁.setTop (entryFrame m #[(.ref a0), (.int p1)] 2))
  rw [ef_7 m a0 p1]
  subst h1
  refine Go.st (S' := s₁.setTop (mkF m 1 #[.val (.ref a0), .val (.int (1 : Int32))] [(.int (1 : Int32))])) (fun _ kk => XS.iloadN X0.here hx rfl (hb hby d7_0) rfl kk) ?_
  refine Go.st (S' := s₁.setTop (mkF m 2 #[.val (.ref a0), .val (.int (1 : Int32))] [(.ref a0), (.int (1 : Int32))])) (fun _ kk => XS.aloadN X0.here hx rfl (hb hby d7_1) rfl rfl kk) ?_
  obtain ⟨cl1, Ar1, -, S1, Ng1, -, -⟩ := (id V_a0)
  refine Go.st (S' := s₁.setTop (mkF m 3 #[.val (.ref a0), .val (.int (1 : Int32))] [(.int (1 : Int32)), (.int (1 : Int32))])) (fun _ kk => X0.arraylength hx (by rw [e0]; exact Ar1.1) (State.isArrayOf_alike hZ.alike Ar1.2.1) (g := (mkF m 2 #[.val (.ref a0), .val (.int (1 : Int32))] [(.ref a0), (.int (1 : Int32))])) rfl rfl (hb hby d7_2) _ (by rw [len_of S1 Ng1]; exact kk)) ?_
  refine Go.st (S' := s₁.setTop (mkF m 4 #[.val (.ref a0), .val (.int (1 : Int32))] [(.int (0 : Int32))])) (fun _ kk => XS.isub X0.here hx rfl (hb hby d7_3) rfl kk) ?_
  refine Go.st (S' := s₁.setTop (mkF m 6 #[.val (.ref a0), .val (.int (1 : Int32))] [(.int (31 : Int32)), (.int (0 : Int32))])) (fun _ kk => XS.bipush X0.here hx rfl (hb hby d7_4) kk) ?_
  refine Go.st (S' := s₁.setTop (mkF m 7 #[.val (.ref a0), .val (.int (1 : Int32))] [(.int (((0 : Int32).toUInt32 >>> ((31 : Int32) &&& 31).toUInt32).toInt32))])) (fun _ kk => XS.iushr X0.here hx rfl (hb hby d7_6) rfl kk) ?_
  refine Go.st (S' := s₁.setTop (mkF m 8 #[.val (.ref a0), .val (.int (1 : Int32))] [(.int ((((0 : Int32).toUInt32 >>> ((31 : Int32) &&& 31).toUInt32).toInt32).toInt8.toInt32))])) (fun _ kk => XS.i2b X0.here hx rfl (hb hby d7_7) rfl kk) ?_
  exact Go.retN X0 hx hlk (t := .byte) Bd.returns (by simp) (hb hby d7_8) (⟨rfl, N0, e0⟩) (by decide) (by decide)
def Q_in_1 (Z : State) (a0 : Addr) (c1 : Int32) (h0 : Heap) (n0 : Nat) (v : Option Value) (h : Heap) (L : List Loc) : Prop := v = none ∧ Fr n0 L ∧ Keep h0 h [a0] ∧ Exa Z h a0 "java/lang/String" ∧ Fld Z h a0 "java/lang/String" "coder" "B" (.int 0) ∧ ∃ (b : Addr) (k : ClassId), Fld Z h a0 "java/lang/String" "value" "[B" (.ref b) ∧ Arv Z h b k .byte (1 : Int32) [(.int ((c1.toInt8.toInt32).toInt8.toInt32))] (.int 0)
theorem d3_0 : decode jdk_42_method_149_code 0 = .ok (.aload_n 0, 1) := by decide +kernel
theorem d3_1 : decode jdk_42_method_149_code 1 = .ok (.invokespecial 1, 3) := by decide +kernel
theorem d3_4 : decode jdk_42_method_149_code 4 = .ok (.iload_n 3, 1) := by decide +kernel
theorem d3_5 : decode jdk_42_method_149_code 5 = .ok (.ifCond .ne 22, 3) := by decide +kernel
theorem d3_8 : decode jdk_42_method_149_code 8 = .ok (.aload_n 0, 1) := by decide +kernel
theorem d3_9 : decode jdk_42_method_149_code 9 = .ok (.ldc 7, 2) := by decide +kernel
theorem d3_11 : decode jdk_42_method_149_code 11 = .ok (.getfield 9, 3) := by decide +kernel
theorem d3_14 : decode jdk_42_method_149_code 14 = .ok (.putfield 9, 3) := by decide +kernel
theorem d3_17 : decode jdk_42_method_149_code 17 = .ok (.aload_n 0, 1) := by decide +kernel
theorem d3_18 : decode jdk_42_method_149_code 18 = .ok (.ldc 7, 2) := by decide +kernel
theorem d3_20 : decode jdk_42_method_149_code 20 = .ok (.getfield 15, 3) := by decide +kernel
theorem d3_23 : decode jdk_42_method_149_code 23 = .ok (.putfield 15, 3) := by decide +kernel
theorem d3_26 : decode jdk_42_method_149_code 26 = .ok (.return_, 1) := by decide +kernel
theorem d3_27 : decode jdk_42_method_149_code 27 = .ok (.getstatic 38, 3) := by decide +kernel
theorem d3_30 : decode jdk_42_method_149_code 30 = .ok (.ifCond .eq 28, 3) := by decide +kernel
theorem d3_33 : decode jdk_42_method_149_code 33 = .ok (.aload_n 1, 1) := by decide +kernel
theorem d3_34 : decode jdk_42_method_149_code 34 = .ok (.iload_n 2, 1) := by decide +kernel
theorem d3_35 : decode jdk_42_method_149_code 35 = .ok (.iload_n 3, 1) := by decide +kernel
theorem d3_36 : decode jdk_42_method_149_code 36 = .ok (.invokestatic 177, 3) := by decide +kernel
theorem d3_39 : decode jdk_42_method_149_code 39 = .ok (.astore 5, 2) := by decide +kernel
theorem d3_41 : decode jdk_42_method_149_code 41 = .ok (.aload_n 0, 1) := by decide +kernel
theorem d3_42 : decode jdk_42_method_149_code 42 = .ok (.aload 5, 2) := by decide +kernel
theorem d3_44 : decode jdk_42_method_149_code 44 = .ok (.iload_n 3, 1) := by decide +kernel
theorem d3_45 : decode jdk_42_method_149_code 45 = .ok (.invokestatic 47, 3) := by decide +kernel
theorem d3_48 : decode jdk_42_method_149_code 48 = .ok (.putfield 15, 3) := by decide +kernel
theorem d3_51 : decode jdk_42_method_149_code 51 = .ok (.aload_n 0, 1) := by decide +kernel
theorem d3_52 : decode jdk_42_method_149_code 52 = .ok (.aload 5, 2) := by decide +kernel
theorem d3_54 : decode jdk_42_method_149_code 54 = .ok (.putfield 9, 3) := by decide +kernel
theorem d3_57 : decode jdk_42_method_149_code 57 = .ok (.return_, 1) := by decide +kernel
theorem d3_58 : decode jdk_42_method_149_code 58 = .ok (.aload_n 0, 1) := by decide +kernel
theorem d3_59 : decode jdk_42_method_149_code 59 = .ok (.iconst 1, 1) := by decide +kernel
theorem d3_60 : decode jdk_42_method_149_code 60 = .ok (.putfield 15, 3) := by decide +kernel
theorem d3_63 : decode jdk_42_method_149_code 63 = .ok (.aload_n 0, 1) := by decide +kernel
theorem d3_64 : decode jdk_42_method_149_code 64 = .ok (.aload_n 1, 1) := by decide +kernel
theorem d3_65 : decode jdk_42_method_149_code 65 = .ok (.iload_n 2, 1) := by decide +kernel
theorem d3_66 : decode jdk_42_method_149_code 66 = .ok (.iload_n 3, 1) := by decide +kernel
theorem d3_67 : decode jdk_42_method_149_code 67 = .ok (.invokestatic 180, 3) := by decide +kernel
theorem d3_70 : decode jdk_42_method_149_code 70 = .ok (.putfield 9, 3) := by decide +kernel
theorem d3_73 : decode jdk_42_method_149_code 73 = .ok (.return_, 1) := by decide +kernel
theorem ef_3n4 (m : MethodId) (a0 : Addr) (a1 : Addr) (p2 : Int32) (p3 : Int32) : entryFrame m #[(.ref a0), (.ref a1), (.int p2), (.int p3), .null] 6 = mkF m 0 #[.val (.ref a0), .val (.ref a1), .val (.int p2), .val (.int p3), .val .null, .unset] [] := by first | (simp [entryFrame, mkF, argsToLocals, Value.category]; done) | rfl
set_option maxRecDepth 65536 in
set_option maxHeartbeats 4000000 in
theorem rmI5_1 (l : Launch) (Z : State) (az : Array Value) (hw : ∀ d ∈ tables_1, d.before az Z = true) (ws : List Jvm.Cond) (a0 : Addr) (a1 : Addr) (p2 : Int32) (p3 : Int32) (zc : Int32) (k1 : ClassId) (c1 : Int32) (h0 : Heap) (n0 : Nat) (Z0 : n0 ≤ h0.size) (S_C : Sta Z h0 "java/lang/String" "COMPACT_STRINGS" "Z" (.int zc)) (hzc : ¬ zc = 0) (E_a0 : Exa Z h0 a0 "java/lang/String") (F_coder : Fld Z h0 a0 "java/lang/String" "coder" "B" (.int 0)) (F_value : Fld Z h0 a0 "java/lang/String" "value" "[B" .null) (g_a0 : n0 ≤ a0) (ne : a0 ≠ a1) (V_a1 : Arv Z h0 a1 k1 .char (1 : Int32) [(.int c1)] (.int 0)) (h2 : p2 = 0) (h3 : p3 = (1 : Int32)) (u1 : ¬ (255 : Int32) < c1) :
    MetFree l (⟨"java/lang/String", "<init>", "([CIILjava/lang/Void;)V"⟩ : MethodName) (head1 (Jvm.Cond.code (⟨"java/lang/String", "<init>", "([CIILjava/lang/Void;)V"⟩ : MethodName) jdk_42_method_149_code 6 none :: ws) ({ frames := 2, cells := 1, slots := 1, locals := 35 } : Room)) (fun a U => a = #[(.ref a0), (.ref a1), (.int p2), (.int p3), .null] ∧ Z.Warmed39 U.vm ∧ U.heap = h0) (fun _ _ _ _ _ => True) (fun _ U o U' => ∃ v L, o = .returned v ∧ (Q_in_1 Z a0 c1 h0 n0) v U'.heap L ∧ FrameEnd U o U' L ({ frames := 2, cells := 1, slots := 1, locals := 35 } : Room).cells ({ frames := 2, cells := 1, slots := 1, locals := 35 } : Room).slots) := by
  refine MetFree.of_bodySF (plainFor_of_name pn_1) hisR ?_
  intro p e s m args below meth c s₁ Bd hml0 hP hK
  obtain ⟨rfl, hZ, hh⟩ := hP
  have hx := Bd.exec
  have hby := Bd.bytes
  have hlk : meth.locks = false := Bd.notSynchronized
  have hml : c.maxLocals = 6 := hml0
  have hown : s.vm.findClass "java/lang/String" = some m.cls := findClass_of_methodNamed Bd.named
  have hnm := (name_of_methodNamed Bd.named Bd.method).1
  have X0 : Stand p l e ({ frames := 2, cells := 1, slots := 1, locals := 35 } : Room) s m #[(.ref a0), (.ref a1), (.int p2), (.int p3), .null] below meth c s₁ [] 0 0 := Stand.of_body Bd
  have e0 : s₁.heap = h0 := by rw [← hh, Bd.state]; rfl
  have N0 := Fr.nil n0
  show Go p e below s ((Q_in_1 Z a0 c1 h0 n0)) ({ frames := 2, cells := 1, slots := 1, locals := 35 } : Room).cells ({ frames := 2, cells := 1, slots := 1, locals := 35 } : Room).slots (s₁.setTop (entryFrame m #[(.ref a0), (.ref a1), (.int p2), (.int p3), .null] 6))
  rw [ef_3n4 m a0 a1 p2 p3]
  subst h2 h3
  refine Go.st (S' := s₁.setTop (mkF m 1 #[.val (.ref a0), .val (.ref a1), .val (.int (0 : Int32)), .val (.int (1 : Int32)), .val .null, .unset] [(.ref a0)])) (fun _ kk => XS.aloadN X0.here hx rfl (hb hby d3_0) rfl rfl kk) ?_
  obtain ⟨T1, X1, e1, st1⟩ := initO X0 hx hZ hown (hw _ (List.mem_of_getElem? (i := 15) rfl)) (hw _ (List.mem_of_getElem? (i := 16) rfl)) (hw _ (List.mem_of_getElem? (i := 17) rfl)) e0 (g := (mkF m 1 #[.val (.ref a0), .val (.ref a1), .val (.int (0 : Int32)), .val (.int (1 : Int32)), .val .null, .unset] [(.ref a0)])) rfl (by rw [hml]; rfl) rfl (hb hby d3_1) (by decide) (W := 0) (by show 2 * 0 + _ ≤ _; exact Nat.le_of_eq rfl) (by decide)
  refine Go.st (S' := T1.setTop (mkF m 4 #[.val (.ref a0), .val (.ref a1), .val (.int (0 : Int32)), .val (.int (1 : Int32)), .val .null, .unset] [])) st1 ?_
  refine Go.st (S' := T1.setTop (mkF m 5 #[.val (.ref a0), .val (.ref a1), .val (.int (0 : Int32)), .val (.int (1 : Int32)), .val .null, .unset] [(.int (1 : Int32))])) (fun _ kk => XS.iloadN X1.here hx rfl (hb hby d3_4) rfl kk) ?_
  refine Go.st (S' := T1.setTop (mkF m 27 #[.val (.ref a0), .val (.ref a1), .val (.int (0 : Int32)), .val (.int (1 : Int32)), .val .null, .unset] [])) (fun _ kk => XS.ifYes X1.here hx rfl (pc0 := 5) (pc' := 27) rfl (hb hby d3_5) rfl ((if0 _ _).trans (feq (by decide : ¬ ((1 : Int32) = (0 : Int32)))).2) (by decide) (by decide) kk) ?_
  obtain ⟨T2, X2, e2, st2⟩ := getS2 X1 hx hZ hown (host := "") (Or.inl (hw _ (List.mem_of_getElem? (i := 18) rfl))) Via.refl e1 S_C (g := (mkF m 27 #[.val (.ref a0), .val (.ref a1), .val (.int (0 : Int32)), .val (.int (1 : Int32)), .val .null, .unset] [])) rfl (hb hby d3_27)
  refine Go.st (S' := T2.setTop (mkF m 30 #[.val (.ref a0), .val (.ref a1), .val (.int (0 : Int32)), .val (.int (1 : Int32)), .val .null, .unset] [(.int zc)])) st2 ?_
  refine Go.st (S' := T2.setTop (mkF m 33 #[.val (.ref a0), .val (.ref a1), .val (.int (0 : Int32)), .val (.int (1 : Int32)), .val .null, .unset] [])) (fun _ kk => XS.ifNo X2.here hx rfl (hb hby d3_30) rfl ((if0 _ _).trans (feq hzc).1) kk) ?_
  refine Go.st (S' := T2.setTop (mkF m 34 #[.val (.ref a0), .val (.ref a1), .val (.int (0 : Int32)), .val (.int (1 : Int32)), .val .null, .unset] [(.ref a1)])) (fun _ kk => XS.aloadN X2.here hx rfl (hb hby d3_33) rfl rfl kk) ?_
  refine Go.st (S' := T2.setTop (mkF m 35 #[.val (.ref a0), .val (.ref a1), .val (.int (0 : Int32)), .val (.int (1 : Int32)), .val .null, .unset] [(.int (0 : Int32)), (.ref a1)])) (fun _ kk => XS.iloadN X2.here hx rfl (hb hby d3_34) rfl kk) ?_
  refine Go.st (S' := T2.setTop (mkF m 36 #[.val (.ref a0), .val (.ref a1), .val (.int (0 : Int32)), .val (.int (1 : Int32)), .val .null, .unset] [(.int (1 : Int32)), (.int (0 : Int32)), (.ref a1)])) (fun _ kk => XS.iloadN X2.here hx rfl (hb hby d3_35) rfl kk) ?_
  obtain ⟨_, _, ⟨T3, L3, k3, n3⟩, -, X3, ⟨Lc3, hQ3, l3, y3, z3⟩, st3⟩ := Jvm.LawKit.callS X2 hx (y := (⟨"java/lang/StringUTF16", "compress", "([CII)[B"⟩ : MethodName)) hown (mvT hZ (hw _ (List.mem_of_getElem? (i := 19) rfl))) (mvT hZ (hw _ (List.mem_of_getElem? (i := 20) rfl))) (mvT hZ (hw _ (List.mem_of_getElem? (i := 21) rfl))) (mvT hZ (hw _ (List.mem_of_getElem? (i := 22) rfl))) (by decide) (backOf (W := 0) (rmC3_1 l Z az hw [] a1 (0 : Int32) (1 : Int32) k1 c1 h0 n0 Z0 V_a1 rfl rfl u1) hZ (hw _ (List.mem_of_getElem? (i := 22) rfl)) (hw _ (List.mem_of_getElem? (i := 21) rfl)) (by decide) (by decide)) (g := (mkF m 36 #[.val (.ref a0), .val (.ref a1), .val (.int (0 : Int32)), .val (.int (1 : Int32)), .val .null, .unset] [(.int (1 : Int32)), (.int (0 : Int32)), (.ref a1)])) rfl (by rw [hml]; rfl) (argsL := [(.ref a1), (.int (0 : Int32)), (.int (1 : Int32))]) (rest := []) (lenOf pd_4 rfl) rfl (by show 2 * 0 + _ ≤ _; exact Nat.le_of_eq rfl) (hb hby d3_36) (fun _ _ => ⟨rfl, e2, (by decide : 0 + 1 ≤ _), (by decide : 0 + 1 ≤ _)⟩)
  dsimp only [Pt.U, Pt.locs, Pt.cells, Pt.slots] at X3 l3 y3 z3 st3 hQ3
  subst l3 y3 z3
  obtain ⟨b3, kb3, rfl, N3q, K3, V_b3, E_b3, gb3⟩ := hQ3
  have Ex3 := own_extK K3
  have N3 := Fr.app N0 N3q
  have ne_a0_b3 : a0 ≠ b3 := Nat.ne_of_lt (Nat.lt_of_lt_of_le E_a0.lt gb3)
  have ne_a1_b3 : a1 ≠ b3 := Nat.ne_of_lt (Nat.lt_of_lt_of_le V_a1.lt gb3)
  have g_b3 : n0 ≤ b3 := Nat.le_trans Z0 gb3
  have S_C := S_C.ext Ex3
  have E_a0 := E_a0.ext Ex3
  have F_coder := F_coder.ext Ex3
  have F_value := F_value.ext Ex3
  have V_a1 := V_a1.ext Ex3
  have Zs4 := Nat.le_trans Z0 Ex3.1
  have Kp5 := (Keep.refl h0 [a0]).ext Ex3
  refine Go.st (S' := T3.setTop (mkF m 39 #[.val (.ref a0), .val (.ref a1), .val (.int (0 : Int32)), .val (.int (1 : Int32)), .val .null, .unset] [(.ref b3)])) st3 ?_
  refine Go.st (S' := T3.setTop (mkF m 41 #[.val (.ref a0), .val (.ref a1), .val (.int (0 : Int32)), .val (.int (1 : Int32)), .val .null, .val (.ref b3)] [])) (fun _ kk => XS.astore X3.here hx rfl (hb hby d3_39) rfl rfl (l' := #[.val (.ref a0), .val (.ref a1), .val (.int (0 : Int32)), .val (.int (1 : Int32)), .val .null, .val (.ref b3)]) rfl kk) ?_
  refine Go.st (S' := T3.setTop (mkF m 42 #[.val (.ref a0), .val (.ref a1), .val (.int (0 : Int32)), .val (.int (1 : Int32)), .val .null, .val (.ref b3)] [(.ref a0)])) (fun _ kk => XS.aloadN X3.here hx rfl (hb hby d3_41) rfl rfl kk) ?_
  refine Go.st (S' := T3.setTop (mkF m 44 #[.val (.ref a0), .val (.ref a1), .val (.int (0 : Int32)), .val (.int (1 : Int32)), .val .null, .val (.ref b3)] [(.ref b3), (.ref a0)])) (fun _ kk => XS.aload X3.here hx rfl (hb hby d3_42) rfl rfl kk) ?_
  refine Go.st (S' := T3.setTop (mkF m 45 #[.val (.ref a0), .val (.ref a1), .val (.int (0 : Int32)), .val (.int (1 : Int32)), .val .null, .val (.ref b3)] [(.int (1 : Int32)), (.ref b3), (.ref a0)])) (fun _ kk => XS.iloadN X3.here hx rfl (hb hby d3_44) rfl kk) ?_
  obtain ⟨_, _, ⟨T6, L6, k6, n6⟩, -, X6, ⟨Lc6, hQ6, l6, y6, z6⟩, st6⟩ := Jvm.LawKit.callS X3 hx (y := (⟨"java/lang/StringUTF16", "coderFromArrayLen", "([BI)B"⟩ : MethodName)) hown (mvT hZ (hw _ (List.mem_of_getElem? (i := 27) rfl))) (mvT hZ (hw _ (List.mem_of_getElem? (i := 28) rfl))) (mvT hZ (hw _ (List.mem_of_getElem? (i := 21) rfl))) (mvT hZ (hw _ (List.mem_of_getElem? (i := 29) rfl))) (by decide) (backOf (W := 1) (rmCd_1 l Z az hw [] b3 (1 : Int32) kb3 _ T3.heap n0 Zs4 V_b3 rfl) hZ (hw _ (List.mem_of_getElem? (i := 29) rfl)) (hw _ (List.mem_of_getElem? (i := 21) rfl)) (by decide) (by decide)) (g := (mkF m 45 #[.val (.ref a0), .val (.ref a1), .val (.int (0 : Int32)), .val (.int (1 : Int32)), .val .null, .val (.ref b3)] [(.int (1 : Int32)), (.ref b3), (.ref a0)])) rfl (by rw [hml]; rfl) (argsL := [(.ref b3), (.int (1 : Int32))]) (rest := [(.ref a0)]) (lenOf pd_6 rfl) rfl (by show 2 * 0 + _ ≤ _; exact Nat.le_of_eq rfl) (hb hby d3_45) (fun _ _ => ⟨rfl, rfl, (by decide : 1 + 0 ≤ _), (by decide : 1 + 0 ≤ _)⟩)
  dsimp only [Pt.U, Pt.locs, Pt.cells, Pt.slots] at X6 l6 y6 z6 st6 hQ6
  subst l6 y6 z6
  obtain ⟨rfl, N6q, e6⟩ := hQ6
  have N6 := Fr.app N3 N6q
  refine Go.st (S' := T6.setTop (mkF m 48 #[.val (.ref a0), .val (.ref a1), .val (.int (0 : Int32)), .val (.int (1 : Int32)), .val .null, .val (.ref b3)] [(.int (0 : Int32)), (.ref a0)])) st6 ?_
  obtain ⟨T7, h7, X7, e7, W7, st7⟩ := putFN X6 hx hZ hown (hw _ (List.mem_of_getElem? (i := 30) rfl)) Via.refl e6 F_coder E_a0 (Or.inr ⟨(hw _ (List.mem_of_getElem? (i := 31) rfl)), rfl, hnm⟩) (hw _ (List.mem_of_getElem? (i := 5) rfl)) (ty := .byte) (v' := .int (nar .byte (0 : Int32))) (by decide) rfl (fits_nar_byte _) (g := (mkF m 48 #[.val (.ref a0), .val (.ref a1), .val (.int (0 : Int32)), .val (.int (1 : Int32)), .val .null, .val (.ref b3)] [(.int (0 : Int32)), (.ref a0)])) rfl rfl (hb hby d3_48)
  have N7 := Fr.snoc X7 N6 g_a0
  have F_coder := F_coder.same W7
  have S_C := S_C.wr W7
  have E_a0 := E_a0.wr W7
  have F_value := F_value.other W7 (Or.inr (slot_ne (Or.inr (hw _ (List.mem_of_getElem? (i := 33) rfl))) (Or.inr (hw _ (List.mem_of_getElem? (i := 31) rfl))) (by decide) (t := (.array .byte)) (t' := .byte) (by decide) (by decide)))
  have V_a1 := V_a1.other W7 (Ne.symm ne)
  have E_b3 := E_b3.wr W7
  have V_b3 := V_b3.other W7 (Ne.symm ne_a0_b3)
  have Zs8 := Nat.le_trans Zs4 (Keep.of_wr W7).1
  have Kp9 := Kp5.wr W7 (Or.inl (List.mem_of_getElem? (i := 0) rfl))
  refine Go.st (S' := T7.setTop (mkF m 51 #[.val (.ref a0), .val (.ref a1), .val (.int (0 : Int32)), .val (.int (1 : Int32)), .val .null, .val (.ref b3)] [])) st7 ?_
  refine Go.st (S' := T7.setTop (mkF m 52 #[.val (.ref a0), .val (.ref a1), .val (.int (0 : Int32)), .val (.int (1 : Int32)), .val .null, .val (.ref b3)] [(.ref a0)])) (fun _ kk => XS.aloadN X7.here hx rfl (hb hby d3_51) rfl rfl kk) ?_
  refine Go.st (S' := T7.setTop (mkF m 54 #[.val (.ref a0), .val (.ref a1), .val (.int (0 : Int32)), .val (.int (1 : Int32)), .val .null, .val (.ref b3)] [(.ref b3), (.ref a0)])) (fun _ kk => XS.aload X7.here hx rfl (hb hby d3_52) rfl rfl kk) ?_
  obtain ⟨T10, h10, X10, e10, W10, st10⟩ := putF X7 hx hZ hown (host := "") (Or.inl (hw _ (List.mem_of_getElem? (i := 32) rfl))) Via.refl e7 F_value E_a0 (Or.inr ⟨(hw _ (List.mem_of_getElem? (i := 33) rfl)), rfl, hnm⟩) (hw _ (List.mem_of_getElem? (i := 5) rfl)) (ty := (.array .byte)) (by decide) rfl rfl (g := (mkF m 54 #[.val (.ref a0), .val (.ref a1), .val (.int (0 : Int32)), .val (.int (1 : Int32)), .val .null, .val (.ref b3)] [(.ref b3), (.ref a0)])) rfl rfl (hb hby d3_54)
  have N10 := Fr.snoc X10 N7 g_a0
  have F_value := F_value.same W10
  have S_C := S_C.wr W10
  have E_a0 := E_a0.wr W10
  have F_coder := F_coder.other W10 (Or.inr (slot_ne (Or.inr (hw _ (List.mem_of_getElem? (i := 31) rfl))) (Or.inr (hw _ (List.mem_of_getElem? (i := 33) rfl))) (by decide) (t := .byte) (t' := (.array .byte)) (by decide) (by decide)))
  have V_a1 := V_a1.other W10 (Ne.symm ne)
  have E_b3 := E_b3.wr W10
  have V_b3 := V_b3.other W10 (Ne.symm ne_a0_b3)
  have Zs11 := Nat.le_trans Zs8 (Keep.of_wr W10).1
  have Kp12 := Kp9.wr W10 (Or.inl (List.mem_of_getElem? (i := 0) rfl))
  refine Go.st (S' := T10.setTop (mkF m 57 #[.val (.ref a0), .val (.ref a1), .val (.int (0 : Int32)), .val (.int (1 : Int32)), .val .null, .val (.ref b3)] [])) st10 ?_
  exact Go.ret0 X10 hx hlk Bd.returns (hb hby d3_57) (by rw [e10]; exact ⟨rfl, N10, Kp12, E_a0, F_coder, _, _, F_value, V_b3⟩) (by decide) (by decide)
theorem d2_0 : decode jdk_42_method_3_code 0 = .ok (.aload_n 0, 1) := by decide +kernel
theorem d2_1 : decode jdk_42_method_3_code 1 = .ok (.aload_n 1, 1) := by decide +kernel
theorem d2_2 : decode jdk_42_method_3_code 2 = .ok (.iconst 0, 1) := by decide +kernel
theorem d2_3 : decode jdk_42_method_3_code 3 = .ok (.aload_n 1, 1) := by decide +kernel
theorem d2_4 : decode jdk_42_method_3_code 4 = .ok (.arraylength, 1) := by decide +kernel
theorem d2_5 : decode jdk_42_method_3_code 5 = .ok (.aconst_null, 1) := by decide +kernel
theorem d2_6 : decode jdk_42_method_3_code 6 = .ok (.invokespecial 27, 3) := by decide +kernel
theorem d2_9 : decode jdk_42_method_3_code 9 = .ok (.return_, 1) := by decide +kernel
theorem ef_2 (m : MethodId) (a0 : Addr) (a1 : Addr) : entryFrame m #[(.ref a0), (.ref a1)] 2 = mkF m 0 #[.val (.ref a0), .val (.ref a1)] [] := by first | (simp [entryFrame, mkF, argsToLocals, Value.category]; done) | rfl
set_option maxRecDepth 65536 in
set_option maxHeartbeats 4000000 in
theorem rmI1_1 (l : Launch) (Z : State) (az : Array Value) (hw : ∀ d ∈ tables_1, d.before az Z = true) (ws : List Jvm.Cond) (a0 : Addr) (a1 : Addr) (zc : Int32) (k1 : ClassId) (c1 : Int32) (h0 : Heap) (n0 : Nat) (Z0 : n0 ≤ h0.size) (S_C : Sta Z h0 "java/lang/String" "COMPACT_STRINGS" "Z" (.int zc)) (hzc : ¬ zc = 0) (E_a0 : Exa Z h0 a0 "java/lang/String") (F_coder : Fld Z h0 a0 "java/lang/String" "coder" "B" (.int 0)) (F_value : Fld Z h0 a0 "java/lang/String" "value" "[B" .null) (g_a0 : n0 ≤ a0) (ne : a0 ≠ a1) (V_a1 : Arv Z h0 a1 k1 .char (1 : Int32) [(.int c1)] (.int 0)) (u1 : ¬ (255 : Int32) < c1) :
    MetFree l (⟨"java/lang/String", "<init>", "([C)V"⟩ : MethodName) (head1 (Jvm.Cond.code (⟨"java/lang/String", "<init>", "([C)V"⟩ : MethodName) jdk_42_method_3_code 2 none :: ws) ({ frames := 3, cells := 1, slots := 1, locals := 52 } : Room)) (fun a U => a = #[(.ref a0), (.ref a1)] ∧ Z.Warmed39 U.vm ∧ U.heap = h0) (fun _ _ _ _ _ => True) (fun _ U o U' => ∃ v L, o = .returned v ∧ (Q_in_1 Z a0 c1 h0 n0) v U'.heap L ∧ FrameEnd U o U' L ({ frames := 3, cells := 1, slots := 1, locals := 52 } : Room).cells ({ frames := 3, cells := 1, slots := 1, locals := 52 } : Room).slots) := by
  refine MetFree.of_bodySF (plainFor_of_name pn_1) hisR ?_
  intro p e s m args below meth c s₁ Bd hml0 hP hK
  obtain ⟨rfl, hZ, hh⟩ := hP
  have hx := Bd.exec
  have hby := Bd.bytes
  have hlk : meth.locks = false := Bd.notSynchronized
  have hml : c.maxLocals = 2 := hml0
  have hown : s.vm.findClass "java/lang/String" = some m.cls := findClass_of_methodNamed Bd.named
  have hnm := (name_of_methodNamed Bd.named Bd.method).1
  have X0 : Stand p l e ({ frames := 3, cells := 1, slots := 1, locals := 52 } : Room) s m #[(.ref a0), (.ref a1)] below meth c s₁ [] 0 0 := Stand.of_body Bd
  have e0 : s₁.heap = h0 := by rw [← hh, Bd.state]; rfl
  have N0 := Fr.nil n0
  show Go p e below s ((Q_in_1 Z a0 c1 h0 n0)) ({ frames := 3, cells := 1, slots := 1, locals := 52 } : Room).cells ({ frames := 3, cells := 1, slots := 1, locals := 52 } : Room).slots (s₁.setTop (entryFrame m #[(.ref a0), (.ref a1)] 2))
  rw [ef_2 m a0 a1]
  refine Go.st (S' := s₁.setTop (mkF m 1 #[.val (.ref a0), .val (.ref a1)] [(.ref a0)])) (fun _ kk => XS.aloadN X0.here hx rfl (hb hby d2_0) rfl rfl kk) ?_
  refine Go.st (S' := s₁.setTop (mkF m 2 #[.val (.ref a0), .val (.ref a1)] [(.ref a1), (.ref a0)])) (fun _ kk => XS.aloadN X0.here hx rfl (hb hby d2_1) rfl rfl kk) ?_
  refine Go.st (S' := s₁.setTop (mkF m 3 #[.val (.ref a0), .val (.ref a1)] [(.int (0 : Int32)), (.ref a1), (.ref a0)])) (fun _ kk => XS.iconst X0.here hx rfl (hb hby d2_2) kk) ?_
  refine Go.st (S' := s₁.setTop (mkF m 4 #[.val (.ref a0), .val (.ref a1)] [(.ref a1), (.int (0 : Int32)), (.ref a1), (.ref a0)])) (fun _ kk => XS.aloadN X0.here hx rfl (hb hby d2_3) rfl rfl kk) ?_
  obtain ⟨cl1, Ar1, -, S1, Ng1, -, -⟩ := (id V_a1)
  refine Go.st (S' := s₁.setTop (mkF m 5 #[.val (.ref a0), .val (.ref a1)] [(.int (1 : Int32)), (.int (0 : Int32)), (.ref a1), (.ref a0)])) (fun _ kk => X0.arraylength hx (by rw [e0]; exact Ar1.1) (State.isArrayOf_alike hZ.alike Ar1.2.1) (g := (mkF m 4 #[.val (.ref a0), .val (.ref a1)] [(.ref a1), (.int (0 : Int32)), (.ref a1), (.ref a0)])) rfl rfl (hb hby d2_4) _ (by rw [len_of S1 Ng1]; exact kk)) ?_
  refine Go.st (S' := s₁.setTop (mkF m 6 #[.val (.ref a0), .val (.ref a1)] [.null, (.int (1 : Int32)), (.int (0 : Int32)), (.ref a1), (.ref a0)])) (fun _ kk => XS.aconstNull X0.here hx rfl (hb hby d2_5) kk) ?_
  obtain ⟨_, _, ⟨T2, L2, k2, n2⟩, -, X2, ⟨Lc2, hQ2, l2, y2, z2⟩, st2⟩ := X0.specialBack hx (y := (⟨"java/lang/String", "<init>", "([CIILjava/lang/Void;)V"⟩ : MethodName)) rfl hown (mvT hZ (hw _ (List.mem_of_getElem? (i := 11) rfl))) (mvT hZ (hw _ (List.mem_of_getElem? (i := 12) rfl))) (mvT hZ (hw _ (List.mem_of_getElem? (i := 14) rfl))) (by decide) (backOf (W := 0) (rmI5_1 l Z az hw [] a0 a1 (0 : Int32) (1 : Int32) zc k1 c1 h0 n0 Z0 S_C hzc E_a0 F_coder F_value g_a0 ne V_a1 rfl rfl u1) hZ (hw _ (List.mem_of_getElem? (i := 14) rfl)) (hw _ (List.mem_of_getElem? (i := 6) rfl)) (by decide) (by decide)) (g := (mkF m 6 #[.val (.ref a0), .val (.ref a1)] [.null, (.int (1 : Int32)), (.int (0 : Int32)), (.ref a1), (.ref a0)])) rfl (by rw [hml]; rfl) (Steps.refl _) (a := a0) (argsL := [(.ref a1), (.int (0 : Int32)), (.int (1 : Int32)), .null]) (rest := []) (lenOf pd_2 rfl) rfl (by show 2 * 0 + _ ≤ _; exact Nat.le_of_eq rfl) (hb hby d2_6) (fun _ _ => ⟨rfl, e0, (by decide : 0 + 1 ≤ _), (by decide : 0 + 1 ≤ _)⟩)
  dsimp only [Pt.U, Pt.locs, Pt.cells, Pt.slots] at X2 l2 y2 z2 st2 hQ2
  subst l2 y2 z2
  obtain ⟨rfl, N2q, K2, Ec2, Fc2, d2, kd2, Fv2, V_d2⟩ := hQ2
  have N2 := Fr.app N0 N2q
  have S_C := own_stak K2 (allS (P := fun x => ∀ cell : Cell, (h0)[x]? = some cell → cell.vm.isStatics = false) (Exa.nostat E_a0) all0) S_C
  have E_a0 := E_a0.keep K2
  have V_a1 := V_a1.keep K2 (ninS (Ne.symm ne) nin0)
  have Zs3 := Nat.le_trans Z0 K2.1
  have Kp4 := (Keep.refl h0 [a0]).trans K2 (allS (Or.inl (List.mem_of_getElem? (i := 0) rfl)) all0)
  refine Go.tr (S' := T2.setTop (mkF m 9 #[.val (.ref a0), .val (.ref a1)] [])) st2 ?_
  exact Go.ret0 X2 hx hlk Bd.returns (hb hby d2_9) (by exact ⟨rfl, N2, Kp4, Ec2, Fc2, _, _, Fv2, V_d2⟩) (by decide) (by decide)
def Q_c5_2 (Z : State) (a2 : Addr) (k2 : ClassId) (c1 : Int32) (c2 : Int32) (h0 : Heap) (n0 : Nat) (v : Option Value) (h : Heap) (L : List Loc) : Prop := v = some (.int (2 : Int32)) ∧ Fr n0 L ∧ Keep h0 h [a2] ∧ Arv Z h a2 k2 .byte (2 : Int32) [(.int ((c1.toInt8.toInt32).toInt8.toInt32)), (.int ((c2.toInt8.toInt32).toInt8.toInt32))] (.int 0)
set_option maxRecDepth 65536 in
set_option maxHeartbeats 4000000 in
theorem rmC5_2 (l : Launch) (Z : State) (az : Array Value) (hw : ∀ d ∈ tables_1, d.before az Z = true) (ws : List Jvm.Cond) (a0 : Addr) (p1 : Int32) (a2 : Addr) (p3 : Int32) (p4 : Int32) (k0 k2 : ClassId) (c1 : Int32) (c2 : Int32) (h0 : Heap) (n0 : Nat) (Z0 : n0 ≤ h0.size) (V_a0 : Arv Z h0 a0 k0 .char (2 : Int32) [(.int c1), (.int c2)] (.int 0)) (V_a2 : Arv Z h0 a2 k2 .byte (2 : Int32) [(.int (0 : Int32)), (.int (0 : Int32))] (.int 0)) (ne : a0 ≠ a2) (g_a2 : n0 ≤ a2) (h1 : p1 = 0) (h3 : p3 = 0) (h4 : p4 = (2 : Int32)) (u1 : ¬ (255 : Int32) < c1) (u2 : ¬ (255 : Int32) < c2) :
    MetFree l (⟨"java/lang/StringUTF16", "compress", "([CI[BII)I"⟩ : MethodName) (head1 (Jvm.Cond.code (⟨"java/lang/StringUTF16", "compress", "([CI[BII)I"⟩ : MethodName) jdk_52_method_21_code 7 (some .int) :: ws) ({ frames := 0, cells := 0, slots := 0, locals := 0 } : Room)) (fun a U => a = #[(.ref a0), (.int p1), (.ref a2), (.int p3), (.int p4)] ∧ Z.Warmed39 U.vm ∧ U.heap = h0) (fun _ _ _ _ _ => True) (fun _ U o U' => ∃ v L, o = .returned v ∧ (Q_c5_2 Z a2 k2 c1 c2 h0 n0) v U'.heap L ∧ FrameEnd U o U' L ({ frames := 0, cells := 0, slots := 0, locals := 0 } : Room).cells ({ frames := 0, cells := 0, slots := 0, locals := 0 } : Room).slots) := by
  refine MetFree.of_bodySF (plainFor_of_name pn_2) hisR ?_
  intro p e s m args below meth c s₁ Bd hml0 hP hK
  obtain ⟨rfl, hZ, hh⟩ := hP
  have hx := Bd.exec
  have hby := Bd.bytes
  have hlk : meth.locks = false := Bd.notSynchronized
  have hml : c.maxLocals = 7 := hml0
  have hown : s.vm.findClass "java/lang/StringUTF16" = some m.cls := findClass_of_methodNamed Bd.named
  have hnm := (name_of_methodNamed Bd.named Bd.method).1
  have X0 : Stand p l e ({ frames := 0, cells := 0, slots := 0, locals := 0 } : Room) s m #[(.ref a0), (.int p1), (.ref a2), (.int p3), (.int p4)] below meth c s₁ [] 0 0 := Stand.of_body Bd
  have e0 : s₁.heap = h0 := by rw [← hh, Bd.state]; rfl
  have N0 := Fr.nil n0
  show Go p e below s ((Q_c5_2 Z a2 k2 c1 c2 h0 n0)) ({ frames := 0, cells := 0, slots := 0, locals := 0 } : Room).cells ({ frames := 0, cells := 0, slots := 0, locals := 0 } : Room).slots (s₁.setTop (entryFrame m #[(.ref a0), (.int p1), (.ref a2), (.int p3), (.int p4)] 7))
  rw [ef_6 m a0 p1 a2 p3 p4]
  subst h1 h3 h4
  refine Go.st (S' := s₁.setTop (mkF m 1 #[.val (.ref a0), .val (.int (0 : Int32)), .val (.ref a2), .val (.int (0 : Int32)), .val (.int (2 : Int32)), .unset, .unset] [(.int (0 : Int32))])) (fun _ kk => XS.iconst X0.here hx rfl (hb hby d6_0) kk) ?_
  refine Go.st (S' := s₁.setTop (mkF m 3 #[.val (.ref a0), .val (.int (0 : Int32)), .val (.ref a2), .val (.int (0 : Int32)), .val (.int (2 : Int32)), .val (.int (0 : Int32)), .unset] [])) (fun _ kk => XS.istore X0.here hx rfl (hb hby d6_1) rfl (l' := #[.val (.ref a0), .val (.int (0 : Int32)), .val (.ref a2), .val (.int (0 : Int32)), .val (.int (2 : Int32)), .val (.int (0 : Int32)), .unset]) rfl kk) ?_
  refine Go.st (S' := s₁.setTop (mkF m 5 #[.val (.ref a0), .val (.int (0 : Int32)), .val (.ref a2), .val (.int (0 : Int32)), .val (.int (2 : Int32)), .val (.int (0 : Int32)), .unset] [(.int (0 : Int32))])) (fun _ kk => XS.iload X0.here hx rfl (hb hby d6_3) rfl kk) ?_
  refine Go.st (S' := s₁.setTop (mkF m 7 #[.val (.ref a0), .val (.int (0 : Int32)), .val (.ref a2), .val (.int (0 : Int32)), .val (.int (2 : Int32)), .val (.int (0 : Int32)), .unset] [(.int (2 : Int32)), (.int (0 : Int32))])) (fun _ kk => XS.iload X0.here hx rfl (hb hby d6_5) rfl kk) ?_
  refine Go.st (S' := s₁.setTop (mkF m 10 #[.val (.ref a0), .val (.int (0 : Int32)), .val (.ref a2), .val (.int (0 : Int32)), .val (.int (2 : Int32)), .val (.int (0 : Int32)), .unset] [])) (fun _ kk => XS.icmpNo X0.here hx rfl (hb hby d6_7) rfl (tlt (by decide : (0 : Int32) < (2 : Int32))).2.1 kk) ?_
  refine Go.st (S' := s₁.setTop (mkF m 11 #[.val (.ref a0), .val (.int (0 : Int32)), .val (.ref a2), .val (.int (0 : Int32)), .val (.int (2 : Int32)), .val (.int (0 : Int32)), .unset] [(.ref a0)])) (fun _ kk => XS.aloadN X0.here hx rfl (hb hby d6_10) rfl rfl kk) ?_
  refine Go.st (S' := s₁.setTop (mkF m 12 #[.val (.ref a0), .val (.int (0 : Int32)), .val (.ref a2), .val (.int (0 : Int32)), .val (.int (2 : Int32)), .val (.int (0 : Int32)), .unset] [(.int (0 : Int32)), (.ref a0)])) (fun _ kk => XS.iloadN X0.here hx rfl (hb hby d6_11) rfl kk) ?_
  obtain ⟨cl1, Ar1, qk1, S1, Ng1, H1, G1⟩ := (id V_a0)
  have hin1 : ¬ ((0 : Int32) < 0 ∨ cl1.slots.size ≤ ((0 : Int32)).toNatClampNeg) := inb_of S1 ⟨by decide, by decide⟩
  have hat1 : cl1.slots[((0 : Int32)).toNatClampNeg]? = some (.int c1) := Has.at H1 hin1 rfl
  refine Go.st (S' := s₁.setTop (mkF m 13 #[.val (.ref a0), .val (.int (0 : Int32)), .val (.ref a2), .val (.int (0 : Int32)), .val (.int (2 : Int32)), .val (.int (0 : Int32)), .unset] [(.int c1)])) (fun _ kk => X0.caload hx (j := (0 : Int32)) (v := (.int c1)) (by rw [e0]; exact Ar1.1) (State.isArrayOf_alike hZ.alike Ar1.2.1) Ar1.2.2 hin1 hat1 (g := (mkF m 12 #[.val (.ref a0), .val (.int (0 : Int32)), .val (.ref a2), .val (.int (0 : Int32)), .val (.int (2 : Int32)), .val (.int (0 : Int32)), .unset] [(.int (0 : Int32)), (.ref a0)])) rfl rfl (hb hby d6_12) _ kk) ?_
  refine Go.st (S' := s₁.setTop (mkF m 15 #[.val (.ref a0), .val (.int (0 : Int32)), .val (.ref a2), .val (.int (0 : Int32)), .val (.int (2 : Int32)), .val (.int (0 : Int32)), .val (.int c1)] [])) (fun _ kk => XS.istore X0.here hx rfl (hb hby d6_13) rfl (l' := #[.val (.ref a0), .val (.int (0 : Int32)), .val (.ref a2), .val (.int (0 : Int32)), .val (.int (2 : Int32)), .val (.int (0 : Int32)), .val (.int c1)]) rfl kk) ?_
  refine Go.st (S' := s₁.setTop (mkF m 17 #[.val (.ref a0), .val (.int (0 : Int32)), .val (.ref a2), .val (.int (0 : Int32)), .val (.int (2 : Int32)), .val (.int (0 : Int32)), .val (.int c1)] [(.int c1)])) (fun _ kk => XS.iload X0.here hx rfl (hb hby d6_15) rfl kk) ?_
  refine Go.st (S' := s₁.setTop (mkF m 20 #[.val (.ref a0), .val (.int (0 : Int32)), .val (.ref a2), .val (.int (0 : Int32)), .val (.int (2 : Int32)), .val (.int (0 : Int32)), .val (.int c1)] [(.int (255 : Int32)), (.int c1)])) (fun _ kk => XS.sipush X0.here hx rfl (hb hby d6_17) kk) ?_
  refine Go.st (S' := s₁.setTop (mkF m 26 #[.val (.ref a0), .val (.int (0 : Int32)), .val (.ref a2), .val (.int (0 : Int32)), .val (.int (2 : Int32)), .val (.int (0 : Int32)), .val (.int c1)] [])) (fun _ kk => XS.icmpYes X0.here hx rfl (pc0 := 20) (pc' := 26) rfl (hb hby d6_20) rfl (flt u1).2.2.2 (by decide) (by decide) kk) ?_
  refine Go.st (S' := s₁.setTop (mkF m 27 #[.val (.ref a0), .val (.int (0 : Int32)), .val (.ref a2), .val (.int (0 : Int32)), .val (.int (2 : Int32)), .val (.int (0 : Int32)), .val (.int c1)] [(.ref a2)])) (fun _ kk => XS.aloadN X0.here hx rfl (hb hby d6_26) rfl rfl kk) ?_
  refine Go.st (S' := s₁.setTop (mkF m 28 #[.val (.ref a0), .val (.int (0 : Int32)), .val (.ref a2), .val (.int (0 : Int32)), .val (.int (2 : Int32)), .val (.int (0 : Int32)), .val (.int c1)] [(.int (0 : Int32)), (.ref a2)])) (fun _ kk => XS.iloadN X0.here hx rfl (hb hby d6_27) rfl kk) ?_
  refine Go.st (S' := s₁.setTop (mkF m 30 #[.val (.ref a0), .val (.int (0 : Int32)), .val (.ref a2), .val (.int (0 : Int32)), .val (.int (2 : Int32)), .val (.int (0 : Int32)), .val (.int c1)] [(.int c1), (.int (0 : Int32)), (.ref a2)])) (fun _ kk => XS.iload X0.here hx rfl (hb hby d6_28) rfl kk) ?_
  refine Go.st (S' := s₁.setTop (mkF m 31 #[.val (.ref a0), .val (.int (0 : Int32)), .val (.ref a2), .val (.int (0 : Int32)), .val (.int (2 : Int32)), .val (.int (0 : Int32)), .val (.int c1)] [(.int (c1.toInt8.toInt32)), (.int (0 : Int32)), (.ref a2)])) (fun _ kk => XS.i2b X0.here hx rfl (hb hby d6_30) rfl kk) ?_
  obtain ⟨cl2, Ar2, qk2, S2, Ng2, H2, G2⟩ := (id V_a2)
  have hin2 : ¬ ((0 : Int32) < 0 ∨ cl2.slots.size ≤ ((0 : Int32)).toNatClampNeg) := inb_of S2 ⟨by decide, by decide⟩
  obtain ⟨T2, h2, X2, e2, W2, st2⟩ := stB X0 hx hZ e0 Ar2 (j := (0 : Int32)) hin2 (g := (mkF m 31 #[.val (.ref a0), .val (.int (0 : Int32)), .val (.ref a2), .val (.int (0 : Int32)), .val (.int (2 : Int32)), .val (.int (0 : Int32)), .val (.int c1)] [(.int (c1.toInt8.toInt32)), (.int (0 : Int32)), (.ref a2)])) rfl rfl (hb hby d6_31)
  have V_a2 : Arv Z h2 a2 k2 .byte (2 : Int32) [(.int ((c1.toInt8.toInt32).toInt8.toInt32)), (.int (0 : Int32))] (.int (0 : Int32)) := Arv.set Ar2 qk2 S2 Ng2 H2 G2 (fits_nar_byte _) W2 0 rfl (Nat.le_of_ble_eq_true rfl)
  have N2 := Fr.snoc X2 N0 g_a2
  have V_a0 := V_a0.other W2 ne
  have Zs3 := Nat.le_trans Z0 (Keep.of_wr W2).1
  have Kp4 := (Keep.refl h0 [a2]).wr W2 (Or.inl (List.mem_of_getElem? (i := 0) rfl))
  refine Go.st (S' := T2.setTop (mkF m 32 #[.val (.ref a0), .val (.int (0 : Int32)), .val (.ref a2), .val (.int (0 : Int32)), .val (.int (2 : Int32)), .val (.int (0 : Int32)), .val (.int c1)] [])) st2 ?_
  refine Go.st (S' := T2.setTop (mkF m 35 #[.val (.ref a0), .val (.int (1 : Int32)), .val (.ref a2), .val (.int (0 : Int32)), .val (.int (2 : Int32)), .val (.int (0 : Int32)), .val (.int c1)] [])) (fun _ kk => XS.iinc X2.here hx rfl (hb hby d6_32) rfl (l' := #[.val (.ref a0), .val (.int (1 : Int32)), .val (.ref a2), .val (.int (0 : Int32)), .val (.int (2 : Int32)), .val (.int (0 : Int32)), .val (.int c1)]) rfl kk) ?_
  refine Go.st (S' := T2.setTop (mkF m 38 #[.val (.ref a0), .val (.int (1 : Int32)), .val (.ref a2), .val (.int (1 : Int32)), .val (.int (2 : Int32)), .val (.int (0 : Int32)), .val (.int c1)] [])) (fun _ kk => XS.iinc X2.here hx rfl (hb hby d6_35) rfl (l' := #[.val (.ref a0), .val (.int (1 : Int32)), .val (.ref a2), .val (.int (1 : Int32)), .val (.int (2 : Int32)), .val (.int (0 : Int32)), .val (.int c1)]) rfl kk) ?_
  refine Go.st (S' := T2.setTop (mkF m 41 #[.val (.ref a0), .val (.int (1 : Int32)), .val (.ref a2), .val (.int (1 : Int32)), .val (.int (2 : Int32)), .val (.int (1 : Int32)), .val (.int c1)] [])) (fun _ kk => XS.iinc X2.here hx rfl (hb hby d6_38) rfl (l' := #[.val (.ref a0), .val (.int (1 : Int32)), .val (.ref a2), .val (.int (1 : Int32)), .val (.int (2 : Int32)), .val (.int (1 : Int32)), .val (.int c1)]) rfl kk) ?_
  refine Go.st (S' := T2.setTop (mkF m 3 #[.val (.ref a0), .val (.int (1 : Int32)), .val (.ref a2), .val (.int (1 : Int32)), .val (.int (2 : Int32)), .val (.int (1 : Int32)), .val (.int c1)] [])) (fun _ kk => XS.goto X2.here hx rfl (pc0 := 41) (pc' := 3) rfl (hb hby d6_41) (by decide) (by decide) kk) ?_
  refine Go.st (S' := T2.setTop (mkF m 5 #[.val (.ref a0), .val (.int (1 : Int32)), .val (.ref a2), .val (.int (1 : Int32)), .val (.int (2 : Int32)), .val (.int (1 : Int32)), .val (.int c1)] [(.int (1 : Int32))])) (fun _ kk => XS.iload X2.here hx rfl (hb hby d6_3) rfl kk) ?_
  refine Go.st (S' := T2.setTop (mkF m 7 #[.val (.ref a0), .val (.int (1 : Int32)), .val (.ref a2), .val (.int (1 : Int32)), .val (.int (2 : Int32)), .val (.int (1 : Int32)), .val (.int c1)] [(.int (2 : Int32)), (.int (1 : Int32))])) (fun _ kk => XS.iload X2.here hx rfl (hb hby d6_5) rfl kk) ?_
  refine Go.st (S' := T2.setTop (mkF m 10 #[.val (.ref a0), .val (.int (1 : Int32)), .val (.ref a2), .val (.int (1 : Int32)), .val (.int (2 : Int32)), .val (.int (1 : Int32)), .val (.int c1)] [])) (fun _ kk => XS.icmpNo X2.here hx rfl (hb hby d6_7) rfl (tlt (by decide : (1 : Int32) < (2 : Int32))).2.1 kk) ?_
  refine Go.st (S' := T2.setTop (mkF m 11 #[.val (.ref a0), .val (.int (1 : Int32)), .val (.ref a2), .val (.int (1 : Int32)), .val (.int (2 : Int32)), .val (.int (1 : Int32)), .val (.int c1)] [(.ref a0)])) (fun _ kk => XS.aloadN X2.here hx rfl (hb hby d6_10) rfl rfl kk) ?_
  refine Go.st (S' := T2.setTop (mkF m 12 #[.val (.ref a0), .val (.int (1 : Int32)), .val (.ref a2), .val (.int (1 : Int32)), .val (.int (2 : Int32)), .val (.int (1 : Int32)), .val (.int c1)] [(.int (1 : Int32)), (.ref a0)])) (fun _ kk => XS.iloadN X2.here hx rfl (hb hby d6_11) rfl kk) ?_
  obtain ⟨cl5, Ar5, qk5, S5, Ng5, H5, G5⟩ := (id V_a0)
  have hin5 : ¬ ((1 : Int32) < 0 ∨ cl5.slots.size ≤ ((1 : Int32)).toNatClampNeg) := inb_of S5 ⟨by decide, by decide⟩
  have hat5 : cl5.slots[((1 : Int32)).toNatClampNeg]? = some (.int c2) := Has.at H5 hin5 rfl
  refine Go.st (S' := T2.setTop (mkF m 13 #[.val (.ref a0), .val (.int (1 : Int32)), .val (.ref a2), .val (.int (1 : Int32)), .val (.int (2 : Int32)), .val (.int (1 : Int32)), .val (.int c1)] [(.int c2)])) (fun _ kk => X2.caload hx (j := (1 : Int32)) (v := (.int c2)) (by rw [e2]; exact Ar5.1) (State.isArrayOf_alike hZ.alike Ar5.2.1) Ar5.2.2 hin5 hat5 (g := (mkF m 12 #[.val (.ref a0), .val (.int (1 : Int32)), .val (.ref a2), .val (.int (1 : Int32)), .val (.int (2 : Int32)), .val (.int (1 : Int32)), .val (.int c1)] [(.int (1 : Int32)), (.ref a0)])) rfl rfl (hb hby d6_12) _ kk) ?_
  refine Go.st (S' := T2.setTop (mkF m 15 #[.val (.ref a0), .val (.int (1 : Int32)), .val (.ref a2), .val (.int (1 : Int32)), .val (.int (2 : Int32)), .val (.int (1 : Int32)), .val (.int c2)] [])) (fun _ kk => XS.istore X2.here hx rfl (hb hby d6_13) rfl (l' := #[.val (.ref a0), .val (.int (1 : Int32)), .val (.ref a2), .val (.int (1 : Int32)), .val (.int (2 : Int32)), .val (.int (1 : Int32)), .val (.int c2)]) rfl kk) ?_
  refine Go.st (S' := T2.setTop (mkF m 17 #[.val (.ref a0), .val (.int (1 : Int32)), .val (.ref a2), .val (.int (1 : Int32)), .val (.int (2 : Int32)), .val (.int (1 : Int32)), .val (.int c2)] [(.int c2)])) (fun _ kk => XS.iload X2.here hx rfl (hb hby d6_15) rfl kk) ?_
  refine Go.st (S' := T2.setTop (mkF m 20 #[.val (.ref a0), .val (.int (1 : Int32)), .val (.ref a2), .val (.int (1 : Int32)), .val (.int (2 : Int32)), .val (.int (1 : Int32)), .val (.int c2)] [(.int (255 : Int32)), (.int c2)])) (fun _ kk => XS.sipush X2.here hx rfl (hb hby d6_17) kk) ?_
  refine Go.st (S' := T2.setTop (mkF m 26 #[.val (.ref a0), .val (.int (1 : Int32)), .val (.ref a2), .val (.int (1 : Int32)), .val (.int (2 : Int32)), .val (.int (1 : Int32)), .val (.int c2)] [])) (fun _ kk => XS.icmpYes X2.here hx rfl (pc0 := 20) (pc' := 26) rfl (hb hby d6_20) rfl (flt u2).2.2.2 (by decide) (by decide) kk) ?_
  refine Go.st (S' := T2.setTop (mkF m 27 #[.val (.ref a0), .val (.int (1 : Int32)), .val (.ref a2), .val (.int (1 : Int32)), .val (.int (2 : Int32)), .val (.int (1 : Int32)), .val (.int c2)] [(.ref a2)])) (fun _ kk => XS.aloadN X2.here hx rfl (hb hby d6_26) rfl rfl kk) ?_
  refine Go.st (S' := T2.setTop (mkF m 28 #[.val (.ref a0), .val (.int (1 : Int32)), .val (.ref a2), .val (.int (1 : Int32)), .val (.int (2 : Int32)), .val (.int (1 : Int32)), .val (.int c2)] [(.int (1 : Int32)), (.ref a2)])) (fun _ kk => XS.iloadN X2.here hx rfl (hb hby d6_27) rfl kk) ?_
  refine Go.st (S' := T2.setTop (mkF m 30 #[.val (.ref a0), .val (.int (1 : Int32)), .val (.ref a2), .val (.int (1 : Int32)), .val (.int (2 : Int32)), .val (.int (1 : Int32)), .val (.int c2)] [(.int c2), (.int (1 : Int32)), (.ref a2)])) (fun _ kk => XS.iload X2.here hx rfl (hb hby d6_28) rfl kk) ?_
  refine Go.st (S' := T2.setTop (mkF m 31 #[.val (.ref a0), .val (.int (1 : Int32)), .val (.ref a2), .val (.int (1 : Int32)), .val (.int (2 : Int32)), .val (.int (1 : Int32)), .val (.int c2)] [(.int (c2.toInt8.toInt32)), (.int (1 : Int32)), (.ref a2)])) (fun _ kk => XS.i2b X2.here hx rfl (hb hby d6_30) rfl kk) ?_
  obtain ⟨cl6, Ar6, qk6, S6, Ng6, H6, G6⟩ := (id V_a2)
  have hin6 : ¬ ((1 : Int32) < 0 ∨ cl6.slots.size ≤ ((1 : Int32)).toNatClampNeg) := inb_of S6 ⟨by decide, by decide⟩
  obtain ⟨T6, h6, X6, e6, W6, st6⟩ := stB X2 hx hZ e2 Ar6 (j := (1 : Int32)) hin6 (g := (mkF m 31 #[.val (.ref a0), .val (.int (1 : Int32)), .val (.ref a2), .val (.int (1 : Int32)), .val (.int (2 : Int32)), .val (.int (1 : Int32)), .val (.int c2)] [(.int (c2.toInt8.toInt32)), (.int (1 : Int32)), (.ref a2)])) rfl rfl (hb hby d6_31)
  have V_a2 : Arv Z h6 a2 k2 .byte (2 : Int32) [(.int ((c1.toInt8.toInt32).toInt8.toInt32)), (.int ((c2.toInt8.toInt32).toInt8.toInt32))] (.int (0 : Int32)) := Arv.set Ar6 qk6 S6 Ng6 H6 G6 (fits_nar_byte _) W6 1 rfl (Nat.le_of_ble_eq_true rfl)
  have N6 := Fr.snoc X6 N2 g_a2
  have V_a0 := V_a0.other W6 ne
  have Zs7 := Nat.le_trans Zs3 (Keep.of_wr W6).1
  have Kp8 := Kp4.wr W6 (Or.inl (List.mem_of_getElem? (i := 0) rfl))
  refine Go.st (S' := T6.setTop (mkF m 32 #[.val (.ref a0), .val (.int (1 : Int32)), .val (.ref a2), .val (.int (1 : Int32)), .val (.int (2 : Int32)), .val (.int (1 : Int32)), .val (.int c2)] [])) st6 ?_
  refine Go.st (S' := T6.setTop (mkF m 35 #[.val (.ref a0), .val (.int (2 : Int32)), .val (.ref a2), .val (.int (1 : Int32)), .val (.int (2 : Int32)), .val (.int (1 : Int32)), .val (.int c2)] [])) (fun _ kk => XS.iinc X6.here hx rfl (hb hby d6_32) rfl (l' := #[.val (.ref a0), .val (.int (2 : Int32)), .val (.ref a2), .val (.int (1 : Int32)), .val (.int (2 : Int32)), .val (.int (1 : Int32)), .val (.int c2)]) rfl kk) ?_
  refine Go.st (S' := T6.setTop (mkF m 38 #[.val (.ref a0), .val (.int (2 : Int32)), .val (.ref a2), .val (.int (2 : Int32)), .val (.int (2 : Int32)), .val (.int (1 : Int32)), .val (.int c2)] [])) (fun _ kk => XS.iinc X6.here hx rfl (hb hby d6_35) rfl (l' := #[.val (.ref a0), .val (.int (2 : Int32)), .val (.ref a2), .val (.int (2 : Int32)), .val (.int (2 : Int32)), .val (.int (1 : Int32)), .val (.int c2)]) rfl kk) ?_
  refine Go.st (S' := T6.setTop (mkF m 41 #[.val (.ref a0), .val (.int (2 : Int32)), .val (.ref a2), .val (.int (2 : Int32)), .val (.int (2 : Int32)), .val (.int (2 : Int32)), .val (.int c2)] [])) (fun _ kk => XS.iinc X6.here hx rfl (hb hby d6_38) rfl (l' := #[.val (.ref a0), .val (.int (2 : Int32)), .val (.ref a2), .val (.int (2 : Int32)), .val (.int (2 : Int32)), .val (.int (2 : Int32)), .val (.int c2)]) rfl kk) ?_
  refine Go.st (S' := T6.setTop (mkF m 3 #[.val (.ref a0), .val (.int (2 : Int32)), .val (.ref a2), .val (.int (2 : Int32)), .val (.int (2 : Int32)), .val (.int (2 : Int32)), .val (.int c2)] [])) (fun _ kk => XS.goto X6.here hx rfl (pc0 := 41) (pc' := 3) rfl (hb hby d6_41) (by decide) (by decide) kk) ?_
  refine Go.st (S' := T6.setTop (mkF m 5 #[.val (.ref a0), .val (.int (2 : Int32)), .val (.ref a2), .val (.int (2 : Int32)), .val (.int (2 : Int32)), .val (.int (2 : Int32)), .val (.int c2)] [(.int (2 : Int32))])) (fun _ kk => XS.iload X6.here hx rfl (hb hby d6_3) rfl kk) ?_
  refine Go.st (S' := T6.setTop (mkF m 7 #[.val (.ref a0), .val (.int (2 : Int32)), .val (.ref a2), .val (.int (2 : Int32)), .val (.int (2 : Int32)), .val (.int (2 : Int32)), .val (.int c2)] [(.int (2 : Int32)), (.int (2 : Int32))])) (fun _ kk => XS.iload X6.here hx rfl (hb hby d6_5) rfl kk) ?_
  refine Go.st (S' := T6.setTop (mkF m 44 #[.val (.ref a0), .val (.int (2 : Int32)), .val (.ref a2), .val (.int (2 : Int32)), .val (.int (2 : Int32)), .val (.int (2 : Int32)), .val (.int c2)] [])) (fun _ kk => XS.icmpYes X6.here hx rfl (pc0 := 7) (pc' := 44) rfl (hb hby d6_7) rfl (flt (by decide : ¬ ((2 : Int32) < (2 : Int32)))).2.1 (by decide) (by decide) kk) ?_
  refine Go.st (S' := T6.setTop (mkF m 46 #[.val (.ref a0), .val (.int (2 : Int32)), .val (.ref a2), .val (.int (2 : Int32)), .val (.int (2 : Int32)), .val (.int (2 : Int32)), .val (.int c2)] [(.int (2 : Int32))])) (fun _ kk => XS.iload X6.here hx rfl (hb hby d6_44) rfl kk) ?_
  exact Go.retI X6 hx hlk Bd.returns (hb hby d6_46) (by rw [e6]; exact ⟨rfl, N6, Kp8, V_a2⟩) (by decide) (by decide)
def Q_c3_2 (Z : State) (c1 : Int32) (c2 : Int32) (h0 : Heap) (n0 : Nat) (v : Option Value) (h : Heap) (L : List Loc) : Prop := ∃ (b : Addr) (k : ClassId), v = some (.ref b) ∧ Fr n0 L ∧ Keep h0 h [] ∧ Arv Z h b k .byte (2 : Int32) [(.int ((c1.toInt8.toInt32).toInt8.toInt32)), (.int ((c2.toInt8.toInt32).toInt8.toInt32))] (.int 0) ∧ Exa Z h b "[B" ∧ h0.size ≤ b
set_option maxRecDepth 65536 in
set_option maxHeartbeats 4000000 in
theorem rmC3_2 (l : Launch) (Z : State) (az : Array Value) (hw : ∀ d ∈ tables_1, d.before az Z = true) (ws : List Jvm.Cond) (a0 : Addr) (p1 : Int32) (p2 : Int32) (k0 : ClassId) (c1 : Int32) (c2 : Int32) (h0 : Heap) (n0 : Nat) (Z0 : n0 ≤ h0.size) (V_a0 : Arv Z h0 a0 k0 .char (2 : Int32) [(.int c1), (.int c2)] (.int 0)) (h1 : p1 = 0) (h2 : p2 = (2 : Int32)) (u1 : ¬ (255 : Int32) < c1) (u2 : ¬ (255 : Int32) < c2) :
    MetFree l (⟨"java/lang/StringUTF16", "compress", "([CII)[B"⟩ : MethodName) (head1 (Jvm.Cond.code (⟨"java/lang/StringUTF16", "compress", "([CII)[B"⟩ : MethodName) jdk_52_method_16_code 6 (some (.array .byte)) :: ws) ({ frames := 1, cells := 1, slots := 2, locals := 18 } : Room)) (fun a U => a = #[(.ref a0), (.int p1), (.int p2)] ∧ Z.Warmed39 U.vm ∧ U.heap = h0) (fun _ _ _ _ _ => True) (fun _ U o U' => ∃ v L, o = .returned v ∧ (Q_c3_2 Z c1 c2 h0 n0) v U'.heap L ∧ FrameEnd U o U' L ({ frames := 1, cells := 1, slots := 2, locals := 18 } : Room).cells ({ frames := 1, cells := 1, slots := 2, locals := 18 } : Room).slots) := by
  refine MetFree.of_bodySF (plainFor_of_name pn_2) hisR ?_
  intro p e s m args below meth c s₁ Bd hml0 hP hK
  obtain ⟨rfl, hZ, hh⟩ := hP
  have hx := Bd.exec
  have hby := Bd.bytes
  have hlk : meth.locks = false := Bd.notSynchronized
  have hml : c.maxLocals = 6 := hml0
  have hown : s.vm.findClass "java/lang/StringUTF16" = some m.cls := findClass_of_methodNamed Bd.named
  have hnm := (name_of_methodNamed Bd.named Bd.method).1
  have X0 : Stand p l e ({ frames := 1, cells := 1, slots := 2, locals := 18 } : Room) s m #[(.ref a0), (.int p1), (.int p2)] below meth c s₁ [] 0 0 := Stand.of_body Bd
  have e0 : s₁.heap = h0 := by rw [← hh, Bd.state]; rfl
  have N0 := Fr.nil n0
  show Go p e below s ((Q_c3_2 Z c1 c2 h0 n0)) ({ frames := 1, cells := 1, slots := 2, locals := 18 } : Room).cells ({ frames := 1, cells := 1, slots := 2, locals := 18 } : Room).slots (s₁.setTop (entryFrame m #[(.ref a0), (.int p1), (.int p2)] 6))
  rw [ef_5 m a0 p1 p2]
  subst h1 h2
  refine Go.st (S' := s₁.setTop (mkF m 1 #[.val (.ref a0), .val (.int (0 : Int32)), .val (.int (2 : Int32)), .unset, .unset, .unset] [(.int (2 : Int32))])) (fun _ kk => XS.iloadN X0.here hx rfl (hb hby d5_0) rfl kk) ?_
  obtain ⟨T1, h1, k1, X1, e1, E1, A1, E_b1, st1⟩ := newPE X0 hx hZ (hw _ (List.mem_of_getElem? (i := 23) rfl)) e0 (g := (mkF m 1 #[.val (.ref a0), .val (.int (0 : Int32)), .val (.int (2 : Int32)), .unset, .unset, .unset] [(.int (2 : Int32))])) rfl (hb hby d5_1) rfl (by decide) (cap := 2) (by decide) (by decide) (by decide : 0 + 1 ≤ _) (by decide : 0 + 2 ≤ _) (ad := "[B") rfl
  obtain ⟨b1, g1⟩ : ∃ z, z = h0.size := ⟨_, rfl⟩
  rw [← g1] at A1 E_b1 st1
  have ne_a0_b1 : a0 ≠ b1 := Nat.ne_of_lt (Nat.lt_of_lt_of_le V_a0.lt (Nat.le_of_eq g1.symm))
  have g_b1 : n0 ≤ b1 := Nat.le_trans Z0 (Nat.le_of_eq g1.symm)
  have sz_b1 : h0.size ≤ b1 := Nat.le_trans (Keep.refl h0 []).1 (Nat.le_of_eq g1.symm)
  have V_a0 := V_a0.ext E1
  have Zs2 := Nat.le_trans Z0 E1.1
  have Kp3 := (Keep.refl h0 []).ext E1
  have V_b1 : Arv Z h1 b1 k1 .byte (2 : Int32) [(.int (0 : Int32)), (.int (0 : Int32))] (.int (0 : Int32)) := (Arv.new A1 (by decide)).pad (pad_rep [] (.int (0 : Int32)) 2)
  refine Go.st (S' := T1.setTop (mkF m 3 #[.val (.ref a0), .val (.int (0 : Int32)), .val (.int (2 : Int32)), .unset, .unset, .unset] [(.ref b1)])) st1 ?_
  refine Go.st (S' := T1.setTop (mkF m 4 #[.val (.ref a0), .val (.int (0 : Int32)), .val (.int (2 : Int32)), .val (.ref b1), .unset, .unset] [])) (fun _ kk => XS.astoreN X1.here hx rfl (hb hby d5_3) rfl rfl (l' := #[.val (.ref a0), .val (.int (0 : Int32)), .val (.int (2 : Int32)), .val (.ref b1), .unset, .unset]) rfl kk) ?_
  refine Go.st (S' := T1.setTop (mkF m 5 #[.val (.ref a0), .val (.int (0 : Int32)), .val (.int (2 : Int32)), .val (.ref b1), .unset, .unset] [(.ref a0)])) (fun _ kk => XS.aloadN X1.here hx rfl (hb hby d5_4) rfl rfl kk) ?_
  refine Go.st (S' := T1.setTop (mkF m 6 #[.val (.ref a0), .val (.int (0 : Int32)), .val (.int (2 : Int32)), .val (.ref b1), .unset, .unset] [(.int (0 : Int32)), (.ref a0)])) (fun _ kk => XS.iloadN X1.here hx rfl (hb hby d5_5) rfl kk) ?_
  refine Go.st (S' := T1.setTop (mkF m 7 #[.val (.ref a0), .val (.int (0 : Int32)), .val (.int (2 : Int32)), .val (.ref b1), .unset, .unset] [(.ref b1), (.int (0 : Int32)), (.ref a0)])) (fun _ kk => XS.aloadN X1.here hx rfl (hb hby d5_6) rfl rfl kk) ?_
  refine Go.st (S' := T1.setTop (mkF m 8 #[.val (.ref a0), .val (.int (0 : Int32)), .val (.int (2 : Int32)), .val (.ref b1), .unset, .unset] [(.int (0 : Int32)), (.ref b1), (.int (0 : Int32)), (.ref a0)])) (fun _ kk => XS.iconst X1.here hx rfl (hb hby d5_7) kk) ?_
  refine Go.st (S' := T1.setTop (mkF m 9 #[.val (.ref a0), .val (.int (0 : Int32)), .val (.int (2 : Int32)), .val (.ref b1), .unset, .unset] [(.int (2 : Int32)), (.int (0 : Int32)), (.ref b1), (.int (0 : Int32)), (.ref a0)])) (fun _ kk => XS.iloadN X1.here hx rfl (hb hby d5_8) rfl kk) ?_
  obtain ⟨_, _, ⟨T4, L4, k4, n4⟩, -, X4, ⟨Lc4, hQ4, l4, y4, z4⟩, st4⟩ := Jvm.LawKit.callS X1 hx (y := (⟨"java/lang/StringUTF16", "compress", "([CI[BII)I"⟩ : MethodName)) hown (mvT hZ (hw _ (List.mem_of_getElem? (i := 24) rfl))) (mvT hZ (hw _ (List.mem_of_getElem? (i := 25) rfl))) (mvT hZ (hw _ (List.mem_of_getElem? (i := 21) rfl))) (mvT hZ (hw _ (List.mem_of_getElem? (i := 26) rfl))) (by decide) (backOf (W := 0) (rmC5_2 l Z az hw [] a0 (0 : Int32) b1 (0 : Int32) (2 : Int32) k0 k1 c1 c2 h1 n0 Zs2 V_a0 V_b1 ne_a0_b1 g_b1 rfl rfl rfl u1 u2) hZ (hw _ (List.mem_of_getElem? (i := 26) rfl)) (hw _ (List.mem_of_getElem? (i := 21) rfl)) (by decide) (by decide)) (g := (mkF m 9 #[.val (.ref a0), .val (.int (0 : Int32)), .val (.int (2 : Int32)), .val (.ref b1), .unset, .unset] [(.int (2 : Int32)), (.int (0 : Int32)), (.ref b1), (.int (0 : Int32)), (.ref a0)])) rfl (by rw [hml]; rfl) (argsL := [(.ref a0), (.int (0 : Int32)), (.ref b1), (.int (0 : Int32)), (.int (2 : Int32))]) (rest := []) (lenOf pd_5 rfl) rfl (by show 2 * 0 + _ ≤ _; exact Nat.le_of_eq rfl) (hb hby d5_9) (fun _ _ => ⟨rfl, e1, (by decide : 1 + 0 ≤ _), (by decide : 2 + 0 ≤ _)⟩)
  dsimp only [Pt.U, Pt.locs, Pt.cells, Pt.slots] at X4 l4 y4 z4 st4 hQ4
  subst l4 y4 z4
  obtain ⟨rfl, N4q, K4, Va4⟩ := hQ4
  have N4 := Fr.app N0 N4q
  have V_a0 := V_a0.keep K4 (ninS ne_a0_b1 nin0)
  have E_b1 := E_b1.keep K4
  have Zs5 := Nat.le_trans Zs2 K4.1
  have Kp6 := Kp3.trans K4 (allS (Or.inr sz_b1) all0)
  refine Go.st (S' := T4.setTop (mkF m 12 #[.val (.ref a0), .val (.int (0 : Int32)), .val (.int (2 : Int32)), .val (.ref b1), .unset, .unset] [(.int (2 : Int32))])) st4 ?_
  refine Go.st (S' := T4.setTop (mkF m 14 #[.val (.ref a0), .val (.int (0 : Int32)), .val (.int (2 : Int32)), .val (.ref b1), .val (.int (2 : Int32)), .unset] [])) (fun _ kk => XS.istore X4.here hx rfl (hb hby d5_12) rfl (l' := #[.val (.ref a0), .val (.int (0 : Int32)), .val (.int (2 : Int32)), .val (.ref b1), .val (.int (2 : Int32)), .unset]) rfl kk) ?_
  refine Go.st (S' := T4.setTop (mkF m 16 #[.val (.ref a0), .val (.int (0 : Int32)), .val (.int (2 : Int32)), .val (.ref b1), .val (.int (2 : Int32)), .unset] [(.int (2 : Int32))])) (fun _ kk => XS.iload X4.here hx rfl (hb hby d5_14) rfl kk) ?_
  refine Go.st (S' := T4.setTop (mkF m 17 #[.val (.ref a0), .val (.int (0 : Int32)), .val (.int (2 : Int32)), .val (.ref b1), .val (.int (2 : Int32)), .unset] [(.int (2 : Int32)), (.int (2 : Int32))])) (fun _ kk => XS.iloadN X4.here hx rfl (hb hby d5_16) rfl kk) ?_
  refine Go.st (S' := T4.setTop (mkF m 57 #[.val (.ref a0), .val (.int (0 : Int32)), .val (.int (2 : Int32)), .val (.ref b1), .val (.int (2 : Int32)), .unset] [])) (fun _ kk => XS.icmpYes X4.here hx rfl (pc0 := 17) (pc' := 57) rfl (hb hby d5_17) rfl (teq (by decide : (2 : Int32) = (2 : Int32))).1 (by decide) (by decide) kk) ?_
  refine Go.st (S' := T4.setTop (mkF m 58 #[.val (.ref a0), .val (.int (0 : Int32)), .val (.int (2 : Int32)), .val (.ref b1), .val (.int (2 : Int32)), .unset] [(.ref b1)])) (fun _ kk => XS.aloadN X4.here hx rfl (hb hby d5_57) rfl rfl kk) ?_
  exact Go.retA X4 hx hlk Bd.returns rfl rfl (hb hby d5_58) (by exact ⟨_, _, rfl, N4, Kp6, Va4, E_b1, sz_b1⟩) (by decide) (by decide)
set_option maxRecDepth 65536 in
set_option maxHeartbeats 4000000 in
theorem rmCd_2 (l : Launch) (Z : State) (az : Array Value) (hw : ∀ d ∈ tables_1, d.before az Z = true) (ws : List Jvm.Cond) (a0 : Addr) (p1 : Int32) (k0 : ClassId) (vs : List Value) (h0 : Heap) (n0 : Nat) (Z0 : n0 ≤ h0.size) (V_a0 : Arv Z h0 a0 k0 .byte (2 : Int32) vs (.int 0)) (h1 : p1 = (2 : Int32)) :
    MetFree l (⟨"java/lang/StringUTF16", "coderFromArrayLen", "([BI)B"⟩ : MethodName) (head1 (Jvm.Cond.code (⟨"java/lang/StringUTF16", "coderFromArrayLen", "([BI)B"⟩ : MethodName) jdk_52_method_15_code 2 (some .byte) :: ws) ({ frames := 0, cells := 0, slots := 0, locals := 0 } : Room)) (fun a U => a = #[(.ref a0), (.int p1)] ∧ Z.Warmed39 U.vm ∧ U.heap = h0) (fun _ _ _ _ _ => True) (fun _ U o U' => ∃ v L, o = .returned v ∧ (PQ (.int 0) n0 h0) v U'.heap L ∧ FrameEnd U o U' L ({ frames := 0, cells := 0, slots := 0, locals := 0 } : Room).cells ({ frames := 0, cells := 0, slots := 0, locals := 0 } : Room).slots) := by
  refine MetFree.of_bodySF (plainFor_of_name pn_2) hisR ?_
  intro p e s m args below meth c s₁ Bd hml0 hP hK
  obtain ⟨rfl, hZ, hh⟩ := hP
  have hx := Bd.exec
  have hby := Bd.bytes
  have hlk : meth.locks = false := Bd.notSynchronized
  have hml : c.maxLocals = 2 := hml0
  have hown : s.vm.findClass "java/lang/StringUTF16" = some m.cls := findClass_of_methodNamed Bd.named
  have hnm := (name_of_methodNamed Bd.named Bd.method).1
  have X0 : Stand p l e ({ frames := 0, cells := 0, slots := 0, locals := 0 } : Room) s m #[(.ref a0), (.int p1)] below meth c s₁ [] 0 0 := Stand.of_body Bd
  have e0 : s₁.heap = h0 := by rw [← hh, Bd.state]; rfl
  have N0 := Fr.nil n0
  show Go p e below s ((PQ (.int 0) n0 h0)) ({ frames := 0, cells := 0, slots := 0, locals := 0 } : Room).cells ({ frames := 0, cells := 0, slots := 0, locals := 0 } : Room).slots (s₁.setTop (entryFrame m #[(.ref a0), (.int p1)] 2))
  rw [ef_7 m a0 p1]
  subst h1
  refine Go.st (S' := s₁.setTop (mkF m 1 #[.val (.ref a0), .val (.int (2 : Int32))] [(.int (2 : Int32))])) (fun _ kk => XS.iloadN X0.here hx rfl (hb hby d7_0) rfl kk) ?_
  refine Go.st (S' := s₁.setTop (mkF m 2 #[.val (.ref a0), .val (.int (2 : Int32))] [(.ref a0), (.int (2 : Int32))])) (fun _ kk => XS.aloadN X0.here hx rfl (hb hby d7_1) rfl rfl kk) ?_
  obtain ⟨cl1, Ar1, -, S1, Ng1, -, -⟩ := (id V_a0)
  refine Go.st (S' := s₁.setTop (mkF m 3 #[.val (.ref a0), .val (.int (2 : Int32))] [(.int (2 : Int32)), (.int (2 : Int32))])) (fun _ kk => X0.arraylength hx (by rw [e0]; exact Ar1.1) (State.isArrayOf_alike hZ.alike Ar1.2.1) (g := (mkF m 2 #[.val (.ref a0), .val (.int (2 : Int32))] [(.ref a0), (.int (2 : Int32))])) rfl rfl (hb hby d7_2) _ (by rw [len_of S1 Ng1]; exact kk)) ?_
  refine Go.st (S' := s₁.setTop (mkF m 4 #[.val (.ref a0), .val (.int (2 : Int32))] [(.int (0 : Int32))])) (fun _ kk => XS.isub X0.here hx rfl (hb hby d7_3) rfl kk) ?_
  refine Go.st (S' := s₁.setTop (mkF m 6 #[.val (.ref a0), .val (.int (2 : Int32))] [(.int (31 : Int32)), (.int (0 : Int32))])) (fun _ kk => XS.bipush X0.here hx rfl (hb hby d7_4) kk) ?_
  refine Go.st (S' := s₁.setTop (mkF m 7 #[.val (.ref a0), .val (.int (2 : Int32))] [(.int (((0 : Int32).toUInt32 >>> ((31 : Int32) &&& 31).toUInt32).toInt32))])) (fun _ kk => XS.iushr X0.here hx rfl (hb hby d7_6) rfl kk) ?_
  refine Go.st (S' := s₁.setTop (mkF m 8 #[.val (.ref a0), .val (.int (2 : Int32))] [(.int ((((0 : Int32).toUInt32 >>> ((31 : Int32) &&& 31).toUInt32).toInt32).toInt8.toInt32))])) (fun _ kk => XS.i2b X0.here hx rfl (hb hby d7_7) rfl kk) ?_
  exact Go.retN X0 hx hlk (t := .byte) Bd.returns (by simp) (hb hby d7_8) (⟨rfl, N0, e0⟩) (by decide) (by decide)
def Q_in_2 (Z : State) (a0 : Addr) (c1 : Int32) (c2 : Int32) (h0 : Heap) (n0 : Nat) (v : Option Value) (h : Heap) (L : List Loc) : Prop := v = none ∧ Fr n0 L ∧ Keep h0 h [a0] ∧ Exa Z h a0 "java/lang/String" ∧ Fld Z h a0 "java/lang/String" "coder" "B" (.int 0) ∧ ∃ (b : Addr) (k : ClassId), Fld Z h a0 "java/lang/String" "value" "[B" (.ref b) ∧ Arv Z h b k .byte (2 : Int32) [(.int ((c1.toInt8.toInt32).toInt8.toInt32)), (.int ((c2.toInt8.toInt32).toInt8.toInt32))] (.int 0)
set_option maxRecDepth 65536 in
set_option maxHeartbeats 4000000 in
theorem rmI5_2 (l : Launch) (Z : State) (az : Array Value) (hw : ∀ d ∈ tables_1, d.before az Z = true) (ws : List Jvm.Cond) (a0 : Addr) (a1 : Addr) (p2 : Int32) (p3 : Int32) (zc : Int32) (k1 : ClassId) (c1 : Int32) (c2 : Int32) (h0 : Heap) (n0 : Nat) (Z0 : n0 ≤ h0.size) (S_C : Sta Z h0 "java/lang/String" "COMPACT_STRINGS" "Z" (.int zc)) (hzc : ¬ zc = 0) (E_a0 : Exa Z h0 a0 "java/lang/String") (F_coder : Fld Z h0 a0 "java/lang/String" "coder" "B" (.int 0)) (F_value : Fld Z h0 a0 "java/lang/String" "value" "[B" .null) (g_a0 : n0 ≤ a0) (ne : a0 ≠ a1) (V_a1 : Arv Z h0 a1 k1 .char (2 : Int32) [(.int c1), (.int c2)] (.int 0)) (h2 : p2 = 0) (h3 : p3 = (2 : Int32)) (u1 : ¬ (255 : Int32) < c1) (u2 : ¬ (255 : Int32) < c2) :
    MetFree l (⟨"java/lang/String", "<init>", "([CIILjava/lang/Void;)V"⟩ : MethodName) (head1 (Jvm.Cond.code (⟨"java/lang/String", "<init>", "([CIILjava/lang/Void;)V"⟩ : MethodName) jdk_42_method_149_code 6 none :: ws) ({ frames := 2, cells := 1, slots := 2, locals := 35 } : Room)) (fun a U => a = #[(.ref a0), (.ref a1), (.int p2), (.int p3), .null] ∧ Z.Warmed39 U.vm ∧ U.heap = h0) (fun _ _ _ _ _ => True) (fun _ U o U' => ∃ v L, o = .returned v ∧ (Q_in_2 Z a0 c1 c2 h0 n0) v U'.heap L ∧ FrameEnd U o U' L ({ frames := 2, cells := 1, slots := 2, locals := 35 } : Room).cells ({ frames := 2, cells := 1, slots := 2, locals := 35 } : Room).slots) := by
  refine MetFree.of_bodySF (plainFor_of_name pn_1) hisR ?_
  intro p e s m args below meth c s₁ Bd hml0 hP hK
  obtain ⟨rfl, hZ, hh⟩ := hP
  have hx := Bd.exec
  have hby := Bd.bytes
  have hlk : meth.locks = false := Bd.notSynchronized
  have hml : c.maxLocals = 6 := hml0
  have hown : s.vm.findClass "java/lang/String" = some m.cls := findClass_of_methodNamed Bd.named
  have hnm := (name_of_methodNamed Bd.named Bd.method).1
  have X0 : Stand p l e ({ frames := 2, cells := 1, slots := 2, locals := 35 } : Room) s m #[(.ref a0), (.ref a1), (.int p2), (.int p3), .null] below meth c s₁ [] 0 0 := Stand.of_body Bd
  have e0 : s₁.heap = h0 := by rw [← hh, Bd.state]; rfl
  have N0 := Fr.nil n0
  show Go p e below s ((Q_in_2 Z a0 c1 c2 h0 n0)) ({ frames := 2, cells := 1, slots := 2, locals := 35 } : Room).cells ({ frames := 2, cells := 1, slots := 2, locals := 35 } : Room).slots (s₁.setTop (entryFrame m #[(.ref a0), (.ref a1), (.int p2), (.int p3), .null] 6))
  rw [ef_3n4 m a0 a1 p2 p3]
  subst h2 h3
  refine Go.st (S' := s₁.setTop (mkF m 1 #[.val (.ref a0), .val (.ref a1), .val (.int (0 : Int32)), .val (.int (2 : Int32)), .val .null, .unset] [(.ref a0)])) (fun _ kk => XS.aloadN X0.here hx rfl (hb hby d3_0) rfl rfl kk) ?_
  obtain ⟨T1, X1, e1, st1⟩ := initO X0 hx hZ hown (hw _ (List.mem_of_getElem? (i := 15) rfl)) (hw _ (List.mem_of_getElem? (i := 16) rfl)) (hw _ (List.mem_of_getElem? (i := 17) rfl)) e0 (g := (mkF m 1 #[.val (.ref a0), .val (.ref a1), .val (.int (0 : Int32)), .val (.int (2 : Int32)), .val .null, .unset] [(.ref a0)])) rfl (by rw [hml]; rfl) rfl (hb hby d3_1) (by decide) (W := 0) (by show 2 * 0 + _ ≤ _; exact Nat.le_of_eq rfl) (by decide)
  refine Go.st (S' := T1.setTop (mkF m 4 #[.val (.ref a0), .val (.ref a1), .val (.int (0 : Int32)), .val (.int (2 : Int32)), .val .null, .unset] [])) st1 ?_
  refine Go.st (S' := T1.setTop (mkF m 5 #[.val (.ref a0), .val (.ref a1), .val (.int (0 : Int32)), .val (.int (2 : Int32)), .val .null, .unset] [(.int (2 : Int32))])) (fun _ kk => XS.iloadN X1.here hx rfl (hb hby d3_4) rfl kk) ?_
  refine Go.st (S' := T1.setTop (mkF m 27 #[.val (.ref a0), .val (.ref a1), .val (.int (0 : Int32)), .val (.int (2 : Int32)), .val .null, .unset] [])) (fun _ kk => XS.ifYes X1.here hx rfl (pc0 := 5) (pc' := 27) rfl (hb hby d3_5) rfl ((if0 _ _).trans (feq (by decide : ¬ ((2 : Int32) = (0 : Int32)))).2) (by decide) (by decide) kk) ?_
  obtain ⟨T2, X2, e2, st2⟩ := getS2 X1 hx hZ hown (host := "") (Or.inl (hw _ (List.mem_of_getElem? (i := 18) rfl))) Via.refl e1 S_C (g := (mkF m 27 #[.val (.ref a0), .val (.ref a1), .val (.int (0 : Int32)), .val (.int (2 : Int32)), .val .null, .unset] [])) rfl (hb hby d3_27)
  refine Go.st (S' := T2.setTop (mkF m 30 #[.val (.ref a0), .val (.ref a1), .val (.int (0 : Int32)), .val (.int (2 : Int32)), .val .null, .unset] [(.int zc)])) st2 ?_
  refine Go.st (S' := T2.setTop (mkF m 33 #[.val (.ref a0), .val (.ref a1), .val (.int (0 : Int32)), .val (.int (2 : Int32)), .val .null, .unset] [])) (fun _ kk => XS.ifNo X2.here hx rfl (hb hby d3_30) rfl ((if0 _ _).trans (feq hzc).1) kk) ?_
  refine Go.st (S' := T2.setTop (mkF m 34 #[.val (.ref a0), .val (.ref a1), .val (.int (0 : Int32)), .val (.int (2 : Int32)), .val .null, .unset] [(.ref a1)])) (fun _ kk => XS.aloadN X2.here hx rfl (hb hby d3_33) rfl rfl kk) ?_
  refine Go.st (S' := T2.setTop (mkF m 35 #[.val (.ref a0), .val (.ref a1), .val (.int (0 : Int32)), .val (.int (2 : Int32)), .val .null, .unset] [(.int (0 : Int32)), (.ref a1)])) (fun _ kk => XS.iloadN X2.here hx rfl (hb hby d3_34) rfl kk) ?_
  refine Go.st (S' := T2.setTop (mkF m 36 #[.val (.ref a0), .val (.ref a1), .val (.int (0 : Int32)), .val (.int (2 : Int32)), .val .null, .unset] [(.int (2 : Int32)), (.int (0 : Int32)), (.ref a1)])) (fun _ kk => XS.iloadN X2.here hx rfl (hb hby d3_35) rfl kk) ?_
  obtain ⟨_, _, ⟨T3, L3, k3, n3⟩, -, X3, ⟨Lc3, hQ3, l3, y3, z3⟩, st3⟩ := Jvm.LawKit.callS X2 hx (y := (⟨"java/lang/StringUTF16", "compress", "([CII)[B"⟩ : MethodName)) hown (mvT hZ (hw _ (List.mem_of_getElem? (i := 19) rfl))) (mvT hZ (hw _ (List.mem_of_getElem? (i := 20) rfl))) (mvT hZ (hw _ (List.mem_of_getElem? (i := 21) rfl))) (mvT hZ (hw _ (List.mem_of_getElem? (i := 22) rfl))) (by decide) (backOf (W := 0) (rmC3_2 l Z az hw [] a1 (0 : Int32) (2 : Int32) k1 c1 c2 h0 n0 Z0 V_a1 rfl rfl u1 u2) hZ (hw _ (List.mem_of_getElem? (i := 22) rfl)) (hw _ (List.mem_of_getElem? (i := 21) rfl)) (by decide) (by decide)) (g := (mkF m 36 #[.val (.ref a0), .val (.ref a1), .val (.int (0 : Int32)), .val (.int (2 : Int32)), .val .null, .unset] [(.int (2 : Int32)), (.int (0 : Int32)), (.ref a1)])) rfl (by rw [hml]; rfl) (argsL := [(.ref a1), (.int (0 : Int32)), (.int (2 : Int32))]) (rest := []) (lenOf pd_4 rfl) rfl (by show 2 * 0 + _ ≤ _; exact Nat.le_of_eq rfl) (hb hby d3_36) (fun _ _ => ⟨rfl, e2, (by decide : 0 + 1 ≤ _), (by decide : 0 + 2 ≤ _)⟩)
  dsimp only [Pt.U, Pt.locs, Pt.cells, Pt.slots] at X3 l3 y3 z3 st3 hQ3
  subst l3 y3 z3
  obtain ⟨b3, kb3, rfl, N3q, K3, V_b3, E_b3, gb3⟩ := hQ3
  have Ex3 := own_extK K3
  have N3 := Fr.app N0 N3q
  have ne_a0_b3 : a0 ≠ b3 := Nat.ne_of_lt (Nat.lt_of_lt_of_le E_a0.lt gb3)
  have ne_a1_b3 : a1 ≠ b3 := Nat.ne_of_lt (Nat.lt_of_lt_of_le V_a1.lt gb3)
  have g_b3 : n0 ≤ b3 := Nat.le_trans Z0 gb3
  have S_C := S_C.ext Ex3
  have E_a0 := E_a0.ext Ex3
  have F_coder := F_coder.ext Ex3
  have F_value := F_value.ext Ex3
  have V_a1 := V_a1.ext Ex3
  have Zs4 := Nat.le_trans Z0 Ex3.1
  have Kp5 := (Keep.refl h0 [a0]).ext Ex3
  refine Go.st (S' := T3.setTop (mkF m 39 #[.val (.ref a0), .val (.ref a1), .val (.int (0 : Int32)), .val (.int (2 : Int32)), .val .null, .unset] [(.ref b3)])) st3 ?_
  refine Go.st (S' := T3.setTop (mkF m 41 #[.val (.ref a0), .val (.ref a1), .val (.int (0 : Int32)), .val (.int (2 : Int32)), .val .null, .val (.ref b3)] [])) (fun _ kk => XS.astore X3.here hx rfl (hb hby d3_39) rfl rfl (l' := #[.val (.ref a0), .val (.ref a1), .val (.int (0 : Int32)), .val (.int (2 : Int32)), .val .null, .val (.ref b3)]) rfl kk) ?_
  refine Go.st (S' := T3.setTop (mkF m 42 #[.val (.ref a0), .val (.ref a1), .val (.int (0 : Int32)), .val (.int (2 : Int32)), .val .null, .val (.ref b3)] [(.ref a0)])) (fun _ kk => XS.aloadN X3.here hx rfl (hb hby d3_41) rfl rfl kk) ?_
  refine Go.st (S' := T3.setTop (mkF m 44 #[.val (.ref a0), .val (.ref a1), .val (.int (0 : Int32)), .val (.int (2 : Int32)), .val .null, .val (.ref b3)] [(.ref b3), (.ref a0)])) (fun _ kk => XS.aload X3.here hx rfl (hb hby d3_42) rfl rfl kk) ?_
  refine Go.st (S' := T3.setTop (mkF m 45 #[.val (.ref a0), .val (.ref a1), .val (.int (0 : Int32)), .val (.int (2 : Int32)), .val .null, .val (.ref b3)] [(.int (2 : Int32)), (.ref b3), (.ref a0)])) (fun _ kk => XS.iloadN X3.here hx rfl (hb hby d3_44) rfl kk) ?_
  obtain ⟨_, _, ⟨T6, L6, k6, n6⟩, -, X6, ⟨Lc6, hQ6, l6, y6, z6⟩, st6⟩ := Jvm.LawKit.callS X3 hx (y := (⟨"java/lang/StringUTF16", "coderFromArrayLen", "([BI)B"⟩ : MethodName)) hown (mvT hZ (hw _ (List.mem_of_getElem? (i := 27) rfl))) (mvT hZ (hw _ (List.mem_of_getElem? (i := 28) rfl))) (mvT hZ (hw _ (List.mem_of_getElem? (i := 21) rfl))) (mvT hZ (hw _ (List.mem_of_getElem? (i := 29) rfl))) (by decide) (backOf (W := 1) (rmCd_2 l Z az hw [] b3 (2 : Int32) kb3 _ T3.heap n0 Zs4 V_b3 rfl) hZ (hw _ (List.mem_of_getElem? (i := 29) rfl)) (hw _ (List.mem_of_getElem? (i := 21) rfl)) (by decide) (by decide)) (g := (mkF m 45 #[.val (.ref a0), .val (.ref a1), .val (.int (0 : Int32)), .val (.int (2 : Int32)), .val .null, .val (.ref b3)] [(.int (2 : Int32)), (.ref b3), (.ref a0)])) rfl (by rw [hml]; rfl) (argsL := [(.ref b3), (.int (2 : Int32))]) (rest := [(.ref a0)]) (lenOf pd_6 rfl) rfl (by show 2 * 0 + _ ≤ _; exact Nat.le_of_eq rfl) (hb hby d3_45) (fun _ _ => ⟨rfl, rfl, (by decide : 1 + 0 ≤ _), (by decide : 2 + 0 ≤ _)⟩)
  dsimp only [Pt.U, Pt.locs, Pt.cells, Pt.slots] at X6 l6 y6 z6 st6 hQ6
  subst l6 y6 z6
  obtain ⟨rfl, N6q, e6⟩ := hQ6
  have N6 := Fr.app N3 N6q
  refine Go.st (S' := T6.setTop (mkF m 48 #[.val (.ref a0), .val (.ref a1), .val (.int (0 : Int32)), .val (.int (2 : Int32)), .val .null, .val (.ref b3)] [(.int (0 : Int32)), (.ref a0)])) st6 ?_
  obtain ⟨T7, h7, X7, e7, W7, st7⟩ := putFN X6 hx hZ hown (hw _ (List.mem_of_getElem? (i := 30) rfl)) Via.refl e6 F_coder E_a0 (Or.inr ⟨(hw _ (List.mem_of_getElem? (i := 31) rfl)), rfl, hnm⟩) (hw _ (List.mem_of_getElem? (i := 5) rfl)) (ty := .byte) (v' := .int (nar .byte (0 : Int32))) (by decide) rfl (fits_nar_byte _) (g := (mkF m 48 #[.val (.ref a0), .val (.ref a1), .val (.int (0 : Int32)), .val (.int (2 : Int32)), .val .null, .val (.ref b3)] [(.int (0 : Int32)), (.ref a0)])) rfl rfl (hb hby d3_48)
  have N7 := Fr.snoc X7 N6 g_a0
  have F_coder := F_coder.same W7
  have S_C := S_C.wr W7
  have E_a0 := E_a0.wr W7
  have F_value := F_value.other W7 (Or.inr (slot_ne (Or.inr (hw _ (List.mem_of_getElem? (i := 33) rfl))) (Or.inr (hw _ (List.mem_of_getElem? (i := 31) rfl))) (by decide) (t := (.array .byte)) (t' := .byte) (by decide) (by decide)))
  have V_a1 := V_a1.other W7 (Ne.symm ne)
  have E_b3 := E_b3.wr W7
  have V_b3 := V_b3.other W7 (Ne.symm ne_a0_b3)
  have Zs8 := Nat.le_trans Zs4 (Keep.of_wr W7).1
  have Kp9 := Kp5.wr W7 (Or.inl (List.mem_of_getElem? (i := 0) rfl))
  refine Go.st (S' := T7.setTop (mkF m 51 #[.val (.ref a0), .val (.ref a1), .val (.int (0 : Int32)), .val (.int (2 : Int32)), .val .null, .val (.ref b3)] [])) st7 ?_
  refine Go.st (S' := T7.setTop (mkF m 52 #[.val (.ref a0), .val (.ref a1), .val (.int (0 : Int32)), .val (.int (2 : Int32)), .val .null, .val (.ref b3)] [(.ref a0)])) (fun _ kk => XS.aloadN X7.here hx rfl (hb hby d3_51) rfl rfl kk) ?_
  refine Go.st (S' := T7.setTop (mkF m 54 #[.val (.ref a0), .val (.ref a1), .val (.int (0 : Int32)), .val (.int (2 : Int32)), .val .null, .val (.ref b3)] [(.ref b3), (.ref a0)])) (fun _ kk => XS.aload X7.here hx rfl (hb hby d3_52) rfl rfl kk) ?_
  obtain ⟨T10, h10, X10, e10, W10, st10⟩ := putF X7 hx hZ hown (host := "") (Or.inl (hw _ (List.mem_of_getElem? (i := 32) rfl))) Via.refl e7 F_value E_a0 (Or.inr ⟨(hw _ (List.mem_of_getElem? (i := 33) rfl)), rfl, hnm⟩) (hw _ (List.mem_of_getElem? (i := 5) rfl)) (ty := (.array .byte)) (by decide) rfl rfl (g := (mkF m 54 #[.val (.ref a0), .val (.ref a1), .val (.int (0 : Int32)), .val (.int (2 : Int32)), .val .null, .val (.ref b3)] [(.ref b3), (.ref a0)])) rfl rfl (hb hby d3_54)
  have N10 := Fr.snoc X10 N7 g_a0
  have F_value := F_value.same W10
  have S_C := S_C.wr W10
  have E_a0 := E_a0.wr W10
  have F_coder := F_coder.other W10 (Or.inr (slot_ne (Or.inr (hw _ (List.mem_of_getElem? (i := 31) rfl))) (Or.inr (hw _ (List.mem_of_getElem? (i := 33) rfl))) (by decide) (t := .byte) (t' := (.array .byte)) (by decide) (by decide)))
  have V_a1 := V_a1.other W10 (Ne.symm ne)
  have E_b3 := E_b3.wr W10
  have V_b3 := V_b3.other W10 (Ne.symm ne_a0_b3)
  have Zs11 := Nat.le_trans Zs8 (Keep.of_wr W10).1
  have Kp12 := Kp9.wr W10 (Or.inl (List.mem_of_getElem? (i := 0) rfl))
  refine Go.st (S' := T10.setTop (mkF m 57 #[.val (.ref a0), .val (.ref a1), .val (.int (0 : Int32)), .val (.int (2 : Int32)), .val .null, .val (.ref b3)] [])) st10 ?_
  exact Go.ret0 X10 hx hlk Bd.returns (hb hby d3_57) (by rw [e10]; exact ⟨rfl, N10, Kp12, E_a0, F_coder, _, _, F_value, V_b3⟩) (by decide) (by decide)
set_option maxRecDepth 65536 in
set_option maxHeartbeats 4000000 in
theorem rmI1_2 (l : Launch) (Z : State) (az : Array Value) (hw : ∀ d ∈ tables_1, d.before az Z = true) (ws : List Jvm.Cond) (a0 : Addr) (a1 : Addr) (zc : Int32) (k1 : ClassId) (c1 : Int32) (c2 : Int32) (h0 : Heap) (n0 : Nat) (Z0 : n0 ≤ h0.size) (S_C : Sta Z h0 "java/lang/String" "COMPACT_STRINGS" "Z" (.int zc)) (hzc : ¬ zc = 0) (E_a0 : Exa Z h0 a0 "java/lang/String") (F_coder : Fld Z h0 a0 "java/lang/String" "coder" "B" (.int 0)) (F_value : Fld Z h0 a0 "java/lang/String" "value" "[B" .null) (g_a0 : n0 ≤ a0) (ne : a0 ≠ a1) (V_a1 : Arv Z h0 a1 k1 .char (2 : Int32) [(.int c1), (.int c2)] (.int 0)) (u1 : ¬ (255 : Int32) < c1) (u2 : ¬ (255 : Int32) < c2) :
    MetFree l (⟨"java/lang/String", "<init>", "([C)V"⟩ : MethodName) (head1 (Jvm.Cond.code (⟨"java/lang/String", "<init>", "([C)V"⟩ : MethodName) jdk_42_method_3_code 2 none :: ws) ({ frames := 3, cells := 1, slots := 2, locals := 52 } : Room)) (fun a U => a = #[(.ref a0), (.ref a1)] ∧ Z.Warmed39 U.vm ∧ U.heap = h0) (fun _ _ _ _ _ => True) (fun _ U o U' => ∃ v L, o = .returned v ∧ (Q_in_2 Z a0 c1 c2 h0 n0) v U'.heap L ∧ FrameEnd U o U' L ({ frames := 3, cells := 1, slots := 2, locals := 52 } : Room).cells ({ frames := 3, cells := 1, slots := 2, locals := 52 } : Room).slots) := by
  refine MetFree.of_bodySF (plainFor_of_name pn_1) hisR ?_
  intro p e s m args below meth c s₁ Bd hml0 hP hK
  obtain ⟨rfl, hZ, hh⟩ := hP
  have hx := Bd.exec
  have hby := Bd.bytes
  have hlk : meth.locks = false := Bd.notSynchronized
  have hml : c.maxLocals = 2 := hml0
  have hown : s.vm.findClass "java/lang/String" = some m.cls := findClass_of_methodNamed Bd.named
  have hnm := (name_of_methodNamed Bd.named Bd.method).1
  have X0 : Stand p l e ({ frames := 3, cells := 1, slots := 2, locals := 52 } : Room) s m #[(.ref a0), (.ref a1)] below meth c s₁ [] 0 0 := Stand.of_body Bd
  have e0 : s₁.heap = h0 := by rw [← hh, Bd.state]; rfl
  have N0 := Fr.nil n0
  show Go p e below s ((Q_in_2 Z a0 c1 c2 h0 n0)) ({ frames := 3, cells := 1, slots := 2, locals := 52 } : Room).cells ({ frames := 3, cells := 1, slots := 2, locals := 52 } : Room).slots (s₁.setTop (entryFrame m #[(.ref a0), (.ref a1)] 2))
  rw [ef_2 m a0 a1]
  refine Go.st (S' := s₁.setTop (mkF m 1 #[.val (.ref a0), .val (.ref a1)] [(.ref a0)])) (fun _ kk => XS.aloadN X0.here hx rfl (hb hby d2_0) rfl rfl kk) ?_
  refine Go.st (S' := s₁.setTop (mkF m 2 #[.val (.ref a0), .val (.ref a1)] [(.ref a1), (.ref a0)])) (fun _ kk => XS.aloadN X0.here hx rfl (hb hby d2_1) rfl rfl kk) ?_
  refine Go.st (S' := s₁.setTop (mkF m 3 #[.val (.ref a0), .val (.ref a1)] [(.int (0 : Int32)), (.ref a1), (.ref a0)])) (fun _ kk => XS.iconst X0.here hx rfl (hb hby d2_2) kk) ?_
  refine Go.st (S' := s₁.setTop (mkF m 4 #[.val (.ref a0), .val (.ref a1)] [(.ref a1), (.int (0 : Int32)), (.ref a1), (.ref a0)])) (fun _ kk => XS.aloadN X0.here hx rfl (hb hby d2_3) rfl rfl kk) ?_
  obtain ⟨cl1, Ar1, -, S1, Ng1, -, -⟩ := (id V_a1)
  refine Go.st (S' := s₁.setTop (mkF m 5 #[.val (.ref a0), .val (.ref a1)] [(.int (2 : Int32)), (.int (0 : Int32)), (.ref a1), (.ref a0)])) (fun _ kk => X0.arraylength hx (by rw [e0]; exact Ar1.1) (State.isArrayOf_alike hZ.alike Ar1.2.1) (g := (mkF m 4 #[.val (.ref a0), .val (.ref a1)] [(.ref a1), (.int (0 : Int32)), (.ref a1), (.ref a0)])) rfl rfl (hb hby d2_4) _ (by rw [len_of S1 Ng1]; exact kk)) ?_
  refine Go.st (S' := s₁.setTop (mkF m 6 #[.val (.ref a0), .val (.ref a1)] [.null, (.int (2 : Int32)), (.int (0 : Int32)), (.ref a1), (.ref a0)])) (fun _ kk => XS.aconstNull X0.here hx rfl (hb hby d2_5) kk) ?_
  obtain ⟨_, _, ⟨T2, L2, k2, n2⟩, -, X2, ⟨Lc2, hQ2, l2, y2, z2⟩, st2⟩ := X0.specialBack hx (y := (⟨"java/lang/String", "<init>", "([CIILjava/lang/Void;)V"⟩ : MethodName)) rfl hown (mvT hZ (hw _ (List.mem_of_getElem? (i := 11) rfl))) (mvT hZ (hw _ (List.mem_of_getElem? (i := 12) rfl))) (mvT hZ (hw _ (List.mem_of_getElem? (i := 14) rfl))) (by decide) (backOf (W := 0) (rmI5_2 l Z az hw [] a0 a1 (0 : Int32) (2 : Int32) zc k1 c1 c2 h0 n0 Z0 S_C hzc E_a0 F_coder F_value g_a0 ne V_a1 rfl rfl u1 u2) hZ (hw _ (List.mem_of_getElem? (i := 14) rfl)) (hw _ (List.mem_of_getElem? (i := 6) rfl)) (by decide) (by decide)) (g := (mkF m 6 #[.val (.ref a0), .val (.ref a1)] [.null, (.int (2 : Int32)), (.int (0 : Int32)), (.ref a1), (.ref a0)])) rfl (by rw [hml]; rfl) (Steps.refl _) (a := a0) (argsL := [(.ref a1), (.int (0 : Int32)), (.int (2 : Int32)), .null]) (rest := []) (lenOf pd_2 rfl) rfl (by show 2 * 0 + _ ≤ _; exact Nat.le_of_eq rfl) (hb hby d2_6) (fun _ _ => ⟨rfl, e0, (by decide : 0 + 1 ≤ _), (by decide : 0 + 2 ≤ _)⟩)
  dsimp only [Pt.U, Pt.locs, Pt.cells, Pt.slots] at X2 l2 y2 z2 st2 hQ2
  subst l2 y2 z2
  obtain ⟨rfl, N2q, K2, Ec2, Fc2, d2, kd2, Fv2, V_d2⟩ := hQ2
  have N2 := Fr.app N0 N2q
  have S_C := own_stak K2 (allS (P := fun x => ∀ cell : Cell, (h0)[x]? = some cell → cell.vm.isStatics = false) (Exa.nostat E_a0) all0) S_C
  have E_a0 := E_a0.keep K2
  have V_a1 := V_a1.keep K2 (ninS (Ne.symm ne) nin0)
  have Zs3 := Nat.le_trans Z0 K2.1
  have Kp4 := (Keep.refl h0 [a0]).trans K2 (allS (Or.inl (List.mem_of_getElem? (i := 0) rfl)) all0)
  refine Go.tr (S' := T2.setTop (mkF m 9 #[.val (.ref a0), .val (.ref a1)] [])) st2 ?_
  exact Go.ret0 X2 hx hlk Bd.returns (hb hby d2_9) (by exact ⟨rfl, N2, Kp4, Ec2, Fc2, _, _, Fv2, V_d2⟩) (by decide) (by decide)
def Q_c5_3 (Z : State) (a2 : Addr) (k2 : ClassId) (c1 : Int32) (c2 : Int32) (c3 : Int32) (h0 : Heap) (n0 : Nat) (v : Option Value) (h : Heap) (L : List Loc) : Prop := v = some (.int (3 : Int32)) ∧ Fr n0 L ∧ Keep h0 h [a2] ∧ Arv Z h a2 k2 .byte (3 : Int32) [(.int ((c1.toInt8.toInt32).toInt8.toInt32)), (.int ((c2.toInt8.toInt32).toInt8.toInt32)), (.int ((c3.toInt8.toInt32).toInt8.toInt32))] (.int 0)
set_option maxRecDepth 65536 in
set_option maxHeartbeats 4000000 in
theorem rmC5_3 (l : Launch) (Z : State) (az : Array Value) (hw : ∀ d ∈ tables_1, d.before az Z = true) (ws : List Jvm.Cond) (a0 : Addr) (p1 : Int32) (a2 : Addr) (p3 : Int32) (p4 : Int32) (k0 k2 : ClassId) (c1 : Int32) (c2 : Int32) (c3 : Int32) (h0 : Heap) (n0 : Nat) (Z0 : n0 ≤ h0.size) (V_a0 : Arv Z h0 a0 k0 .char (3 : Int32) [(.int c1), (.int c2), (.int c3)] (.int 0)) (V_a2 : Arv Z h0 a2 k2 .byte (3 : Int32) [(.int (0 : Int32)), (.int (0 : Int32)), (.int (0 : Int32))] (.int 0)) (ne : a0 ≠ a2) (g_a2 : n0 ≤ a2) (h1 : p1 = 0) (h3 : p3 = 0) (h4 : p4 = (3 : Int32)) (u1 : ¬ (255 : Int32) < c1) (u2 : ¬ (255 : Int32) < c2) (u3 : ¬ (255 : Int32) < c3) :
    MetFree l (⟨"java/lang/StringUTF16", "compress", "([CI[BII)I"⟩ : MethodName) (head1 (Jvm.Cond.code (⟨"java/lang/StringUTF16", "compress", "([CI[BII)I"⟩ : MethodName) jdk_52_method_21_code 7 (some .int) :: ws) ({ frames := 0, cells := 0, slots := 0, locals := 0 } : Room)) (fun a U => a = #[(.ref a0), (.int p1), (.ref a2), (.int p3), (.int p4)] ∧ Z.Warmed39 U.vm ∧ U.heap = h0) (fun _ _ _ _ _ => True) (fun _ U o U' => ∃ v L, o = .returned v ∧ (Q_c5_3 Z a2 k2 c1 c2 c3 h0 n0) v U'.heap L ∧ FrameEnd U o U' L ({ frames := 0, cells := 0, slots := 0, locals := 0 } : Room).cells ({ frames := 0, cells := 0, slots := 0, locals := 0 } : Room).slots) := by
  refine MetFree.of_bodySF (plainFor_of_name pn_2) hisR ?_
  intro p e s m args below meth c s₁ Bd hml0 hP hK
  obtain ⟨rfl, hZ, hh⟩ := hP
  have hx := Bd.exec
  have hby := Bd.bytes
  have hlk : meth.locks = false := Bd.notSynchronized
  have hml : c.maxLocals = 7 := hml0
  have hown : s.vm.findClass "java/lang/StringUTF16" = some m.cls := findClass_of_methodNamed Bd.named
  have hnm := (name_of_methodNamed Bd.named Bd.method).1
  have X0 : Stand p l e ({ frames := 0, cells := 0, slots := 0, locals := 0 } : Room) s m #[(.ref a0), (.int p1), (.ref a2), (.int p3), (.int p4)] below meth c s₁ [] 0 0 := Stand.of_body Bd
  have e0 : s₁.heap = h0 := by rw [← hh, Bd.state]; rfl
  have N0 := Fr.nil n0
  show Go p e below s ((Q_c5_3 Z a2 k2 c1 c2 c3 h0 n0)) ({ frames := 0, cells := 0, slots := 0, locals := 0 } : Room).cells ({ frames := 0, cells := 0, slots := 0, locals := 0 } : Room).slots (s₁.setTop (entryFrame m #[(.ref a0), (.int p1), (.ref a2), (.int p3), (.int p4)] 7))
  rw [ef_6 m a0 p1 a2 p3 p4]
  subst h1 h3 h4
  refine Go.st (S' := s₁.setTop (mkF m 1 #[.val (.ref a0), .val (.int (0 : Int32)), .val (.ref a2), .val (.int (0 : Int32)), .val (.int (3 : Int32)), .unset, .unset] [(.int (0 : Int32))])) (fun _ kk => XS.iconst X0.here hx rfl (hb hby d6_0) kk) ?_
  refine Go.st (S' := s₁.setTop (mkF m 3 #[.val (.ref a0), .val (.int (0 : Int32)), .val (.ref a2), .val (.int (0 : Int32)), .val (.int (3 : Int32)), .val (.int (0 : Int32)), .unset] [])) (fun _ kk => XS.istore X0.here hx rfl (hb hby d6_1) rfl (l' := #[.val (.ref a0), .val (.int (0 : Int32)), .val (.ref a2), .val (.int (0 : Int32)), .val (.int (3 : Int32)), .val (.int (0 : Int32)), .unset]) rfl kk) ?_
  refine Go.st (S' := s₁.setTop (mkF m 5 #[.val (.ref a0), .val (.int (0 : Int32)), .val (.ref a2), .val (.int (0 : Int32)), .val (.int (3 : Int32)), .val (.int (0 : Int32)), .unset] [(.int (0 : Int32))])) (fun _ kk => XS.iload X0.here hx rfl (hb hby d6_3) rfl kk) ?_
  refine Go.st (S' := s₁.setTop (mkF m 7 #[.val (.ref a0), .val (.int (0 : Int32)), .val (.ref a2), .val (.int (0 : Int32)), .val (.int (3 : Int32)), .val (.int (0 : Int32)), .unset] [(.int (3 : Int32)), (.int (0 : Int32))])) (fun _ kk => XS.iload X0.here hx rfl (hb hby d6_5) rfl kk) ?_
  refine Go.st (S' := s₁.setTop (mkF m 10 #[.val (.ref a0), .val (.int (0 : Int32)), .val (.ref a2), .val (.int (0 : Int32)), .val (.int (3 : Int32)), .val (.int (0 : Int32)), .unset] [])) (fun _ kk => XS.icmpNo X0.here hx rfl (hb hby d6_7) rfl (tlt (by decide : (0 : Int32) < (3 : Int32))).2.1 kk) ?_
  refine Go.st (S' := s₁.setTop (mkF m 11 #[.val (.ref a0), .val (.int (0 : Int32)), .val (.ref a2), .val (.int (0 : Int32)), .val (.int (3 : Int32)), .val (.int (0 : Int32)), .unset] [(.ref a0)])) (fun _ kk => XS.aloadN X0.here hx rfl (hb hby d6_10) rfl rfl kk) ?_
  refine Go.st (S' := s₁.setTop (mkF m 12 #[.val (.ref a0), .val (.int (0 : Int32)), .val (.ref a2), .val (.int (0 : Int32)), .val (.int (3 : Int32)), .val (.int (0 : Int32)), .unset] [(.int (0 : Int32)), (.ref a0)])) (fun _ kk => XS.iloadN X0.here hx rfl (hb hby d6_11) rfl kk) ?_
  obtain ⟨cl1, Ar1, qk1, S1, Ng1, H1, G1⟩ := (id V_a0)
  have hin1 : ¬ ((0 : Int32) < 0 ∨ cl1.slots.size ≤ ((0 : Int32)).toNatClampNeg) := inb_of S1 ⟨by decide, by decide⟩
  have hat1 : cl1.slots[((0 : Int32)).toNatClampNeg]? = some (.int c1) := Has.at H1 hin1 rfl
  refine Go.st (S' := s₁.setTop (mkF m 13 #[.val (.ref a0), .val (.int (0 : Int32)), .val (.ref a2), .val (.int (0 : Int32)), .val (.int (3 : Int32)), .val (.int (0 : Int32)), .unset] [(.int c1)])) (fun _ kk => X0.caload hx (j := (0 : Int32)) (v := (.int c1)) (by rw [e0]; exact Ar1.1) (State.isArrayOf_alike hZ.alike Ar1.2.1) Ar1.2.2 hin1 hat1 (g := (mkF m 12 #[.val (.ref a0), .val (.int (0 : Int32)), .val (.ref a2), .val (.int (0 : Int32)), .val (.int (3 : Int32)), .val (.int (0 : Int32)), .unset] [(.int (0 : Int32)), (.ref a0)])) rfl rfl (hb hby d6_12) _ kk) ?_
  refine Go.st (S' := s₁.setTop (mkF m 15 #[.val (.ref a0), .val (.int (0 : Int32)), .val (.ref a2), .val (.int (0 : Int32)), .val (.int (3 : Int32)), .val (.int (0 : Int32)), .val (.int c1)] [])) (fun _ kk => XS.istore X0.here hx rfl (hb hby d6_13) rfl (l' := #[.val (.ref a0), .val (.int (0 : Int32)), .val (.ref a2), .val (.int (0 : Int32)), .val (.int (3 : Int32)), .val (.int (0 : Int32)), .val (.int c1)]) rfl kk) ?_
  refine Go.st (S' := s₁.setTop (mkF m 17 #[.val (.ref a0), .val (.int (0 : Int32)), .val (.ref a2), .val (.int (0 : Int32)), .val (.int (3 : Int32)), .val (.int (0 : Int32)), .val (.int c1)] [(.int c1)])) (fun _ kk => XS.iload X0.here hx rfl (hb hby d6_15) rfl kk) ?_
  refine Go.st (S' := s₁.setTop (mkF m 20 #[.val (.ref a0), .val (.int (0 : Int32)), .val (.ref a2), .val (.int (0 : Int32)), .val (.int (3 : Int32)), .val (.int (0 : Int32)), .val (.int c1)] [(.int (255 : Int32)), (.int c1)])) (fun _ kk => XS.sipush X0.here hx rfl (hb hby d6_17) kk) ?_
  refine Go.st (S' := s₁.setTop (mkF m 26 #[.val (.ref a0), .val (.int (0 : Int32)), .val (.ref a2), .val (.int (0 : Int32)), .val (.int (3 : Int32)), .val (.int (0 : Int32)), .val (.int c1)] [])) (fun _ kk => XS.icmpYes X0.here hx rfl (pc0 := 20) (pc' := 26) rfl (hb hby d6_20) rfl (flt u1).2.2.2 (by decide) (by decide) kk) ?_
  refine Go.st (S' := s₁.setTop (mkF m 27 #[.val (.ref a0), .val (.int (0 : Int32)), .val (.ref a2), .val (.int (0 : Int32)), .val (.int (3 : Int32)), .val (.int (0 : Int32)), .val (.int c1)] [(.ref a2)])) (fun _ kk => XS.aloadN X0.here hx rfl (hb hby d6_26) rfl rfl kk) ?_
  refine Go.st (S' := s₁.setTop (mkF m 28 #[.val (.ref a0), .val (.int (0 : Int32)), .val (.ref a2), .val (.int (0 : Int32)), .val (.int (3 : Int32)), .val (.int (0 : Int32)), .val (.int c1)] [(.int (0 : Int32)), (.ref a2)])) (fun _ kk => XS.iloadN X0.here hx rfl (hb hby d6_27) rfl kk) ?_
  refine Go.st (S' := s₁.setTop (mkF m 30 #[.val (.ref a0), .val (.int (0 : Int32)), .val (.ref a2), .val (.int (0 : Int32)), .val (.int (3 : Int32)), .val (.int (0 : Int32)), .val (.int c1)] [(.int c1), (.int (0 : Int32)), (.ref a2)])) (fun _ kk => XS.iload X0.here hx rfl (hb hby d6_28) rfl kk) ?_
  refine Go.st (S' := s₁.setTop (mkF m 31 #[.val (.ref a0), .val (.int (0 : Int32)), .val (.ref a2), .val (.int (0 : Int32)), .val (.int (3 : Int32)), .val (.int (0 : Int32)), .val (.int c1)] [(.int (c1.toInt8.toInt32)), (.int (0 : Int32)), (.ref a2)])) (fun _ kk => XS.i2b X0.here hx rfl (hb hby d6_30) rfl kk) ?_
  obtain ⟨cl2, Ar2, qk2, S2, Ng2, H2, G2⟩ := (id V_a2)
  have hin2 : ¬ ((0 : Int32) < 0 ∨ cl2.slots.size ≤ ((0 : Int32)).toNatClampNeg) := inb_of S2 ⟨by decide, by decide⟩
  obtain ⟨T2, h2, X2, e2, W2, st2⟩ := stB X0 hx hZ e0 Ar2 (j := (0 : Int32)) hin2 (g := (mkF m 31 #[.val (.ref a0), .val (.int (0 : Int32)), .val (.ref a2), .val (.int (0 : Int32)), .val (.int (3 : Int32)), .val (.int (0 : Int32)), .val (.int c1)] [(.int (c1.toInt8.toInt32)), (.int (0 : Int32)), (.ref a2)])) rfl rfl (hb hby d6_31)
  have V_a2 : Arv Z h2 a2 k2 .byte (3 : Int32) [(.int ((c1.toInt8.toInt32).toInt8.toInt32)), (.int (0 : Int32)), (.int (0 : Int32))] (.int (0 : Int32)) := Arv.set Ar2 qk2 S2 Ng2 H2 G2 (fits_nar_byte _) W2 0 rfl (Nat.le_of_ble_eq_true rfl)
  have N2 := Fr.snoc X2 N0 g_a2
  have V_a0 := V_a0.other W2 ne
  have Zs3 := Nat.le_trans Z0 (Keep.of_wr W2).1
  have Kp4 := (Keep.refl h0 [a2]).wr W2 (Or.inl (List.mem_of_getElem? (i := 0) rfl))
  refine Go.st (S' := T2.setTop (mkF m 32 #[.val (.ref a0), .val (.int (0 : Int32)), .val (.ref a2), .val (.int (0 : Int32)), .val (.int (3 : Int32)), .val (.int (0 : Int32)), .val (.int c1)] [])) st2 ?_
  refine Go.st (S' := T2.setTop (mkF m 35 #[.val (.ref a0), .val (.int (1 : Int32)), .val (.ref a2), .val (.int (0 : Int32)), .val (.int (3 : Int32)), .val (.int (0 : Int32)), .val (.int c1)] [])) (fun _ kk => XS.iinc X2.here hx rfl (hb hby d6_32) rfl (l' := #[.val (.ref a0), .val (.int (1 : Int32)), .val (.ref a2), .val (.int (0 : Int32)), .val (.int (3 : Int32)), .val (.int (0 : Int32)), .val (.int c1)]) rfl kk) ?_
  refine Go.st (S' := T2.setTop (mkF m 38 #[.val (.ref a0), .val (.int (1 : Int32)), .val (.ref a2), .val (.int (1 : Int32)), .val (.int (3 : Int32)), .val (.int (0 : Int32)), .val (.int c1)] [])) (fun _ kk => XS.iinc X2.here hx rfl (hb hby d6_35) rfl (l' := #[.val (.ref a0), .val (.int (1 : Int32)), .val (.ref a2), .val (.int (1 : Int32)), .val (.int (3 : Int32)), .val (.int (0 : Int32)), .val (.int c1)]) rfl kk) ?_
  refine Go.st (S' := T2.setTop (mkF m 41 #[.val (.ref a0), .val (.int (1 : Int32)), .val (.ref a2), .val (.int (1 : Int32)), .val (.int (3 : Int32)), .val (.int (1 : Int32)), .val (.int c1)] [])) (fun _ kk => XS.iinc X2.here hx rfl (hb hby d6_38) rfl (l' := #[.val (.ref a0), .val (.int (1 : Int32)), .val (.ref a2), .val (.int (1 : Int32)), .val (.int (3 : Int32)), .val (.int (1 : Int32)), .val (.int c1)]) rfl kk) ?_
  refine Go.st (S' := T2.setTop (mkF m 3 #[.val (.ref a0), .val (.int (1 : Int32)), .val (.ref a2), .val (.int (1 : Int32)), .val (.int (3 : Int32)), .val (.int (1 : Int32)), .val (.int c1)] [])) (fun _ kk => XS.goto X2.here hx rfl (pc0 := 41) (pc' := 3) rfl (hb hby d6_41) (by decide) (by decide) kk) ?_
  refine Go.st (S' := T2.setTop (mkF m 5 #[.val (.ref a0), .val (.int (1 : Int32)), .val (.ref a2), .val (.int (1 : Int32)), .val (.int (3 : Int32)), .val (.int (1 : Int32)), .val (.int c1)] [(.int (1 : Int32))])) (fun _ kk => XS.iload X2.here hx rfl (hb hby d6_3) rfl kk) ?_
  refine Go.st (S' := T2.setTop (mkF m 7 #[.val (.ref a0), .val (.int (1 : Int32)), .val (.ref a2), .val (.int (1 : Int32)), .val (.int (3 : Int32)), .val (.int (1 : Int32)), .val (.int c1)] [(.int (3 : Int32)), (.int (1 : Int32))])) (fun _ kk => XS.iload X2.here hx rfl (hb hby d6_5) rfl kk) ?_
  refine Go.st (S' := T2.setTop (mkF m 10 #[.val (.ref a0), .val (.int (1 : Int32)), .val (.ref a2), .val (.int (1 : Int32)), .val (.int (3 : Int32)), .val (.int (1 : Int32)), .val (.int c1)] [])) (fun _ kk => XS.icmpNo X2.here hx rfl (hb hby d6_7) rfl (tlt (by decide : (1 : Int32) < (3 : Int32))).2.1 kk) ?_
  refine Go.st (S' := T2.setTop (mkF m 11 #[.val (.ref a0), .val (.int (1 : Int32)), .val (.ref a2), .val (.int (1 : Int32)), .val (.int (3 : Int32)), .val (.int (1 : Int32)), .val (.int c1)] [(.ref a0)])) (fun _ kk => XS.aloadN X2.here hx rfl (hb hby d6_10) rfl rfl kk) ?_
  refine Go.st (S' := T2.setTop (mkF m 12 #[.val (.ref a0), .val (.int (1 : Int32)), .val (.ref a2), .val (.int (1 : Int32)), .val (.int (3 : Int32)), .val (.int (1 : Int32)), .val (.int c1)] [(.int (1 : Int32)), (.ref a0)])) (fun _ kk => XS.iloadN X2.here hx rfl (hb hby d6_11) rfl kk) ?_
  obtain ⟨cl5, Ar5, qk5, S5, Ng5, H5, G5⟩ := (id V_a0)
  have hin5 : ¬ ((1 : Int32) < 0 ∨ cl5.slots.size ≤ ((1 : Int32)).toNatClampNeg) := inb_of S5 ⟨by decide, by decide⟩
  have hat5 : cl5.slots[((1 : Int32)).toNatClampNeg]? = some (.int c2) := Has.at H5 hin5 rfl
  refine Go.st (S' := T2.setTop (mkF m 13 #[.val (.ref a0), .val (.int (1 : Int32)), .val (.ref a2), .val (.int (1 : Int32)), .val (.int (3 : Int32)), .val (.int (1 : Int32)), .val (.int c1)] [(.int c2)])) (fun _ kk => X2.caload hx (j := (1 : Int32)) (v := (.int c2)) (by rw [e2]; exact Ar5.1) (State.isArrayOf_alike hZ.alike Ar5.2.1) Ar5.2.2 hin5 hat5 (g := (mkF m 12 #[.val (.ref a0), .val (.int (1 : Int32)), .val (.ref a2), .val (.int (1 : Int32)), .val (.int (3 : Int32)), .val (.int (1 : Int32)), .val (.int c1)] [(.int (1 : Int32)), (.ref a0)])) rfl rfl (hb hby d6_12) _ kk) ?_
  refine Go.st (S' := T2.setTop (mkF m 15 #[.val (.ref a0), .val (.int (1 : Int32)), .val (.ref a2), .val (.int (1 : Int32)), .val (.int (3 : Int32)), .val (.int (1 : Int32)), .val (.int c2)] [])) (fun _ kk => XS.istore X2.here hx rfl (hb hby d6_13) rfl (l' := #[.val (.ref a0), .val (.int (1 : Int32)), .val (.ref a2), .val (.int (1 : Int32)), .val (.int (3 : Int32)), .val (.int (1 : Int32)), .val (.int c2)]) rfl kk) ?_
  refine Go.st (S' := T2.setTop (mkF m 17 #[.val (.ref a0), .val (.int (1 : Int32)), .val (.ref a2), .val (.int (1 : Int32)), .val (.int (3 : Int32)), .val (.int (1 : Int32)), .val (.int c2)] [(.int c2)])) (fun _ kk => XS.iload X2.here hx rfl (hb hby d6_15) rfl kk) ?_
  refine Go.st (S' := T2.setTop (mkF m 20 #[.val (.ref a0), .val (.int (1 : Int32)), .val (.ref a2), .val (.int (1 : Int32)), .val (.int (3 : Int32)), .val (.int (1 : Int32)), .val (.int c2)] [(.int (255 : Int32)), (.int c2)])) (fun _ kk => XS.sipush X2.here hx rfl (hb hby d6_17) kk) ?_
  refine Go.st (S' := T2.setTop (mkF m 26 #[.val (.ref a0), .val (.int (1 : Int32)), .val (.ref a2), .val (.int (1 : Int32)), .val (.int (3 : Int32)), .val (.int (1 : Int32)), .val (.int c2)] [])) (fun _ kk => XS.icmpYes X2.here hx rfl (pc0 := 20) (pc' := 26) rfl (hb hby d6_20) rfl (flt u2).2.2.2 (by decide) (by decide) kk) ?_
  refine Go.st (S' := T2.setTop (mkF m 27 #[.val (.ref a0), .val (.int (1 : Int32)), .val (.ref a2), .val (.int (1 : Int32)), .val (.int (3 : Int32)), .val (.int (1 : Int32)), .val (.int c2)] [(.ref a2)])) (fun _ kk => XS.aloadN X2.here hx rfl (hb hby d6_26) rfl rfl kk) ?_
  refine Go.st (S' := T2.setTop (mkF m 28 #[.val (.ref a0), .val (.int (1 : Int32)), .val (.ref a2), .val (.int (1 : Int32)), .val (.int (3 : Int32)), .val (.int (1 : Int32)), .val (.int c2)] [(.int (1 : Int32)), (.ref a2)])) (fun _ kk => XS.iloadN X2.here hx rfl (hb hby d6_27) rfl kk) ?_
  refine Go.st (S' := T2.setTop (mkF m 30 #[.val (.ref a0), .val (.int (1 : Int32)), .val (.ref a2), .val (.int (1 : Int32)), .val (.int (3 : Int32)), .val (.int (1 : Int32)), .val (.int c2)] [(.int c2), (.int (1 : Int32)), (.ref a2)])) (fun _ kk => XS.iload X2.here hx rfl (hb hby d6_28) rfl kk) ?_
  refine Go.st (S' := T2.setTop (mkF m 31 #[.val (.ref a0), .val (.int (1 : Int32)), .val (.ref a2), .val (.int (1 : Int32)), .val (.int (3 : Int32)), .val (.int (1 : Int32)), .val (.int c2)] [(.int (c2.toInt8.toInt32)), (.int (1 : Int32)), (.ref a2)])) (fun _ kk => XS.i2b X2.here hx rfl (hb hby d6_30) rfl kk) ?_
  obtain ⟨cl6, Ar6, qk6, S6, Ng6, H6, G6⟩ := (id V_a2)
  have hin6 : ¬ ((1 : Int32) < 0 ∨ cl6.slots.size ≤ ((1 : Int32)).toNatClampNeg) := inb_of S6 ⟨by decide, by decide⟩
  obtain ⟨T6, h6, X6, e6, W6, st6⟩ := stB X2 hx hZ e2 Ar6 (j := (1 : Int32)) hin6 (g := (mkF m 31 #[.val (.ref a0), .val (.int (1 : Int32)), .val (.ref a2), .val (.int (1 : Int32)), .val (.int (3 : Int32)), .val (.int (1 : Int32)), .val (.int c2)] [(.int (c2.toInt8.toInt32)), (.int (1 : Int32)), (.ref a2)])) rfl rfl (hb hby d6_31)
  have V_a2 : Arv Z h6 a2 k2 .byte (3 : Int32) [(.int ((c1.toInt8.toInt32).toInt8.toInt32)), (.int ((c2.toInt8.toInt32).toInt8.toInt32)), (.int (0 : Int32))] (.int (0 : Int32)) := Arv.set Ar6 qk6 S6 Ng6 H6 G6 (fits_nar_byte _) W6 1 rfl (Nat.le_of_ble_eq_true rfl)
  have N6 := Fr.snoc X6 N2 g_a2
  have V_a0 := V_a0.other W6 ne
  have Zs7 := Nat.le_trans Zs3 (Keep.of_wr W6).1
  have Kp8 := Kp4.wr W6 (Or.inl (List.mem_of_getElem? (i := 0) rfl))
  refine Go.st (S' := T6.setTop (mkF m 32 #[.val (.ref a0), .val (.int (1 : Int32)), .val (.ref a2), .val (.int (1 : Int32)), .val (.int (3 : Int32)), .val (.int (1 : Int32)), .val (.int c2)] [])) st6 ?_
  refine Go.st (S' := T6.setTop (mkF m 35 #[.val (.ref a0), .val (.int (2 : Int32)), .val (.ref a2), .val (.int (1 : Int32)), .val (.int (3 : Int32)), .val (.int (1 : Int32)), .val (.int c2)] [])) (fun _ kk => XS.iinc X6.here hx rfl (hb hby d6_32) rfl (l' := #[.val (.ref a0), .val (.int (2 : Int32)), .val (.ref a2), .val (.int (1 : Int32)), .val (.int (3 : Int32)), .val (.int (1 : Int32)), .val (.int c2)]) rfl kk) ?_
  refine Go.st (S' := T6.setTop (mkF m 38 #[.val (.ref a0), .val (.int (2 : Int32)), .val (.ref a2), .val (.int (2 : Int32)), .val (.int (3 : Int32)), .val (.int (1 : Int32)), .val (.int c2)] [])) (fun _ kk => XS.iinc X6.here hx rfl (hb hby d6_35) rfl (l' := #[.val (.ref a0), .val (.int (2 : Int32)), .val (.ref a2), .val (.int (2 : Int32)), .val (.int (3 : Int32)), .val (.int (1 : Int32)), .val (.int c2)]) rfl kk) ?_
  refine Go.st (S' := T6.setTop (mkF m 41 #[.val (.ref a0), .val (.int (2 : Int32)), .val (.ref a2), .val (.int (2 : Int32)), .val (.int (3 : Int32)), .val (.int (2 : Int32)), .val (.int c2)] [])) (fun _ kk => XS.iinc X6.here hx rfl (hb hby d6_38) rfl (l' := #[.val (.ref a0), .val (.int (2 : Int32)), .val (.ref a2), .val (.int (2 : Int32)), .val (.int (3 : Int32)), .val (.int (2 : Int32)), .val (.int c2)]) rfl kk) ?_
  refine Go.st (S' := T6.setTop (mkF m 3 #[.val (.ref a0), .val (.int (2 : Int32)), .val (.ref a2), .val (.int (2 : Int32)), .val (.int (3 : Int32)), .val (.int (2 : Int32)), .val (.int c2)] [])) (fun _ kk => XS.goto X6.here hx rfl (pc0 := 41) (pc' := 3) rfl (hb hby d6_41) (by decide) (by decide) kk) ?_
  refine Go.st (S' := T6.setTop (mkF m 5 #[.val (.ref a0), .val (.int (2 : Int32)), .val (.ref a2), .val (.int (2 : Int32)), .val (.int (3 : Int32)), .val (.int (2 : Int32)), .val (.int c2)] [(.int (2 : Int32))])) (fun _ kk => XS.iload X6.here hx rfl (hb hby d6_3) rfl kk) ?_
  refine Go.st (S' := T6.setTop (mkF m 7 #[.val (.ref a0), .val (.int (2 : Int32)), .val (.ref a2), .val (.int (2 : Int32)), .val (.int (3 : Int32)), .val (.int (2 : Int32)), .val (.int c2)] [(.int (3 : Int32)), (.int (2 : Int32))])) (fun _ kk => XS.iload X6.here hx rfl (hb hby d6_5) rfl kk) ?_
  refine Go.st (S' := T6.setTop (mkF m 10 #[.val (.ref a0), .val (.int (2 : Int32)), .val (.ref a2), .val (.int (2 : Int32)), .val (.int (3 : Int32)), .val (.int (2 : Int32)), .val (.int c2)] [])) (fun _ kk => XS.icmpNo X6.here hx rfl (hb hby d6_7) rfl (tlt (by decide : (2 : Int32) < (3 : Int32))).2.1 kk) ?_
  refine Go.st (S' := T6.setTop (mkF m 11 #[.val (.ref a0), .val (.int (2 : Int32)), .val (.ref a2), .val (.int (2 : Int32)), .val (.int (3 : Int32)), .val (.int (2 : Int32)), .val (.int c2)] [(.ref a0)])) (fun _ kk => XS.aloadN X6.here hx rfl (hb hby d6_10) rfl rfl kk) ?_
  refine Go.st (S' := T6.setTop (mkF m 12 #[.val (.ref a0), .val (.int (2 : Int32)), .val (.ref a2), .val (.int (2 : Int32)), .val (.int (3 : Int32)), .val (.int (2 : Int32)), .val (.int c2)] [(.int (2 : Int32)), (.ref a0)])) (fun _ kk => XS.iloadN X6.here hx rfl (hb hby d6_11) rfl kk) ?_
  obtain ⟨cl9, Ar9, qk9, S9, Ng9, H9, G9⟩ := (id V_a0)
  have hin9 : ¬ ((2 : Int32) < 0 ∨ cl9.slots.size ≤ ((2 : Int32)).toNatClampNeg) := inb_of S9 ⟨by decide, by decide⟩
  have hat9 : cl9.slots[((2 : Int32)).toNatClampNeg]? = some (.int c3) := Has.at H9 hin9 rfl
  refine Go.st (S' := T6.setTop (mkF m 13 #[.val (.ref a0), .val (.int (2 : Int32)), .val (.ref a2), .val (.int (2 : Int32)), .val (.int (3 : Int32)), .val (.int (2 : Int32)), .val (.int c2)] [(.int c3)])) (fun _ kk => X6.caload hx (j := (2 : Int32)) (v := (.int c3)) (by rw [e6]; exact Ar9.1) (State.isArrayOf_alike hZ.alike Ar9.2.1) Ar9.2.2 hin9 hat9 (g := (mkF m 12 #[.val (.ref a0), .val (.int (2 : Int32)), .val (.ref a2), .val (.int (2 : Int32)), .val (.int (3 : Int32)), .val (.int (2 : Int32)), .val (.int c2)] [(.int (2 : Int32)), (.ref a0)])) rfl rfl (hb hby d6_12) _ kk) ?_
  refine Go.st (S' := T6.setTop (mkF m 15 #[.val (.ref a0), .val (.int (2 : Int32)), .val (.ref a2), .val (.int (2 : Int32)), .val (.int (3 : Int32)), .val (.int (2 : Int32)), .val (.int c3)] [])) (fun _ kk => XS.istore X6.here hx rfl (hb hby d6_13) rfl (l' := #[.val (.ref a0), .val (.int (2 : Int32)), .val (.ref a2), .val (.int (2 : Int32)), .val (.int (3 : Int32)), .val (.int (2 : Int32)), .val (.int c3)]) rfl kk) ?_
  refine Go.st (S' := T6.setTop (mkF m 17 #[.val (.ref a0), .val (.int (2 : Int32)), .val (.ref a2), .val (.int (2 : Int32)), .val (.int (3 : Int32)), .val (.int (2 : Int32)), .val (.int c3)] [(.int c3)])) (fun _ kk => XS.iload X6.here hx rfl (hb hby d6_15) rfl kk) ?_
  refine Go.st (S' := T6.setTop (mkF m 20 #[.val (.ref a0), .val (.int (2 : Int32)), .val (.ref a2), .val (.int (2 : Int32)), .val (.int (3 : Int32)), .val (.int (2 : Int32)), .val (.int c3)] [(.int (255 : Int32)), (.int c3)])) (fun _ kk => XS.sipush X6.here hx rfl (hb hby d6_17) kk) ?_
  refine Go.st (S' := T6.setTop (mkF m 26 #[.val (.ref a0), .val (.int (2 : Int32)), .val (.ref a2), .val (.int (2 : Int32)), .val (.int (3 : Int32)), .val (.int (2 : Int32)), .val (.int c3)] [])) (fun _ kk => XS.icmpYes X6.here hx rfl (pc0 := 20) (pc' := 26) rfl (hb hby d6_20) rfl (flt u3).2.2.2 (by decide) (by decide) kk) ?_
  refine Go.st (S' := T6.setTop (mkF m 27 #[.val (.ref a0), .val (.int (2 : Int32)), .val (.ref a2), .val (.int (2 : Int32)), .val (.int (3 : Int32)), .val (.int (2 : Int32)), .val (.int c3)] [(.ref a2)])) (fun _ kk => XS.aloadN X6.here hx rfl (hb hby d6_26) rfl rfl kk) ?_
  refine Go.st (S' := T6.setTop (mkF m 28 #[.val (.ref a0), .val (.int (2 : Int32)), .val (.ref a2), .val (.int (2 : Int32)), .val (.int (3 : Int32)), .val (.int (2 : Int32)), .val (.int c3)] [(.int (2 : Int32)), (.ref a2)])) (fun _ kk => XS.iloadN X6.here hx rfl (hb hby d6_27) rfl kk) ?_
  refine Go.st (S' := T6.setTop (mkF m 30 #[.val (.ref a0), .val (.int (2 : Int32)), .val (.ref a2), .val (.int (2 : Int32)), .val (.int (3 : Int32)), .val (.int (2 : Int32)), .val (.int c3)] [(.int c3), (.int (2 : Int32)), (.ref a2)])) (fun _ kk => XS.iload X6.here hx rfl (hb hby d6_28) rfl kk) ?_
  refine Go.st (S' := T6.setTop (mkF m 31 #[.val (.ref a0), .val (.int (2 : Int32)), .val (.ref a2), .val (.int (2 : Int32)), .val (.int (3 : Int32)), .val (.int (2 : Int32)), .val (.int c3)] [(.int (c3.toInt8.toInt32)), (.int (2 : Int32)), (.ref a2)])) (fun _ kk => XS.i2b X6.here hx rfl (hb hby d6_30) rfl kk) ?_
  obtain ⟨cl10, Ar10, qk10, S10, Ng10, H10, G10⟩ := (id V_a2)
  have hin10 : ¬ ((2 : Int32) < 0 ∨ cl10.slots.size ≤ ((2 : Int32)).toNatClampNeg) := inb_of S10 ⟨by decide, by decide⟩
  obtain ⟨T10, h10, X10, e10, W10, st10⟩ := stB X6 hx hZ e6 Ar10 (j := (2 : Int32)) hin10 (g := (mkF m 31 #[.val (.ref a0), .val (.int (2 : Int32)), .val (.ref a2), .val (.int (2 : Int32)), .val (.int (3 : Int32)), .val (.int (2 : Int32)), .val (.int c3)] [(.int (c3.toInt8.toInt32)), (.int (2 : Int32)), (.ref a2)])) rfl rfl (hb hby d6_31)
  have V_a2 : Arv Z h10 a2 k2 .byte (3 : Int32) [(.int ((c1.toInt8.toInt32).toInt8.toInt32)), (.int ((c2.toInt8.toInt32).toInt8.toInt32)), (.int ((c3.toInt8.toInt32).toInt8.toInt32))] (.int (0 : Int32)) := Arv.set Ar10 qk10 S10 Ng10 H10 G10 (fits_nar_byte _) W10 2 rfl (Nat.le_of_ble_eq_true rfl)
  have N10 := Fr.snoc X10 N6 g_a2
  have V_a0 := V_a0.other W10 ne
  have Zs11 := Nat.le_trans Zs7 (Keep.of_wr W10).1
  have Kp12 := Kp8.wr W10 (Or.inl (List.mem_of_getElem? (i := 0) rfl))
  refine Go.st (S' := T10.setTop (mkF m 32 #[.val (.ref a0), .val (.int (2 : Int32)), .val (.ref a2), .val (.int (2 : Int32)), .val (.int (3 : Int32)), .val (.int (2 : Int32)), .val (.int c3)] [])) st10 ?_
  refine Go.st (S' := T10.setTop (mkF m 35 #[.val (.ref a0), .val (.int (3 : Int32)), .val (.ref a2), .val (.int (2 : Int32)), .val (.int (3 : Int32)), .val (.int (2 : Int32)), .val (.int c3)] [])) (fun _ kk => XS.iinc X10.here hx rfl (hb hby d6_32) rfl (l' := #[.val (.ref a0), .val (.int (3 : Int32)), .val (.ref a2), .val (.int (2 : Int32)), .val (.int (3 : Int32)), .val (.int (2 : Int32)), .val (.int c3)]) rfl kk) ?_
  refine Go.st (S' := T10.setTop (mkF m 38 #[.val (.ref a0), .val (.int (3 : Int32)), .val (.ref a2), .val (.int (3 : Int32)), .val (.int (3 : Int32)), .val (.int (2 : Int32)), .val (.int c3)] [])) (fun _ kk => XS.iinc X10.here hx rfl (hb hby d6_35) rfl (l' := #[.val (.ref a0), .val (.int (3 : Int32)), .val (.ref a2), .val (.int (3 : Int32)), .val (.int (3 : Int32)), .val (.int (2 : Int32)), .val (.int c3)]) rfl kk) ?_
  refine Go.st (S' := T10.setTop (mkF m 41 #[.val (.ref a0), .val (.int (3 : Int32)), .val (.ref a2), .val (.int (3 : Int32)), .val (.int (3 : Int32)), .val (.int (3 : Int32)), .val (.int c3)] [])) (fun _ kk => XS.iinc X10.here hx rfl (hb hby d6_38) rfl (l' := #[.val (.ref a0), .val (.int (3 : Int32)), .val (.ref a2), .val (.int (3 : Int32)), .val (.int (3 : Int32)), .val (.int (3 : Int32)), .val (.int c3)]) rfl kk) ?_
  refine Go.st (S' := T10.setTop (mkF m 3 #[.val (.ref a0), .val (.int (3 : Int32)), .val (.ref a2), .val (.int (3 : Int32)), .val (.int (3 : Int32)), .val (.int (3 : Int32)), .val (.int c3)] [])) (fun _ kk => XS.goto X10.here hx rfl (pc0 := 41) (pc' := 3) rfl (hb hby d6_41) (by decide) (by decide) kk) ?_
  refine Go.st (S' := T10.setTop (mkF m 5 #[.val (.ref a0), .val (.int (3 : Int32)), .val (.ref a2), .val (.int (3 : Int32)), .val (.int (3 : Int32)), .val (.int (3 : Int32)), .val (.int c3)] [(.int (3 : Int32))])) (fun _ kk => XS.iload X10.here hx rfl (hb hby d6_3) rfl kk) ?_
  refine Go.st (S' := T10.setTop (mkF m 7 #[.val (.ref a0), .val (.int (3 : Int32)), .val (.ref a2), .val (.int (3 : Int32)), .val (.int (3 : Int32)), .val (.int (3 : Int32)), .val (.int c3)] [(.int (3 : Int32)), (.int (3 : Int32))])) (fun _ kk => XS.iload X10.here hx rfl (hb hby d6_5) rfl kk) ?_
  refine Go.st (S' := T10.setTop (mkF m 44 #[.val (.ref a0), .val (.int (3 : Int32)), .val (.ref a2), .val (.int (3 : Int32)), .val (.int (3 : Int32)), .val (.int (3 : Int32)), .val (.int c3)] [])) (fun _ kk => XS.icmpYes X10.here hx rfl (pc0 := 7) (pc' := 44) rfl (hb hby d6_7) rfl (flt (by decide : ¬ ((3 : Int32) < (3 : Int32)))).2.1 (by decide) (by decide) kk) ?_
  refine Go.st (S' := T10.setTop (mkF m 46 #[.val (.ref a0), .val (.int (3 : Int32)), .val (.ref a2), .val (.int (3 : Int32)), .val (.int (3 : Int32)), .val (.int (3 : Int32)), .val (.int c3)] [(.int (3 : Int32))])) (fun _ kk => XS.iload X10.here hx rfl (hb hby d6_44) rfl kk) ?_
  exact Go.retI X10 hx hlk Bd.returns (hb hby d6_46) (by rw [e10]; exact ⟨rfl, N10, Kp12, V_a2⟩) (by decide) (by decide)
def Q_c3_3 (Z : State) (c1 : Int32) (c2 : Int32) (c3 : Int32) (h0 : Heap) (n0 : Nat) (v : Option Value) (h : Heap) (L : List Loc) : Prop := ∃ (b : Addr) (k : ClassId), v = some (.ref b) ∧ Fr n0 L ∧ Keep h0 h [] ∧ Arv Z h b k .byte (3 : Int32) [(.int ((c1.toInt8.toInt32).toInt8.toInt32)), (.int ((c2.toInt8.toInt32).toInt8.toInt32)), (.int ((c3.toInt8.toInt32).toInt8.toInt32))] (.int 0) ∧ Exa Z h b "[B" ∧ h0.size ≤ b
set_option maxRecDepth 65536 in
set_option maxHeartbeats 4000000 in
theorem rmC3_3 (l : Launch) (Z : State) (az : Array Value) (hw : ∀ d ∈ tables_1, d.before az Z = true) (ws : List Jvm.Cond) (a0 : Addr) (p1 : Int32) (p2 : Int32) (k0 : ClassId) (c1 : Int32) (c2 : Int32) (c3 : Int32) (h0 : Heap) (n0 : Nat) (Z0 : n0 ≤ h0.size) (V_a0 : Arv Z h0 a0 k0 .char (3 : Int32) [(.int c1), (.int c2), (.int c3)] (.int 0)) (h1 : p1 = 0) (h2 : p2 = (3 : Int32)) (u1 : ¬ (255 : Int32) < c1) (u2 : ¬ (255 : Int32) < c2) (u3 : ¬ (255 : Int32) < c3) :
    MetFree l (⟨"java/lang/StringUTF16", "compress", "([CII)[B"⟩ : MethodName) (head1 (Jvm.Cond.code (⟨"java/lang/StringUTF16", "compress", "([CII)[B"⟩ : MethodName) jdk_52_method_16_code 6 (some (.array .byte)) :: ws) ({ frames := 1, cells := 1, slots := 3, locals := 18 } : Room)) (fun a U => a = #[(.ref a0), (.int p1), (.int p2)] ∧ Z.Warmed39 U.vm ∧ U.heap = h0) (fun _ _ _ _ _ => True) (fun _ U o U' => ∃ v L, o = .returned v ∧ (Q_c3_3 Z c1 c2 c3 h0 n0) v U'.heap L ∧ FrameEnd U o U' L ({ frames := 1, cells := 1, slots := 3, locals := 18 } : Room).cells ({ frames := 1, cells := 1, slots := 3, locals := 18 } : Room).slots) := by
  refine MetFree.of_bodySF (plainFor_of_name pn_2) hisR ?_
  intro p e s m args below meth c s₁ Bd hml0 hP hK
  obtain ⟨rfl, hZ, hh⟩ := hP
  have hx := Bd.exec
  have hby := Bd.bytes
  have hlk : meth.locks = false := Bd.notSynchronized
  have hml : c.maxLocals = 6 := hml0
  have hown : s.vm.findClass "java/lang/StringUTF16" = some m.cls := findClass_of_methodNamed Bd.named
  have hnm := (name_of_methodNamed Bd.named Bd.method).1
  have X0 : Stand p l e ({ frames := 1, cells := 1, slots := 3, locals := 18 } : Room) s m #[(.ref a0), (.int p1), (.int p2)] below meth c s₁ [] 0 0 := Stand.of_body Bd
  have e0 : s₁.heap = h0 := by rw [← hh, Bd.state]; rfl
  have N0 := Fr.nil n0
  show Go p e below s ((Q_c3_3 Z c1 c2 c3 h0 n0)) ({ frames := 1, cells := 1, slots := 3, locals := 18 } : Room).cells ({ frames := 1, cells := 1, slots := 3, locals := 18 } : Room).slots (s₁.setTop (entryFrame m #[(.ref a0), (.int p1), (.int p2)] 6))
  rw [ef_5 m a0 p1 p2]
  subst h1 h2
  refine Go.st (S' := s₁.setTop (mkF m 1 #[.val (.ref a0), .val (.int (0 : Int32)), .val (.int (3 : Int32)), .unset, .unset, .unset] [(.int (3 : Int32))])) (fun _ kk => XS.iloadN X0.here hx rfl (hb hby d5_0) rfl kk) ?_
  obtain ⟨T1, h1, k1, X1, e1, E1, A1, E_b1, st1⟩ := newPE X0 hx hZ (hw _ (List.mem_of_getElem? (i := 23) rfl)) e0 (g := (mkF m 1 #[.val (.ref a0), .val (.int (0 : Int32)), .val (.int (3 : Int32)), .unset, .unset, .unset] [(.int (3 : Int32))])) rfl (hb hby d5_1) rfl (by decide) (cap := 3) (by decide) (by decide) (by decide : 0 + 1 ≤ _) (by decide : 0 + 3 ≤ _) (ad := "[B") rfl
  obtain ⟨b1, g1⟩ : ∃ z, z = h0.size := ⟨_, rfl⟩
  rw [← g1] at A1 E_b1 st1
  have ne_a0_b1 : a0 ≠ b1 := Nat.ne_of_lt (Nat.lt_of_lt_of_le V_a0.lt (Nat.le_of_eq g1.symm))
  have g_b1 : n0 ≤ b1 := Nat.le_trans Z0 (Nat.le_of_eq g1.symm)
  have sz_b1 : h0.size ≤ b1 := Nat.le_trans (Keep.refl h0 []).1 (Nat.le_of_eq g1.symm)
  have V_a0 := V_a0.ext E1
  have Zs2 := Nat.le_trans Z0 E1.1
  have Kp3 := (Keep.refl h0 []).ext E1
  have V_b1 : Arv Z h1 b1 k1 .byte (3 : Int32) [(.int (0 : Int32)), (.int (0 : Int32)), (.int (0 : Int32))] (.int (0 : Int32)) := (Arv.new A1 (by decide)).pad (pad_rep [] (.int (0 : Int32)) 3)
  refine Go.st (S' := T1.setTop (mkF m 3 #[.val (.ref a0), .val (.int (0 : Int32)), .val (.int (3 : Int32)), .unset, .unset, .unset] [(.ref b1)])) st1 ?_
  refine Go.st (S' := T1.setTop (mkF m 4 #[.val (.ref a0), .val (.int (0 : Int32)), .val (.int (3 : Int32)), .val (.ref b1), .unset, .unset] [])) (fun _ kk => XS.astoreN X1.here hx rfl (hb hby d5_3) rfl rfl (l' := #[.val (.ref a0), .val (.int (0 : Int32)), .val (.int (3 : Int32)), .val (.ref b1), .unset, .unset]) rfl kk) ?_
  refine Go.st (S' := T1.setTop (mkF m 5 #[.val (.ref a0), .val (.int (0 : Int32)), .val (.int (3 : Int32)), .val (.ref b1), .unset, .unset] [(.ref a0)])) (fun _ kk => XS.aloadN X1.here hx rfl (hb hby d5_4) rfl rfl kk) ?_
  refine Go.st (S' := T1.setTop (mkF m 6 #[.val (.ref a0), .val (.int (0 : Int32)), .val (.int (3 : Int32)), .val (.ref b1), .unset, .unset] [(.int (0 : Int32)), (.ref a0)])) (fun _ kk => XS.iloadN X1.here hx rfl (hb hby d5_5) rfl kk) ?_
  refine Go.st (S' := T1.setTop (mkF m 7 #[.val (.ref a0), .val (.int (0 : Int32)), .val (.int (3 : Int32)), .val (.ref b1), .unset, .unset] [(.ref b1), (.int (0 : Int32)), (.ref a0)])) (fun _ kk => XS.aloadN X1.here hx rfl (hb hby d5_6) rfl rfl kk) ?_
  refine Go.st (S' := T1.setTop (mkF m 8 #[.val (.ref a0), .val (.int (0 : Int32)), .val (.int (3 : Int32)), .val (.ref b1), .unset, .unset] [(.int (0 : Int32)), (.ref b1), (.int (0 : Int32)), (.ref a0)])) (fun _ kk => XS.iconst X1.here hx rfl (hb hby d5_7) kk) ?_
  refine Go.st (S' := T1.setTop (mkF m 9 #[.val (.ref a0), .val (.int (0 : Int32)), .val (.int (3 : Int32)), .val (.ref b1), .unset, .unset] [(.int (3 : Int32)), (.int (0 : Int32)), (.ref b1), (.int (0 : Int32)), (.ref a0)])) (fun _ kk => XS.iloadN X1.here hx rfl (hb hby d5_8) rfl kk) ?_
  obtain ⟨_, _, ⟨T4, L4, k4, n4⟩, -, X4, ⟨Lc4, hQ4, l4, y4, z4⟩, st4⟩ := Jvm.LawKit.callS X1 hx (y := (⟨"java/lang/StringUTF16", "compress", "([CI[BII)I"⟩ : MethodName)) hown (mvT hZ (hw _ (List.mem_of_getElem? (i := 24) rfl))) (mvT hZ (hw _ (List.mem_of_getElem? (i := 25) rfl))) (mvT hZ (hw _ (List.mem_of_getElem? (i := 21) rfl))) (mvT hZ (hw _ (List.mem_of_getElem? (i := 26) rfl))) (by decide) (backOf (W := 0) (rmC5_3 l Z az hw [] a0 (0 : Int32) b1 (0 : Int32) (3 : Int32) k0 k1 c1 c2 c3 h1 n0 Zs2 V_a0 V_b1 ne_a0_b1 g_b1 rfl rfl rfl u1 u2 u3) hZ (hw _ (List.mem_of_getElem? (i := 26) rfl)) (hw _ (List.mem_of_getElem? (i := 21) rfl)) (by decide) (by decide)) (g := (mkF m 9 #[.val (.ref a0), .val (.int (0 : Int32)), .val (.int (3 : Int32)), .val (.ref b1), .unset, .unset] [(.int (3 : Int32)), (.int (0 : Int32)), (.ref b1), (.int (0 : Int32)), (.ref a0)])) rfl (by rw [hml]; rfl) (argsL := [(.ref a0), (.int (0 : Int32)), (.ref b1), (.int (0 : Int32)), (.int (3 : Int32))]) (rest := []) (lenOf pd_5 rfl) rfl (by show 2 * 0 + _ ≤ _; exact Nat.le_of_eq rfl) (hb hby d5_9) (fun _ _ => ⟨rfl, e1, (by decide : 1 + 0 ≤ _), (by decide : 3 + 0 ≤ _)⟩)
  dsimp only [Pt.U, Pt.locs, Pt.cells, Pt.slots] at X4 l4 y4 z4 st4 hQ4
  subst l4 y4 z4
  obtain ⟨rfl, N4q, K4, Va4⟩ := hQ4
  have N4 := Fr.app N0 N4q
  have V_a0 := V_a0.keep K4 (ninS ne_a0_b1 nin0)
  have E_b1 := E_b1.keep K4
  have Zs5 := Nat.le_trans Zs2 K4.1
  have Kp6 := Kp3.trans K4 (allS (Or.inr sz_b1) all0)
  refine Go.st (S' := T4.setTop (mkF m 12 #[.val (.ref a0), .val (.int (0 : Int32)), .val (.int (3 : Int32)), .val (.ref b1), .unset, .unset] [(.int (3 : Int32))])) st4 ?_
  refine Go.st (S' := T4.setTop (mkF m 14 #[.val (.ref a0), .val (.int (0 : Int32)), .val (.int (3 : Int32)), .val (.ref b1), .val (.int (3 : Int32)), .unset] [])) (fun _ kk => XS.istore X4.here hx rfl (hb hby d5_12) rfl (l' := #[.val (.ref a0), .val (.int (0 : Int32)), .val (.int (3 : Int32)), .val (.ref b1), .val (.int (3 : Int32)), .unset]) rfl kk) ?_
  refine Go.st (S' := T4.setTop (mkF m 16 #[.val (.ref a0), .val (.int (0 : Int32)), .val (.int (3 : Int32)), .val (.ref b1), .val (.int (3 : Int32)), .unset] [(.int (3 : Int32))])) (fun _ kk => XS.iload X4.here hx rfl (hb hby d5_14) rfl kk) ?_
  refine Go.st (S' := T4.setTop (mkF m 17 #[.val (.ref a0), .val (.int (0 : Int32)), .val (.int (3 : Int32)), .val (.ref b1), .val (.int (3 : Int32)), .unset] [(.int (3 : Int32)), (.int (3 : Int32))])) (fun _ kk => XS.iloadN X4.here hx rfl (hb hby d5_16) rfl kk) ?_
  refine Go.st (S' := T4.setTop (mkF m 57 #[.val (.ref a0), .val (.int (0 : Int32)), .val (.int (3 : Int32)), .val (.ref b1), .val (.int (3 : Int32)), .unset] [])) (fun _ kk => XS.icmpYes X4.here hx rfl (pc0 := 17) (pc' := 57) rfl (hb hby d5_17) rfl (teq (by decide : (3 : Int32) = (3 : Int32))).1 (by decide) (by decide) kk) ?_
  refine Go.st (S' := T4.setTop (mkF m 58 #[.val (.ref a0), .val (.int (0 : Int32)), .val (.int (3 : Int32)), .val (.ref b1), .val (.int (3 : Int32)), .unset] [(.ref b1)])) (fun _ kk => XS.aloadN X4.here hx rfl (hb hby d5_57) rfl rfl kk) ?_
  exact Go.retA X4 hx hlk Bd.returns rfl rfl (hb hby d5_58) (by exact ⟨_, _, rfl, N4, Kp6, Va4, E_b1, sz_b1⟩) (by decide) (by decide)
set_option maxRecDepth 65536 in
set_option maxHeartbeats 4000000 in
theorem rmCd_3 (l : Launch) (Z : State) (az : Array Value) (hw : ∀ d ∈ tables_1, d.before az Z = true) (ws : List Jvm.Cond) (a0 : Addr) (p1 : Int32) (k0 : ClassId) (vs : List Value) (h0 : Heap) (n0 : Nat) (Z0 : n0 ≤ h0.size) (V_a0 : Arv Z h0 a0 k0 .byte (3 : Int32) vs (.int 0)) (h1 : p1 = (3 : Int32)) :
    MetFree l (⟨"java/lang/StringUTF16", "coderFromArrayLen", "([BI)B"⟩ : MethodName) (head1 (Jvm.Cond.code (⟨"java/lang/StringUTF16", "coderFromArrayLen", "([BI)B"⟩ : MethodName) jdk_52_method_15_code 2 (some .byte) :: ws) ({ frames := 0, cells := 0, slots := 0, locals := 0 } : Room)) (fun a U => a = #[(.ref a0), (.int p1)] ∧ Z.Warmed39 U.vm ∧ U.heap = h0) (fun _ _ _ _ _ => True) (fun _ U o U' => ∃ v L, o = .returned v ∧ (PQ (.int 0) n0 h0) v U'.heap L ∧ FrameEnd U o U' L ({ frames := 0, cells := 0, slots := 0, locals := 0 } : Room).cells ({ frames := 0, cells := 0, slots := 0, locals := 0 } : Room).slots) := by
  refine MetFree.of_bodySF (plainFor_of_name pn_2) hisR ?_
  intro p e s m args below meth c s₁ Bd hml0 hP hK
  obtain ⟨rfl, hZ, hh⟩ := hP
  have hx := Bd.exec
  have hby := Bd.bytes
  have hlk : meth.locks = false := Bd.notSynchronized
  have hml : c.maxLocals = 2 := hml0
  have hown : s.vm.findClass "java/lang/StringUTF16" = some m.cls := findClass_of_methodNamed Bd.named
  have hnm := (name_of_methodNamed Bd.named Bd.method).1
  have X0 : Stand p l e ({ frames := 0, cells := 0, slots := 0, locals := 0 } : Room) s m #[(.ref a0), (.int p1)] below meth c s₁ [] 0 0 := Stand.of_body Bd
  have e0 : s₁.heap = h0 := by rw [← hh, Bd.state]; rfl
  have N0 := Fr.nil n0
  show Go p e below s ((PQ (.int 0) n0 h0)) ({ frames := 0, cells := 0, slots := 0, locals := 0 } : Room).cells ({ frames := 0, cells := 0, slots := 0, locals := 0 } : Room).slots (s₁.setTop (entryFrame m #[(.ref a0), (.int p1)] 2))
  rw [ef_7 m a0 p1]
  subst h1
  refine Go.st (S' := s₁.setTop (mkF m 1 #[.val (.ref a0), .val (.int (3 : Int32))] [(.int (3 : Int32))])) (fun _ kk => XS.iloadN X0.here hx rfl (hb hby d7_0) rfl kk) ?_
  refine Go.st (S' := s₁.setTop (mkF m 2 #[.val (.ref a0), .val (.int (3 : Int32))] [(.ref a0), (.int (3 : Int32))])) (fun _ kk => XS.aloadN X0.here hx rfl (hb hby d7_1) rfl rfl kk) ?_
  obtain ⟨cl1, Ar1, -, S1, Ng1, -, -⟩ := (id V_a0)
  refine Go.st (S' := s₁.setTop (mkF m 3 #[.val (.ref a0), .val (.int (3 : Int32))] [(.int (3 : Int32)), (.int (3 : Int32))])) (fun _ kk => X0.arraylength hx (by rw [e0]; exact Ar1.1) (State.isArrayOf_alike hZ.alike Ar1.2.1) (g := (mkF m 2 #[.val (.ref a0), .val (.int (3 : Int32))] [(.ref a0), (.int (3 : Int32))])) rfl rfl (hb hby d7_2) _ (by rw [len_of S1 Ng1]; exact kk)) ?_
  refine Go.st (S' := s₁.setTop (mkF m 4 #[.val (.ref a0), .val (.int (3 : Int32))] [(.int (0 : Int32))])) (fun _ kk => XS.isub X0.here hx rfl (hb hby d7_3) rfl kk) ?_
  refine Go.st (S' := s₁.setTop (mkF m 6 #[.val (.ref a0), .val (.int (3 : Int32))] [(.int (31 : Int32)), (.int (0 : Int32))])) (fun _ kk => XS.bipush X0.here hx rfl (hb hby d7_4) kk) ?_
  refine Go.st (S' := s₁.setTop (mkF m 7 #[.val (.ref a0), .val (.int (3 : Int32))] [(.int (((0 : Int32).toUInt32 >>> ((31 : Int32) &&& 31).toUInt32).toInt32))])) (fun _ kk => XS.iushr X0.here hx rfl (hb hby d7_6) rfl kk) ?_
  refine Go.st (S' := s₁.setTop (mkF m 8 #[.val (.ref a0), .val (.int (3 : Int32))] [(.int ((((0 : Int32).toUInt32 >>> ((31 : Int32) &&& 31).toUInt32).toInt32).toInt8.toInt32))])) (fun _ kk => XS.i2b X0.here hx rfl (hb hby d7_7) rfl kk) ?_
  exact Go.retN X0 hx hlk (t := .byte) Bd.returns (by simp) (hb hby d7_8) (⟨rfl, N0, e0⟩) (by decide) (by decide)
def Q_in_3 (Z : State) (a0 : Addr) (c1 : Int32) (c2 : Int32) (c3 : Int32) (h0 : Heap) (n0 : Nat) (v : Option Value) (h : Heap) (L : List Loc) : Prop := v = none ∧ Fr n0 L ∧ Keep h0 h [a0] ∧ Exa Z h a0 "java/lang/String" ∧ Fld Z h a0 "java/lang/String" "coder" "B" (.int 0) ∧ ∃ (b : Addr) (k : ClassId), Fld Z h a0 "java/lang/String" "value" "[B" (.ref b) ∧ Arv Z h b k .byte (3 : Int32) [(.int ((c1.toInt8.toInt32).toInt8.toInt32)), (.int ((c2.toInt8.toInt32).toInt8.toInt32)), (.int ((c3.toInt8.toInt32).toInt8.toInt32))] (.int 0)
set_option maxRecDepth 65536 in
set_option maxHeartbeats 4000000 in
theorem rmI5_3 (l : Launch) (Z : State) (az : Array Value) (hw : ∀ d ∈ tables_1, d.before az Z = true) (ws : List Jvm.Cond) (a0 : Addr) (a1 : Addr) (p2 : Int32) (p3 : Int32) (zc : Int32) (k1 : ClassId) (c1 : Int32) (c2 : Int32) (c3 : Int32) (h0 : Heap) (n0 : Nat) (Z0 : n0 ≤ h0.size) (S_C : Sta Z h0 "java/lang/String" "COMPACT_STRINGS" "Z" (.int zc)) (hzc : ¬ zc = 0) (E_a0 : Exa Z h0 a0 "java/lang/String") (F_coder : Fld Z h0 a0 "java/lang/String" "coder" "B" (.int 0)) (F_value : Fld Z h0 a0 "java/lang/String" "value" "[B" .null) (g_a0 : n0 ≤ a0) (ne : a0 ≠ a1) (V_a1 : Arv Z h0 a1 k1 .char (3 : Int32) [(.int c1), (.int c2), (.int c3)] (.int 0)) (h2 : p2 = 0) (h3 : p3 = (3 : Int32)) (u1 : ¬ (255 : Int32) < c1) (u2 : ¬ (255 : Int32) < c2) (u3 : ¬ (255 : Int32) < c3) :
    MetFree l (⟨"java/lang/String", "<init>", "([CIILjava/lang/Void;)V"⟩ : MethodName) (head1 (Jvm.Cond.code (⟨"java/lang/String", "<init>", "([CIILjava/lang/Void;)V"⟩ : MethodName) jdk_42_method_149_code 6 none :: ws) ({ frames := 2, cells := 1, slots := 3, locals := 35 } : Room)) (fun a U => a = #[(.ref a0), (.ref a1), (.int p2), (.int p3), .null] ∧ Z.Warmed39 U.vm ∧ U.heap = h0) (fun _ _ _ _ _ => True) (fun _ U o U' => ∃ v L, o = .returned v ∧ (Q_in_3 Z a0 c1 c2 c3 h0 n0) v U'.heap L ∧ FrameEnd U o U' L ({ frames := 2, cells := 1, slots := 3, locals := 35 } : Room).cells ({ frames := 2, cells := 1, slots := 3, locals := 35 } : Room).slots) := by
  refine MetFree.of_bodySF (plainFor_of_name pn_1) hisR ?_
  intro p e s m args below meth c s₁ Bd hml0 hP hK
  obtain ⟨rfl, hZ, hh⟩ := hP
  have hx := Bd.exec
  have hby := Bd.bytes
  have hlk : meth.locks = false := Bd.notSynchronized
  have hml : c.maxLocals = 6 := hml0
  have hown : s.vm.findClass "java/lang/String" = some m.cls := findClass_of_methodNamed Bd.named
  have hnm := (name_of_methodNamed Bd.named Bd.method).1
  have X0 : Stand p l e ({ frames := 2, cells := 1, slots := 3, locals := 35 } : Room) s m #[(.ref a0), (.ref a1), (.int p2), (.int p3), .null] below meth c s₁ [] 0 0 := Stand.of_body Bd
  have e0 : s₁.heap = h0 := by rw [← hh, Bd.state]; rfl
  have N0 := Fr.nil n0
  show Go p e below s ((Q_in_3 Z a0 c1 c2 c3 h0 n0)) ({ frames := 2, cells := 1, slots := 3, locals := 35 } : Room).cells ({ frames := 2, cells := 1, slots := 3, locals := 35 } : Room).slots (s₁.setTop (entryFrame m #[(.ref a0), (.ref a1), (.int p2), (.int p3), .null] 6))
  rw [ef_3n4 m a0 a1 p2 p3]
  subst h2 h3
  refine Go.st (S' := s₁.setTop (mkF m 1 #[.val (.ref a0), .val (.ref a1), .val (.int (0 : Int32)), .val (.int (3 : Int32)), .val .null, .unset] [(.ref a0)])) (fun _ kk => XS.aloadN X0.here hx rfl (hb hby d3_0) rfl rfl kk) ?_
  obtain ⟨T1, X1, e1, st1⟩ := initO X0 hx hZ hown (hw _ (List.mem_of_getElem? (i := 15) rfl)) (hw _ (List.mem_of_getElem? (i := 16) rfl)) (hw _ (List.mem_of_getElem? (i := 17) rfl)) e0 (g := (mkF m 1 #[.val (.ref a0), .val (.ref a1), .val (.int (0 : Int32)), .val (.int (3 : Int32)), .val .null, .unset] [(.ref a0)])) rfl (by rw [hml]; rfl) rfl (hb hby d3_1) (by decide) (W := 0) (by show 2 * 0 + _ ≤ _; exact Nat.le_of_eq rfl) (by decide)
  refine Go.st (S' := T1.setTop (mkF m 4 #[.val (.ref a0), .val (.ref a1), .val (.int (0 : Int32)), .val (.int (3 : Int32)), .val .null, .unset] [])) st1 ?_
  refine Go.st (S' := T1.setTop (mkF m 5 #[.val (.ref a0), .val (.ref a1), .val (.int (0 : Int32)), .val (.int (3 : Int32)), .val .null, .unset] [(.int (3 : Int32))])) (fun _ kk => XS.iloadN X1.here hx rfl (hb hby d3_4) rfl kk) ?_
  refine Go.st (S' := T1.setTop (mkF m 27 #[.val (.ref a0), .val (.ref a1), .val (.int (0 : Int32)), .val (.int (3 : Int32)), .val .null, .unset] [])) (fun _ kk => XS.ifYes X1.here hx rfl (pc0 := 5) (pc' := 27) rfl (hb hby d3_5) rfl ((if0 _ _).trans (feq (by decide : ¬ ((3 : Int32) = (0 : Int32)))).2) (by decide) (by decide) kk) ?_
  obtain ⟨T2, X2, e2, st2⟩ := getS2 X1 hx hZ hown (host := "") (Or.inl (hw _ (List.mem_of_getElem? (i := 18) rfl))) Via.refl e1 S_C (g := (mkF m 27 #[.val (.ref a0), .val (.ref a1), .val (.int (0 : Int32)), .val (.int (3 : Int32)), .val .null, .unset] [])) rfl (hb hby d3_27)
  refine Go.st (S' := T2.setTop (mkF m 30 #[.val (.ref a0), .val (.ref a1), .val (.int (0 : Int32)), .val (.int (3 : Int32)), .val .null, .unset] [(.int zc)])) st2 ?_
  refine Go.st (S' := T2.setTop (mkF m 33 #[.val (.ref a0), .val (.ref a1), .val (.int (0 : Int32)), .val (.int (3 : Int32)), .val .null, .unset] [])) (fun _ kk => XS.ifNo X2.here hx rfl (hb hby d3_30) rfl ((if0 _ _).trans (feq hzc).1) kk) ?_
  refine Go.st (S' := T2.setTop (mkF m 34 #[.val (.ref a0), .val (.ref a1), .val (.int (0 : Int32)), .val (.int (3 : Int32)), .val .null, .unset] [(.ref a1)])) (fun _ kk => XS.aloadN X2.here hx rfl (hb hby d3_33) rfl rfl kk) ?_
  refine Go.st (S' := T2.setTop (mkF m 35 #[.val (.ref a0), .val (.ref a1), .val (.int (0 : Int32)), .val (.int (3 : Int32)), .val .null, .unset] [(.int (0 : Int32)), (.ref a1)])) (fun _ kk => XS.iloadN X2.here hx rfl (hb hby d3_34) rfl kk) ?_
  refine Go.st (S' := T2.setTop (mkF m 36 #[.val (.ref a0), .val (.ref a1), .val (.int (0 : Int32)), .val (.int (3 : Int32)), .val .null, .unset] [(.int (3 : Int32)), (.int (0 : Int32)), (.ref a1)])) (fun _ kk => XS.iloadN X2.here hx rfl (hb hby d3_35) rfl kk) ?_
  obtain ⟨_, _, ⟨T3, L3, k3, n3⟩, -, X3, ⟨Lc3, hQ3, l3, y3, z3⟩, st3⟩ := Jvm.LawKit.callS X2 hx (y := (⟨"java/lang/StringUTF16", "compress", "([CII)[B"⟩ : MethodName)) hown (mvT hZ (hw _ (List.mem_of_getElem? (i := 19) rfl))) (mvT hZ (hw _ (List.mem_of_getElem? (i := 20) rfl))) (mvT hZ (hw _ (List.mem_of_getElem? (i := 21) rfl))) (mvT hZ (hw _ (List.mem_of_getElem? (i := 22) rfl))) (by decide) (backOf (W := 0) (rmC3_3 l Z az hw [] a1 (0 : Int32) (3 : Int32) k1 c1 c2 c3 h0 n0 Z0 V_a1 rfl rfl u1 u2 u3) hZ (hw _ (List.mem_of_getElem? (i := 22) rfl)) (hw _ (List.mem_of_getElem? (i := 21) rfl)) (by decide) (by decide)) (g := (mkF m 36 #[.val (.ref a0), .val (.ref a1), .val (.int (0 : Int32)), .val (.int (3 : Int32)), .val .null, .unset] [(.int (3 : Int32)), (.int (0 : Int32)), (.ref a1)])) rfl (by rw [hml]; rfl) (argsL := [(.ref a1), (.int (0 : Int32)), (.int (3 : Int32))]) (rest := []) (lenOf pd_4 rfl) rfl (by show 2 * 0 + _ ≤ _; exact Nat.le_of_eq rfl) (hb hby d3_36) (fun _ _ => ⟨rfl, e2, (by decide : 0 + 1 ≤ _), (by decide : 0 + 3 ≤ _)⟩)
  dsimp only [Pt.U, Pt.locs, Pt.cells, Pt.slots] at X3 l3 y3 z3 st3 hQ3
  subst l3 y3 z3
  obtain ⟨b3, kb3, rfl, N3q, K3, V_b3, E_b3, gb3⟩ := hQ3
  have Ex3 := own_extK K3
  have N3 := Fr.app N0 N3q
  have ne_a0_b3 : a0 ≠ b3 := Nat.ne_of_lt (Nat.lt_of_lt_of_le E_a0.lt gb3)
  have ne_a1_b3 : a1 ≠ b3 := Nat.ne_of_lt (Nat.lt_of_lt_of_le V_a1.lt gb3)
  have g_b3 : n0 ≤ b3 := Nat.le_trans Z0 gb3
  have S_C := S_C.ext Ex3
  have E_a0 := E_a0.ext Ex3
  have F_coder := F_coder.ext Ex3
  have F_value := F_value.ext Ex3
  have V_a1 := V_a1.ext Ex3
  have Zs4 := Nat.le_trans Z0 Ex3.1
  have Kp5 := (Keep.refl h0 [a0]).ext Ex3
  refine Go.st (S' := T3.setTop (mkF m 39 #[.val (.ref a0), .val (.ref a1), .val (.int (0 : Int32)), .val (.int (3 : Int32)), .val .null, .unset] [(.ref b3)])) st3 ?_
  refine Go.st (S' := T3.setTop (mkF m 41 #[.val (.ref a0), .val (.ref a1), .val (.int (0 : Int32)), .val (.int (3 : Int32)), .val .null, .val (.ref b3)] [])) (fun _ kk => XS.astore X3.here hx rfl (hb hby d3_39) rfl rfl (l' := #[.val (.ref a0), .val (.ref a1), .val (.int (0 : Int32)), .val (.int (3 : Int32)), .val .null, .val (.ref b3)]) rfl kk) ?_
  refine Go.st (S' := T3.setTop (mkF m 42 #[.val (.ref a0), .val (.ref a1), .val (.int (0 : Int32)), .val (.int (3 : Int32)), .val .null, .val (.ref b3)] [(.ref a0)])) (fun _ kk => XS.aloadN X3.here hx rfl (hb hby d3_41) rfl rfl kk) ?_
  refine Go.st (S' := T3.setTop (mkF m 44 #[.val (.ref a0), .val (.ref a1), .val (.int (0 : Int32)), .val (.int (3 : Int32)), .val .null, .val (.ref b3)] [(.ref b3), (.ref a0)])) (fun _ kk => XS.aload X3.here hx rfl (hb hby d3_42) rfl rfl kk) ?_
  refine Go.st (S' := T3.setTop (mkF m 45 #[.val (.ref a0), .val (.ref a1), .val (.int (0 : Int32)), .val (.int (3 : Int32)), .val .null, .val (.ref b3)] [(.int (3 : Int32)), (.ref b3), (.ref a0)])) (fun _ kk => XS.iloadN X3.here hx rfl (hb hby d3_44) rfl kk) ?_
  obtain ⟨_, _, ⟨T6, L6, k6, n6⟩, -, X6, ⟨Lc6, hQ6, l6, y6, z6⟩, st6⟩ := Jvm.LawKit.callS X3 hx (y := (⟨"java/lang/StringUTF16", "coderFromArrayLen", "([BI)B"⟩ : MethodName)) hown (mvT hZ (hw _ (List.mem_of_getElem? (i := 27) rfl))) (mvT hZ (hw _ (List.mem_of_getElem? (i := 28) rfl))) (mvT hZ (hw _ (List.mem_of_getElem? (i := 21) rfl))) (mvT hZ (hw _ (List.mem_of_getElem? (i := 29) rfl))) (by decide) (backOf (W := 1) (rmCd_3 l Z az hw [] b3 (3 : Int32) kb3 _ T3.heap n0 Zs4 V_b3 rfl) hZ (hw _ (List.mem_of_getElem? (i := 29) rfl)) (hw _ (List.mem_of_getElem? (i := 21) rfl)) (by decide) (by decide)) (g := (mkF m 45 #[.val (.ref a0), .val (.ref a1), .val (.int (0 : Int32)), .val (.int (3 : Int32)), .val .null, .val (.ref b3)] [(.int (3 : Int32)), (.ref b3), (.ref a0)])) rfl (by rw [hml]; rfl) (argsL := [(.ref b3), (.int (3 : Int32))]) (rest := [(.ref a0)]) (lenOf pd_6 rfl) rfl (by show 2 * 0 + _ ≤ _; exact Nat.le_of_eq rfl) (hb hby d3_45) (fun _ _ => ⟨rfl, rfl, (by decide : 1 + 0 ≤ _), (by decide : 3 + 0 ≤ _)⟩)
  dsimp only [Pt.U, Pt.locs, Pt.cells, Pt.slots] at X6 l6 y6 z6 st6 hQ6
  subst l6 y6 z6
  obtain ⟨rfl, N6q, e6⟩ := hQ6
  have N6 := Fr.app N3 N6q
  refine Go.st (S' := T6.setTop (mkF m 48 #[.val (.ref a0), .val (.ref a1), .val (.int (0 : Int32)), .val (.int (3 : Int32)), .val .null, .val (.ref b3)] [(.int (0 : Int32)), (.ref a0)])) st6 ?_
  obtain ⟨T7, h7, X7, e7, W7, st7⟩ := putFN X6 hx hZ hown (hw _ (List.mem_of_getElem? (i := 30) rfl)) Via.refl e6 F_coder E_a0 (Or.inr ⟨(hw _ (List.mem_of_getElem? (i := 31) rfl)), rfl, hnm⟩) (hw _ (List.mem_of_getElem? (i := 5) rfl)) (ty := .byte) (v' := .int (nar .byte (0 : Int32))) (by decide) rfl (fits_nar_byte _) (g := (mkF m 48 #[.val (.ref a0), .val (.ref a1), .val (.int (0 : Int32)), .val (.int (3 : Int32)), .val .null, .val (.ref b3)] [(.int (0 : Int32)), (.ref a0)])) rfl rfl (hb hby d3_48)
  have N7 := Fr.snoc X7 N6 g_a0
  have F_coder := F_coder.same W7
  have S_C := S_C.wr W7
  have E_a0 := E_a0.wr W7
  have F_value := F_value.other W7 (Or.inr (slot_ne (Or.inr (hw _ (List.mem_of_getElem? (i := 33) rfl))) (Or.inr (hw _ (List.mem_of_getElem? (i := 31) rfl))) (by decide) (t := (.array .byte)) (t' := .byte) (by decide) (by decide)))
  have V_a1 := V_a1.other W7 (Ne.symm ne)
  have E_b3 := E_b3.wr W7
  have V_b3 := V_b3.other W7 (Ne.symm ne_a0_b3)
  have Zs8 := Nat.le_trans Zs4 (Keep.of_wr W7).1
  have Kp9 := Kp5.wr W7 (Or.inl (List.mem_of_getElem? (i := 0) rfl))
  refine Go.st (S' := T7.setTop (mkF m 51 #[.val (.ref a0), .val (.ref a1), .val (.int (0 : Int32)), .val (.int (3 : Int32)), .val .null, .val (.ref b3)] [])) st7 ?_
  refine Go.st (S' := T7.setTop (mkF m 52 #[.val (.ref a0), .val (.ref a1), .val (.int (0 : Int32)), .val (.int (3 : Int32)), .val .null, .val (.ref b3)] [(.ref a0)])) (fun _ kk => XS.aloadN X7.here hx rfl (hb hby d3_51) rfl rfl kk) ?_
  refine Go.st (S' := T7.setTop (mkF m 54 #[.val (.ref a0), .val (.ref a1), .val (.int (0 : Int32)), .val (.int (3 : Int32)), .val .null, .val (.ref b3)] [(.ref b3), (.ref a0)])) (fun _ kk => XS.aload X7.here hx rfl (hb hby d3_52) rfl rfl kk) ?_
  obtain ⟨T10, h10, X10, e10, W10, st10⟩ := putF X7 hx hZ hown (host := "") (Or.inl (hw _ (List.mem_of_getElem? (i := 32) rfl))) Via.refl e7 F_value E_a0 (Or.inr ⟨(hw _ (List.mem_of_getElem? (i := 33) rfl)), rfl, hnm⟩) (hw _ (List.mem_of_getElem? (i := 5) rfl)) (ty := (.array .byte)) (by decide) rfl rfl (g := (mkF m 54 #[.val (.ref a0), .val (.ref a1), .val (.int (0 : Int32)), .val (.int (3 : Int32)), .val .null, .val (.ref b3)] [(.ref b3), (.ref a0)])) rfl rfl (hb hby d3_54)
  have N10 := Fr.snoc X10 N7 g_a0
  have F_value := F_value.same W10
  have S_C := S_C.wr W10
  have E_a0 := E_a0.wr W10
  have F_coder := F_coder.other W10 (Or.inr (slot_ne (Or.inr (hw _ (List.mem_of_getElem? (i := 31) rfl))) (Or.inr (hw _ (List.mem_of_getElem? (i := 33) rfl))) (by decide) (t := .byte) (t' := (.array .byte)) (by decide) (by decide)))
  have V_a1 := V_a1.other W10 (Ne.symm ne)
  have E_b3 := E_b3.wr W10
  have V_b3 := V_b3.other W10 (Ne.symm ne_a0_b3)
  have Zs11 := Nat.le_trans Zs8 (Keep.of_wr W10).1
  have Kp12 := Kp9.wr W10 (Or.inl (List.mem_of_getElem? (i := 0) rfl))
  refine Go.st (S' := T10.setTop (mkF m 57 #[.val (.ref a0), .val (.ref a1), .val (.int (0 : Int32)), .val (.int (3 : Int32)), .val .null, .val (.ref b3)] [])) st10 ?_
  exact Go.ret0 X10 hx hlk Bd.returns (hb hby d3_57) (by rw [e10]; exact ⟨rfl, N10, Kp12, E_a0, F_coder, _, _, F_value, V_b3⟩) (by decide) (by decide)
set_option maxRecDepth 65536 in
set_option maxHeartbeats 4000000 in
theorem rmI1_3 (l : Launch) (Z : State) (az : Array Value) (hw : ∀ d ∈ tables_1, d.before az Z = true) (ws : List Jvm.Cond) (a0 : Addr) (a1 : Addr) (zc : Int32) (k1 : ClassId) (c1 : Int32) (c2 : Int32) (c3 : Int32) (h0 : Heap) (n0 : Nat) (Z0 : n0 ≤ h0.size) (S_C : Sta Z h0 "java/lang/String" "COMPACT_STRINGS" "Z" (.int zc)) (hzc : ¬ zc = 0) (E_a0 : Exa Z h0 a0 "java/lang/String") (F_coder : Fld Z h0 a0 "java/lang/String" "coder" "B" (.int 0)) (F_value : Fld Z h0 a0 "java/lang/String" "value" "[B" .null) (g_a0 : n0 ≤ a0) (ne : a0 ≠ a1) (V_a1 : Arv Z h0 a1 k1 .char (3 : Int32) [(.int c1), (.int c2), (.int c3)] (.int 0)) (u1 : ¬ (255 : Int32) < c1) (u2 : ¬ (255 : Int32) < c2) (u3 : ¬ (255 : Int32) < c3) :
    MetFree l (⟨"java/lang/String", "<init>", "([C)V"⟩ : MethodName) (head1 (Jvm.Cond.code (⟨"java/lang/String", "<init>", "([C)V"⟩ : MethodName) jdk_42_method_3_code 2 none :: ws) ({ frames := 3, cells := 1, slots := 3, locals := 52 } : Room)) (fun a U => a = #[(.ref a0), (.ref a1)] ∧ Z.Warmed39 U.vm ∧ U.heap = h0) (fun _ _ _ _ _ => True) (fun _ U o U' => ∃ v L, o = .returned v ∧ (Q_in_3 Z a0 c1 c2 c3 h0 n0) v U'.heap L ∧ FrameEnd U o U' L ({ frames := 3, cells := 1, slots := 3, locals := 52 } : Room).cells ({ frames := 3, cells := 1, slots := 3, locals := 52 } : Room).slots) := by
  refine MetFree.of_bodySF (plainFor_of_name pn_1) hisR ?_
  intro p e s m args below meth c s₁ Bd hml0 hP hK
  obtain ⟨rfl, hZ, hh⟩ := hP
  have hx := Bd.exec
  have hby := Bd.bytes
  have hlk : meth.locks = false := Bd.notSynchronized
  have hml : c.maxLocals = 2 := hml0
  have hown : s.vm.findClass "java/lang/String" = some m.cls := findClass_of_methodNamed Bd.named
  have hnm := (name_of_methodNamed Bd.named Bd.method).1
  have X0 : Stand p l e ({ frames := 3, cells := 1, slots := 3, locals := 52 } : Room) s m #[(.ref a0), (.ref a1)] below meth c s₁ [] 0 0 := Stand.of_body Bd
  have e0 : s₁.heap = h0 := by rw [← hh, Bd.state]; rfl
  have N0 := Fr.nil n0
  show Go p e below s ((Q_in_3 Z a0 c1 c2 c3 h0 n0)) ({ frames := 3, cells := 1, slots := 3, locals := 52 } : Room).cells ({ frames := 3, cells := 1, slots := 3, locals := 52 } : Room).slots (s₁.setTop (entryFrame m #[(.ref a0), (.ref a1)] 2))
  rw [ef_2 m a0 a1]
  refine Go.st (S' := s₁.setTop (mkF m 1 #[.val (.ref a0), .val (.ref a1)] [(.ref a0)])) (fun _ kk => XS.aloadN X0.here hx rfl (hb hby d2_0) rfl rfl kk) ?_
  refine Go.st (S' := s₁.setTop (mkF m 2 #[.val (.ref a0), .val (.ref a1)] [(.ref a1), (.ref a0)])) (fun _ kk => XS.aloadN X0.here hx rfl (hb hby d2_1) rfl rfl kk) ?_
  refine Go.st (S' := s₁.setTop (mkF m 3 #[.val (.ref a0), .val (.ref a1)] [(.int (0 : Int32)), (.ref a1), (.ref a0)])) (fun _ kk => XS.iconst X0.here hx rfl (hb hby d2_2) kk) ?_
  refine Go.st (S' := s₁.setTop (mkF m 4 #[.val (.ref a0), .val (.ref a1)] [(.ref a1), (.int (0 : Int32)), (.ref a1), (.ref a0)])) (fun _ kk => XS.aloadN X0.here hx rfl (hb hby d2_3) rfl rfl kk) ?_
  obtain ⟨cl1, Ar1, -, S1, Ng1, -, -⟩ := (id V_a1)
  refine Go.st (S' := s₁.setTop (mkF m 5 #[.val (.ref a0), .val (.ref a1)] [(.int (3 : Int32)), (.int (0 : Int32)), (.ref a1), (.ref a0)])) (fun _ kk => X0.arraylength hx (by rw [e0]; exact Ar1.1) (State.isArrayOf_alike hZ.alike Ar1.2.1) (g := (mkF m 4 #[.val (.ref a0), .val (.ref a1)] [(.ref a1), (.int (0 : Int32)), (.ref a1), (.ref a0)])) rfl rfl (hb hby d2_4) _ (by rw [len_of S1 Ng1]; exact kk)) ?_
  refine Go.st (S' := s₁.setTop (mkF m 6 #[.val (.ref a0), .val (.ref a1)] [.null, (.int (3 : Int32)), (.int (0 : Int32)), (.ref a1), (.ref a0)])) (fun _ kk => XS.aconstNull X0.here hx rfl (hb hby d2_5) kk) ?_
  obtain ⟨_, _, ⟨T2, L2, k2, n2⟩, -, X2, ⟨Lc2, hQ2, l2, y2, z2⟩, st2⟩ := X0.specialBack hx (y := (⟨"java/lang/String", "<init>", "([CIILjava/lang/Void;)V"⟩ : MethodName)) rfl hown (mvT hZ (hw _ (List.mem_of_getElem? (i := 11) rfl))) (mvT hZ (hw _ (List.mem_of_getElem? (i := 12) rfl))) (mvT hZ (hw _ (List.mem_of_getElem? (i := 14) rfl))) (by decide) (backOf (W := 0) (rmI5_3 l Z az hw [] a0 a1 (0 : Int32) (3 : Int32) zc k1 c1 c2 c3 h0 n0 Z0 S_C hzc E_a0 F_coder F_value g_a0 ne V_a1 rfl rfl u1 u2 u3) hZ (hw _ (List.mem_of_getElem? (i := 14) rfl)) (hw _ (List.mem_of_getElem? (i := 6) rfl)) (by decide) (by decide)) (g := (mkF m 6 #[.val (.ref a0), .val (.ref a1)] [.null, (.int (3 : Int32)), (.int (0 : Int32)), (.ref a1), (.ref a0)])) rfl (by rw [hml]; rfl) (Steps.refl _) (a := a0) (argsL := [(.ref a1), (.int (0 : Int32)), (.int (3 : Int32)), .null]) (rest := []) (lenOf pd_2 rfl) rfl (by show 2 * 0 + _ ≤ _; exact Nat.le_of_eq rfl) (hb hby d2_6) (fun _ _ => ⟨rfl, e0, (by decide : 0 + 1 ≤ _), (by decide : 0 + 3 ≤ _)⟩)
  dsimp only [Pt.U, Pt.locs, Pt.cells, Pt.slots] at X2 l2 y2 z2 st2 hQ2
  subst l2 y2 z2
  obtain ⟨rfl, N2q, K2, Ec2, Fc2, d2, kd2, Fv2, V_d2⟩ := hQ2
  have N2 := Fr.app N0 N2q
  have S_C := own_stak K2 (allS (P := fun x => ∀ cell : Cell, (h0)[x]? = some cell → cell.vm.isStatics = false) (Exa.nostat E_a0) all0) S_C
  have E_a0 := E_a0.keep K2
  have V_a1 := V_a1.keep K2 (ninS (Ne.symm ne) nin0)
  have Zs3 := Nat.le_trans Z0 K2.1
  have Kp4 := (Keep.refl h0 [a0]).trans K2 (allS (Or.inl (List.mem_of_getElem? (i := 0) rfl)) all0)
  refine Go.tr (S' := T2.setTop (mkF m 9 #[.val (.ref a0), .val (.ref a1)] [])) st2 ?_
  exact Go.ret0 X2 hx hlk Bd.returns (hb hby d2_9) (by exact ⟨rfl, N2, Kp4, Ec2, Fc2, _, _, Fv2, V_d2⟩) (by decide) (by decide)
section OwnWide
variable {p : Program} {l : Launch} {e : Env} {R : Room} {s : State} {m : MethodId} {args : Array Value} {below : List Frame} {meth : Method} {c : Code} {T : State} {locs : List Loc} {cells slots ck sk : Nat} {S S' t : State} {Q : Option Value → Heap → Vm → List Loc → Prop} {Z : State} {az : Array Value} {h : Heap} {vm0 vm1 : Vm}
/-- from S the run comes to a return of which Q is said; texts may have been booked meanwhile -/
def GoW (p : Program) (e : Env) (below : List Frame) (s : State) (Q : Option Value → Heap → Vm → List Loc → Prop) (ck sk : Nat) (S : State) : Prop :=
  ∃ s₂ o, Steps p.tables e below S s₂ ∧ s₂.status = .running ∧ Ended s₂ below o ∧ ∃ v L, o = .returned v ∧ Q v s₂.heap s₂.vm L ∧ ReturnedEndW s o s₂ L ck sk
theorem GoW.st (h : ∀ t, Steps p.tables e below S' t → Steps p.tables e below S t) (k : GoW p e below s Q ck sk S') : GoW p e below s Q ck sk S := by
  obtain ⟨s₂, o, h1, r⟩ := k
  exact ⟨s₂, o, h _ h1, r⟩
theorem GoW.tr (h : Steps p.tables e below S S') (k : GoW p e below s Q ck sk S') : GoW p e below s Q ck sk S := GoW.st (fun _ q => h.trans q) k
theorem own_endW {t : State} {o : Outcome} {L : List Loc} {k n k' n' : Nat} (h : ReturnedEndW s o t L k n) (hk : k ≤ k') (hn : n ≤ n') : ReturnedEndW s o t L k' n' := ⟨h.1, h.2.1, h.2.2.1, h.2.2.2.mono hk hn⟩
theorem GoW.retW {n : Nat} (X : Stand p l e R (s.setVm vm0) m args below meth c T locs cells slots) (hx : p.tables.exec = Jvm.exec) (hlk : meth.locks = false) (hS : s.Since vm0 n) (hk : n ≤ T.heap.size) {pc : Nat} {Ls : Array Slot} {w : Value} {ty : FieldType} {i : Instr} {rest : List Value} (hret : meth.sig.returnType = some ty) (hn : narrow ty w = w)
    (hi : (i = .ireturn ∧ (ty = .int ∨ ty = .boolean ∨ ty = .byte ∨ ty = .char ∨ ty = .short) ∧ ∃ z, w = .int z) ∨ (i = .lreturn ∧ ty = .long ∧ ∃ z, w = .long z) ∨ (i = .dreturn ∧ ty = .double ∧ ∃ z, w = .double z) ∨ (i = .freturn ∧ ty = .float ∧ ∃ z, w = .float z) ∨ (i = .areturn ∧ ty.isReference = true ∧ w.isRef = true))
    (hd : decode c.code pc = .ok (i, 1)) (hQ : Q (some w) T.heap T.vm locs) (hc : cells ≤ ck) (hs : slots ≤ sk) : GoW p e below s Q ck sk (T.setTop (mkF m pc Ls (w :: rest))) := by
  obtain ⟨fs, hr, hrun, hended, hW⟩ := X.leaveW hS hk (v := some w) (fun h => by rw [hret] at h; cases h)
  exact ⟨_, _, retOut X hx hret hn hi hd hr, hrun, hended, _, _, rfl, hQ, own_endW hW hc hs⟩
theorem GoW.retI {n : Nat} (X : Stand p l e R (s.setVm vm0) m args below meth c T locs cells slots) (hx : p.tables.exec = Jvm.exec) (hlk : meth.locks = false) (hS : s.Since vm0 n) (hk : n ≤ T.heap.size) {pc : Nat} {Ls : Array Slot} {z : Int32} {rest : List Value} (hret : meth.sig.returnType = some .int) (hd : decode c.code pc = .ok (.ireturn, 1)) (hQ : Q (some (.int z)) T.heap T.vm locs) (hc : cells ≤ ck) (hs : slots ≤ sk) : GoW p e below s Q ck sk (T.setTop (mkF m pc Ls (.int z :: rest))) :=
  GoW.retW X hx hlk hS hk hret rfl (Or.inl ⟨rfl, Or.inl rfl, _, rfl⟩) hd hQ hc hs
theorem GoW.retJ {n : Nat} (X : Stand p l e R (s.setVm vm0) m args below meth c T locs cells slots) (hx : p.tables.exec = Jvm.exec) (hlk : meth.locks = false) (hS : s.Since vm0 n) (hk : n ≤ T.heap.size) {pc : Nat} {Ls : Array Slot} {z : Int64} {rest : List Value} (hret : meth.sig.returnType = some .long) (hd : decode c.code pc = .ok (.lreturn, 1)) (hQ : Q (some (.long z)) T.heap T.vm locs) (hc : cells ≤ ck) (hs : slots ≤ sk) : GoW p e below s Q ck sk (T.setTop (mkF m pc Ls (.long z :: rest))) :=
  GoW.retW X hx hlk hS hk hret rfl (Or.inr (Or.inl ⟨rfl, rfl, _, rfl⟩)) hd hQ hc hs
theorem GoW.retA {n : Nat} (X : Stand p l e R (s.setVm vm0) m args below meth c T locs cells slots) (hx : p.tables.exec = Jvm.exec) (hlk : meth.locks = false) (hS : s.Since vm0 n) (hk : n ≤ T.heap.size) {pc : Nat} {Ls : Array Slot} {w : Value} {ty : FieldType} {rest : List Value} (hret : meth.sig.returnType = some ty) (ht : ty.isReference = true) (hw : w.isRef = true) (hd : decode c.code pc = .ok (.areturn, 1)) (hQ : Q (some w) T.heap T.vm locs) (hc : cells ≤ ck) (hs : slots ≤ sk) : GoW p e below s Q ck sk (T.setTop (mkF m pc Ls (w :: rest))) :=
  GoW.retW X hx hlk hS hk hret (by cases ty <;> first | (cases ht; done) | (cases w <;> first | rfl | cases hw)) (Or.inr (Or.inr (Or.inr (Or.inr ⟨rfl, ht, hw⟩)))) hd hQ hc hs
theorem GoW.retN {n : Nat} (X : Stand p l e R (s.setVm vm0) m args below meth c T locs cells slots) (hx : p.tables.exec = Jvm.exec) (hlk : meth.locks = false) (hS : s.Since vm0 n) (hk : n ≤ T.heap.size) {pc : Nat} {Ls : Array Slot} {z : Int32} {t : FieldType} {rest : List Value} (hret : meth.sig.returnType = some t) (ht : t = .boolean ∨ t = .byte ∨ t = .char ∨ t = .short) (hd : decode c.code pc = .ok (.ireturn, 1)) (hQ : Q (some (.int (nar t z))) T.heap T.vm locs) (hc : cells ≤ ck) (hs : slots ≤ sk) : GoW p e below s Q ck sk (T.setTop (mkF m pc Ls (.int z :: rest))) := by
  obtain ⟨fs, hr, hrun, hended, hW⟩ := X.leaveW hS hk (v := some (.int (nar t z))) (fun h => by rw [hret] at h; cases h)
  exact ⟨_, _, Jvm.RoadKit.retN X hx hret ht hd hr, hrun, hended, _, _, rfl, hQ, own_endW hW hc hs⟩
theorem GoW.ret0 {n : Nat} (X : Stand p l e R (s.setVm vm0) m args below meth c T locs cells slots) (hx : p.tables.exec = Jvm.exec) (hlk : meth.locks = false) (hS : s.Since vm0 n) (hk : n ≤ T.heap.size) {pc : Nat} {Ls : Array Slot} (hret : meth.sig.returnType = none) (hd : decode c.code pc = .ok (.return_, 1)) (hQ : Q none T.heap T.vm locs) (hc : cells ≤ ck) (hs : slots ≤ sk) : GoW p e below s Q ck sk (T.setTop (mkF m pc Ls [])) := by
  obtain ⟨fs, hr, hrun, hended, hW⟩ := X.leaveW hS hk (v := none) (fun _ => rfl)
  exact ⟨_, _, X.returnOut hx hret hd hr, hrun, hended, _, _, rfl, hQ, own_endW hW hc hs⟩
theorem own_backS {y : MethodName} {bytes : ByteArray} {maxL : Nat} {ret : Option FieldType} {rm : Room} {len W : Nat} {as' : Array Value} {P : Vm → Prop}
    (hM : MetFree l y (head1 [Cond.code y bytes maxL ret] rm) (fun a U => a = as' ∧ Z.Warmed39 U.vm ∧ U.heap = h ∧ P U.vm) (fun _ _ _ _ _ => True) (fun _ U o U' => ∃ v L, o = .returned v ∧ Q v U'.heap U'.vm L ∧ ReturnedEndW U o U' L rm.cells rm.slots))
    (hZ : Z.Warmed39 s.vm) (wc : (Cond.code y bytes maxL ret).before az Z = true) (wz : (Cond.initialized y.cls).before az Z = true) (hf : rm.frames + 1 ≤ R.frames) (hl : W + (maxL + 11) + rm.locals ≤ R.locals) :
    BackS l R p e below s args y len W (fun A a => a = as' ∧ A.U.heap = h ∧ P A.U.vm ∧ A.cells + rm.cells ≤ R.cells ∧ A.slots + rm.slots ≤ R.slots)
      (fun A _ v B => ∃ L, Q v B.U.heap B.U.vm L ∧ B.locs = A.locs ++ L ∧ B.cells = A.cells + rm.cells ∧ B.slots = A.slots + rm.slots) :=
  BackS.of_freeW (bytes := bytes) (maxL := maxL) (ret := ret) (E := fun _ _ o t L k n => k = rm.cells ∧ n = rm.slots ∧ ∃ v, o = .returned v ∧ Q v t.heap t.vm L) hM hf hl
    (fun m meth c A a Y hp => have hU : Z.Warmed39 A.U.vm := wtrans hZ Y.warmed
      ⟨by show (Cond.and _ .tt).before a A.U = true; rw [Cond.before_and, mv hU wc]; rfl, mv hU wc, mv hU wz, hp.2.2.2.1, hp.2.2.2.2⟩)
    (fun m meth c A a g mk Y hp => ⟨hp.1, wtrans hZ Y.warmed, hp.2.1, hp.2.2.1⟩) (fun _ _ _ _ _ _ _ _ _ => trivial)
    (fun _ _ _ _ ⟨v, L, h1, h2, h3⟩ => ⟨L, _, _, h3, rfl, rfl, v, h1, h2⟩)
    (fun m meth c A a g mk v t L k n Y hp _ _ ⟨e1, e2, v', e3, e4⟩ => by cases e3; subst e1 e2; exact ⟨L, e4, rfl, rfl, rfl⟩)
theorem own_ib {Ts : List String} (I : IB Z vm0 Ts) (hw : (s.setVm vm0).WarmedH vm1) : IB Z vm1 Ts := by
  obtain ⟨more, e, r⟩ := I
  exact ⟨more, (hw.interned_eq).trans e, r⟩
/-- the entry of the pool holds the object a -/
def LitV (Z : State) (vm : Vm) (own : String) (index : Nat) (a : Addr) : Prop := Lit (Z.setVm vm) own index a
theorem LitV.stays {own : String} {index : Nat} {a : Addr} (L : LitV Z vm0 own index a) (hw : (s.setVm vm0).Warmed39 vm1) : LitV Z vm1 own index a := Lit.stays (s := s) (vm0 := vm0) L hw
theorem own_frm {n k : Nat} {L : List Loc} (N : Fr n L) (h : k ≤ n) : Fr k L := fun y hy => Nat.le_trans h (N y hy)
theorem own_keepOld {n : Nat} (O : Old Z n h) : ∀ (b : Addr) (cl : Cell), Z.heap[b]? = some cl → h[b]? = some cl := O.2.2
theorem own_sinceM {n n' : Nat} (h : s.Since vm0 n) (q : n ≤ n') : s.Since vm0 n' := ⟨h.1, fun j p hj hp => ⟨(h.2 j p hj hp).1, Nat.lt_of_lt_of_le (h.2 j p hj hp).2 q⟩⟩
theorem own_chat {EL : List (String × Nat)} (hZ : Z.Warmed39 vm0) (hq : (s.setVm vm0).WarmedH vm1) (w : EW Z az EL) (H : CHv Z EL vm0 h) : CHr Z EL vm0 h vm1 h := by
  have q := CHv.later (h' := h) hZ (hW := (show (Wst Z vm0 h).Warmed39 vm1 from hq.wide)) w ⟨Nat.le_refl _, fun _ _ q => q⟩ (Or.inl hq.interned_eq) H
  exact ⟨q.1, Nat.le_refl _, q.2⟩
theorem own_hk {n : Nat} (eT : T.heap = h) (q : n ≤ h.size) : n ≤ T.heap.size := by rw [eT]; exact q
theorem own_extk {h' : Heap} (K : Keep h h' []) : Ext h h' := ⟨K.1, fun a c q => K.2.1 a c q (List.not_mem_nil)⟩
/-- what a law leaves -/
def LQW (n0 : Nat) (v : Option Value) (h : Heap) (vm : Vm) (L : List Loc) : Prop := v = some (.int 1) ∧ Fr n0 L
end OwnWide
theorem own_EW {Z : State} {az : Array Value} (hw : ∀ d ∈ tables_1, d.before az Z = true) : EW Z az consts_1 := (EW.cons (text := "") (hw _ (List.mem_of_getElem? (i := 34) rfl)) (by decide) EW.nil)
theorem own_wS {Z : State} {az : Array Value} (hw : ∀ d ∈ tables_1, d.before az Z = true) : ∀ d ∈ Bundle.stringAtoms, d.before az Z = true := by
  intro d hd
  simp only [Bundle.stringAtoms, Bundle.sN, List.mem_cons, List.not_mem_nil, or_false] at hd
  rcases hd with rfl | rfl | rfl | rfl | rfl | rfl | rfl
  · exact (hw _ (List.mem_of_getElem? (i := 6) rfl))
  · exact (hw _ (List.mem_of_getElem? (i := 5) rfl))
  · exact (hw _ (List.mem_of_getElem? (i := 23) rfl))
  · exact (hw _ (List.mem_of_getElem? (i := 33) rfl))
  · exact (hw _ (List.mem_of_getElem? (i := 31) rfl))
  · exact (hw _ (List.mem_of_getElem? (i := 35) rfl))
  · exact (hw _ (List.mem_of_getElem? (i := 36) rfl))
def PCS (Z : State) (h0 : Heap) (a0 : Addr) (vm : Vm) : Prop := CHv Z consts_1 vm h0 ∧ Safe Z consts_1 vm h0 a0
def Q_in_0 (Z : State) (a0 : Addr) (h0 : Heap) (n0 : Nat) (v : Option Value) (h : Heap) (vm : Vm) (L : List Loc) : Prop := v = none ∧ Fr n0 L ∧ Keep h0 h [a0] ∧ CHv Z consts_1 vm h ∧ Exa Z h a0 "java/lang/String" ∧ Fld Z h a0 "java/lang/String" "coder" "B" (.int 0) ∧ ∃ (b : Addr) (k : ClassId), Fld Z h a0 "java/lang/String" "value" "[B" (.ref b) ∧ Arv Z h b k .byte 0 [] (.int 0)
set_option maxRecDepth 65536 in
set_option maxHeartbeats 4000000 in
theorem rmI5_0 (l : Launch) (Z : State) (az : Array Value) (hw : ∀ d ∈ tables_1, d.before az Z = true) (ws : List Jvm.Cond) (a0 : Addr) (a1 : Addr) (p2 : Int32) (p3 : Int32) (k1 : ClassId) (h0 : Heap) (n0 : Nat) (Z0 : n0 ≤ h0.size) (E_a0 : Exa Z h0 a0 "java/lang/String") (F_coder : Fld Z h0 a0 "java/lang/String" "coder" "B" (.int 0)) (F_value : Fld Z h0 a0 "java/lang/String" "value" "[B" .null) (g_a0 : n0 ≤ a0) (ne : a0 ≠ a1) (V_a1 : Arv Z h0 a1 k1 .char 0 [] (.int 0)) (h2 : p2 = 0) (h3 : p3 = 0) :
    MetFree l (⟨"java/lang/String", "<init>", "([CIILjava/lang/Void;)V"⟩ : MethodName) (head1 (Jvm.Cond.code (⟨"java/lang/String", "<init>", "([CIILjava/lang/Void;)V"⟩ : MethodName) jdk_42_method_149_code 6 none :: ws) ({ frames := 1, cells := 2, slots := 4, locals := 12 } : Room)) (fun a U => a = #[(.ref a0), (.ref a1), (.int p2), (.int p3), .null] ∧ Z.Warmed39 U.vm ∧ U.heap = h0 ∧ (PCS Z h0 a0) U.vm) (fun _ _ _ _ _ => True) (fun _ U o U' => ∃ v L, o = .returned v ∧ (Q_in_0 Z a0 h0 n0) v U'.heap U'.vm L ∧ ReturnedEndW U o U' L ({ frames := 1, cells := 2, slots := 4, locals := 12 } : Room).cells ({ frames := 1, cells := 2, slots := 4, locals := 12 } : Room).slots) := by
  refine MetFree.of_bodySF (plainFor_of_name pn_1) hisR ?_
  intro p e s m args below meth c s₁ Bd hml0 hP hK
  obtain ⟨rfl, hZ, hh, Hc, Sf⟩ := hP
  have hx := Bd.exec
  have hby := Bd.bytes
  have hlk : meth.locks = false := Bd.notSynchronized
  have hml : c.maxLocals = 6 := hml0
  have hown : s.vm.findClass "java/lang/String" = some m.cls := findClass_of_methodNamed Bd.named
  have hnm := (name_of_methodNamed Bd.named Bd.method).1
  have X0 : Stand p l e ({ frames := 1, cells := 2, slots := 4, locals := 12 } : Room) s m #[(.ref a0), (.ref a1), (.int p2), (.int p3), .null] below meth c s₁ [] 0 0 := Stand.of_body Bd
  have X0 : Stand p l e ({ frames := 1, cells := 2, slots := 4, locals := 12 } : Room) (s.setVm s.vm) m #[(.ref a0), (.ref a1), (.int p2), (.int p3), .null] below meth c s₁ [] 0 0 := X0
  have e0 : s₁.heap = h0 := by rw [← hh, Bd.state]; rfl
  have hS : s.Since s.vm n0 := (State.WarmedH.refl s).since n0
  have hk : n0 ≤ h0.size := Z0
  have N0 := Fr.nil n0
  show GoW p e below s ((Q_in_0 Z a0 h0 n0)) ({ frames := 1, cells := 2, slots := 4, locals := 12 } : Room).cells ({ frames := 1, cells := 2, slots := 4, locals := 12 } : Room).slots (s₁.setTop (entryFrame m #[(.ref a0), (.ref a1), (.int p2), (.int p3), .null] 6))
  rw [ef_3n4 m a0 a1 p2 p3]
  subst h2 h3
  refine GoW.st (S' := s₁.setTop (mkF m 1 #[.val (.ref a0), .val (.ref a1), .val (.int (0 : Int32)), .val (.int (0 : Int32)), .val .null, .unset] [(.ref a0)])) (fun _ kk => XS.aloadN X0.here hx rfl (hb hby d3_0) rfl rfl kk) ?_
  obtain ⟨T1, X1, e1, st1⟩ := initO X0 hx hZ hown (hw _ (List.mem_of_getElem? (i := 15) rfl)) (hw _ (List.mem_of_getElem? (i := 16) rfl)) (hw _ (List.mem_of_getElem? (i := 17) rfl)) e0 (g := (mkF m 1 #[.val (.ref a0), .val (.ref a1), .val (.int (0 : Int32)), .val (.int (0 : Int32)), .val .null, .unset] [(.ref a0)])) rfl (by rw [hml]; rfl) rfl (hb hby d3_1) (by decide) (W := 0) (by show 2 * 0 + _ ≤ _; exact Nat.le_of_eq rfl) (by decide)
  refine GoW.st (S' := T1.setTop (mkF m 4 #[.val (.ref a0), .val (.ref a1), .val (.int (0 : Int32)), .val (.int (0 : Int32)), .val .null, .unset] [])) st1 ?_
  refine GoW.st (S' := T1.setTop (mkF m 5 #[.val (.ref a0), .val (.ref a1), .val (.int (0 : Int32)), .val (.int (0 : Int32)), .val .null, .unset] [(.int (0 : Int32))])) (fun _ kk => XS.iloadN X1.here hx rfl (hb hby d3_4) rfl kk) ?_
  refine GoW.st (S' := T1.setTop (mkF m 8 #[.val (.ref a0), .val (.ref a1), .val (.int (0 : Int32)), .val (.int (0 : Int32)), .val .null, .unset] [])) (fun _ kk => XS.ifNo X1.here hx rfl (hb hby d3_5) rfl ((if0 _ _).trans (teq (by decide : (0 : Int32) = (0 : Int32))).2) kk) ?_
  refine GoW.st (S' := T1.setTop (mkF m 9 #[.val (.ref a0), .val (.ref a1), .val (.int (0 : Int32)), .val (.int (0 : Int32)), .val .null, .unset] [(.ref a0)])) (fun _ kk => XS.aloadN X1.here hx rfl (hb hby d3_8) rfl rfl kk) ?_
  obtain ⟨b2, T2, h2, k2, v2, c2, X2, e2, E2, hS2, hk2, hZ2, ho2, E_b2, FC_b2, FV_b2, V_v2, -, -, Cr2, Li_b2, Sn2, st2⟩ := ldcCH (s := s.setVm s.vm) (vm0 := s.vm) X1 hx hZ hown (hw _ (List.mem_of_getElem? (i := 34) rfl)) (own_wS hw) e1 ((State.WarmedH.refl _).since _) (Nat.le_refl _) (own_EW hw) (List.mem_of_getElem? (i := 0) rfl) Hc (vs := ([] : List Int32).map .int) (z := (0 : Int32)) ⟨by decide, by decide⟩ (by decide) (by decide) (g := (mkF m 9 #[.val (.ref a0), .val (.ref a1), .val (.int (0 : Int32)), .val (.int (0 : Int32)), .val .null, .unset] [(.ref a0)])) rfl (hb hby d3_9) (n := 0) (by decide) (by decide) (by decide : 0 + 2 ≤ _) (by decide : 0 + 4 ≤ _)
  have X2 : Stand p l e _ (s.setVm T2.vm) m _ below meth c T2 _ _ _ := X2
  have Li_b2 : LitV Z T2.vm "java/lang/String" 7 b2 := Li_b2
  have Sf := CHr.safe Cr2 E_a0.lt Sf
  have ne_a0_b2 := (Sn2 _ Sf).1
  have ne_a0_v2 := (Sn2 _ Sf).2
  have Hc := Cr2.1
  have E_a0 := E_a0.ext E2
  have F_coder := F_coder.ext E2
  have F_value := F_value.ext E2
  have V_a1 := V_a1.ext E2
  have Zs3 := Nat.le_trans Z0 E2.1
  have hk := Nat.le_trans hk E2.1
  have Kp4 := (Keep.refl h0 [a0]).ext E2
  have hS := hS.trans (own_sinceM hS2 hk2) hk
  have hk := Nat.le_refl h2.size
  have hZ := hZ2
  have hown := ho2
  refine GoW.st (S' := T2.setTop (mkF m 11 #[.val (.ref a0), .val (.ref a1), .val (.int (0 : Int32)), .val (.int (0 : Int32)), .val .null, .unset] [(.ref b2), (.ref a0)])) st2 ?_
  obtain ⟨T5, X5, e5, st5⟩ := getF X2 hx hZ hown (host := "") (Or.inl (hw _ (List.mem_of_getElem? (i := 32) rfl))) Via.refl e2 FV_b2 (g := (mkF m 11 #[.val (.ref a0), .val (.ref a1), .val (.int (0 : Int32)), .val (.int (0 : Int32)), .val .null, .unset] [(.ref b2), (.ref a0)])) rfl rfl (hb hby d3_11)
  refine GoW.st (S' := T5.setTop (mkF m 14 #[.val (.ref a0), .val (.ref a1), .val (.int (0 : Int32)), .val (.int (0 : Int32)), .val .null, .unset] [(.ref v2), (.ref a0)])) st5 ?_
  obtain ⟨T6, h6, X6, e6, W6, st6⟩ := putF X5 hx hZ hown (host := "") (Or.inl (hw _ (List.mem_of_getElem? (i := 32) rfl))) Via.refl e5 F_value E_a0 (Or.inr ⟨(hw _ (List.mem_of_getElem? (i := 33) rfl)), rfl, hnm⟩) (hw _ (List.mem_of_getElem? (i := 5) rfl)) (ty := (.array .byte)) (by decide) rfl rfl (g := (mkF m 14 #[.val (.ref a0), .val (.ref a1), .val (.int (0 : Int32)), .val (.int (0 : Int32)), .val .null, .unset] [(.ref v2), (.ref a0)])) rfl rfl (hb hby d3_14)
  have N6 := Fr.snoc X6 N0 g_a0
  have F_value := F_value.same W6
  have Sf' := Safe.wr W6 Sf Hc Sf
  have Hc := CHv.wr W6 Sf Hc
  have Sf := Sf'
  have E_a0 := E_a0.wr W6
  have F_coder := F_coder.other W6 (Or.inr (slot_ne (Or.inr (hw _ (List.mem_of_getElem? (i := 31) rfl))) (Or.inr (hw _ (List.mem_of_getElem? (i := 33) rfl))) (by decide) (t := .byte) (t' := (.array .byte)) (by decide) (by decide)))
  have V_a1 := V_a1.other W6 (Ne.symm ne)
  have E_b2 := E_b2.wr W6
  have FC_b2 := FC_b2.other W6 (Or.inl (Ne.symm ne_a0_b2))
  have FV_b2 := FV_b2.other W6 (Or.inl (Ne.symm ne_a0_b2))
  have V_v2 := V_v2.other W6 (Ne.symm ne_a0_v2)
  have Zs7 := Nat.le_trans Zs3 (Keep.of_wr W6).1
  have hk := Nat.le_trans hk (Keep.of_wr W6).1
  have Kp8 := Kp4.wr W6 (Or.inl (List.mem_of_getElem? (i := 0) rfl))
  refine GoW.st (S' := T6.setTop (mkF m 17 #[.val (.ref a0), .val (.ref a1), .val (.int (0 : Int32)), .val (.int (0 : Int32)), .val .null, .unset] [])) st6 ?_
  refine GoW.st (S' := T6.setTop (mkF m 18 #[.val (.ref a0), .val (.ref a1), .val (.int (0 : Int32)), .val (.int (0 : Int32)), .val .null, .unset] [(.ref a0)])) (fun _ kk => XS.aloadN X6.here hx rfl (hb hby d3_17) rfl rfl kk) ?_
  refine GoW.st (S' := T6.setTop (mkF m 20 #[.val (.ref a0), .val (.ref a1), .val (.int (0 : Int32)), .val (.int (0 : Int32)), .val .null, .unset] [(.ref b2), (.ref a0)])) (fun _ kk => ldcAgain X6 hx hZ hown (hw _ (List.mem_of_getElem? (i := 34) rfl)) Li_b2 (g := (mkF m 18 #[.val (.ref a0), .val (.ref a1), .val (.int (0 : Int32)), .val (.int (0 : Int32)), .val .null, .unset] [(.ref a0)])) rfl (hb hby d3_18) _ kk) ?_
  obtain ⟨T9, X9, e9, st9⟩ := getF X6 hx hZ hown (host := "") (Or.inl (hw _ (List.mem_of_getElem? (i := 30) rfl))) Via.refl e6 FC_b2 (g := (mkF m 20 #[.val (.ref a0), .val (.ref a1), .val (.int (0 : Int32)), .val (.int (0 : Int32)), .val .null, .unset] [(.ref b2), (.ref a0)])) rfl rfl (hb hby d3_20)
  refine GoW.st (S' := T9.setTop (mkF m 23 #[.val (.ref a0), .val (.ref a1), .val (.int (0 : Int32)), .val (.int (0 : Int32)), .val .null, .unset] [(.int (0 : Int32)), (.ref a0)])) st9 ?_
  obtain ⟨T10, h10, X10, e10, W10, st10⟩ := putFN X9 hx hZ hown (hw _ (List.mem_of_getElem? (i := 30) rfl)) Via.refl e9 F_coder E_a0 (Or.inr ⟨(hw _ (List.mem_of_getElem? (i := 31) rfl)), rfl, hnm⟩) (hw _ (List.mem_of_getElem? (i := 5) rfl)) (ty := .byte) (v' := .int (nar .byte (0 : Int32))) (by decide) rfl (fits_nar_byte _) (g := (mkF m 23 #[.val (.ref a0), .val (.ref a1), .val (.int (0 : Int32)), .val (.int (0 : Int32)), .val .null, .unset] [(.int (0 : Int32)), (.ref a0)])) rfl rfl (hb hby d3_23)
  have N10 := Fr.snoc X10 N6 g_a0
  have F_coder := F_coder.same W10
  have Sf' := Safe.wr W10 Sf Hc Sf
  have Hc := CHv.wr W10 Sf Hc
  have Sf := Sf'
  have E_a0 := E_a0.wr W10
  have F_value := F_value.other W10 (Or.inr (slot_ne (Or.inr (hw _ (List.mem_of_getElem? (i := 33) rfl))) (Or.inr (hw _ (List.mem_of_getElem? (i := 31) rfl))) (by decide) (t := (.array .byte)) (t' := .byte) (by decide) (by decide)))
  have V_a1 := V_a1.other W10 (Ne.symm ne)
  have E_b2 := E_b2.wr W10
  have FC_b2 := FC_b2.other W10 (Or.inl (Ne.symm ne_a0_b2))
  have FV_b2 := FV_b2.other W10 (Or.inl (Ne.symm ne_a0_b2))
  have V_v2 := V_v2.other W10 (Ne.symm ne_a0_v2)
  have Zs11 := Nat.le_trans Zs7 (Keep.of_wr W10).1
  have hk := Nat.le_trans hk (Keep.of_wr W10).1
  have Kp12 := Kp8.wr W10 (Or.inl (List.mem_of_getElem? (i := 0) rfl))
  refine GoW.st (S' := T10.setTop (mkF m 26 #[.val (.ref a0), .val (.ref a1), .val (.int (0 : Int32)), .val (.int (0 : Int32)), .val .null, .unset] [])) st10 ?_
  exact GoW.ret0 X10 hx hlk hS (own_hk e10 hk) Bd.returns (hb hby d3_26) (by rw [e10]; exact ⟨rfl, N10, Kp12, (own_chat hZ X10.warmed (own_EW hw) Hc).1, E_a0, F_coder, _, _, F_value, V_v2⟩) (by decide) (by decide)
set_option maxRecDepth 65536 in
set_option maxHeartbeats 4000000 in
theorem rmI1_0 (l : Launch) (Z : State) (az : Array Value) (hw : ∀ d ∈ tables_1, d.before az Z = true) (ws : List Jvm.Cond) (a0 : Addr) (a1 : Addr) (k1 : ClassId) (h0 : Heap) (n0 : Nat) (Z0 : n0 ≤ h0.size) (E_a0 : Exa Z h0 a0 "java/lang/String") (F_coder : Fld Z h0 a0 "java/lang/String" "coder" "B" (.int 0)) (F_value : Fld Z h0 a0 "java/lang/String" "value" "[B" .null) (g_a0 : n0 ≤ a0) (ne : a0 ≠ a1) (V_a1 : Arv Z h0 a1 k1 .char 0 [] (.int 0)) :
    MetFree l (⟨"java/lang/String", "<init>", "([C)V"⟩ : MethodName) (head1 (Jvm.Cond.code (⟨"java/lang/String", "<init>", "([C)V"⟩ : MethodName) jdk_42_method_3_code 2 none :: ws) ({ frames := 2, cells := 2, slots := 4, locals := 29 } : Room)) (fun a U => a = #[(.ref a0), (.ref a1)] ∧ Z.Warmed39 U.vm ∧ U.heap = h0 ∧ (PCS Z h0 a0) U.vm) (fun _ _ _ _ _ => True) (fun _ U o U' => ∃ v L, o = .returned v ∧ (Q_in_0 Z a0 h0 n0) v U'.heap U'.vm L ∧ ReturnedEndW U o U' L ({ frames := 2, cells := 2, slots := 4, locals := 29 } : Room).cells ({ frames := 2, cells := 2, slots := 4, locals := 29 } : Room).slots) := by
  refine MetFree.of_bodySF (plainFor_of_name pn_1) hisR ?_
  intro p e s m args below meth c s₁ Bd hml0 hP hK
  obtain ⟨rfl, hZ, hh, Hc, Sf⟩ := hP
  have hx := Bd.exec
  have hby := Bd.bytes
  have hlk : meth.locks = false := Bd.notSynchronized
  have hml : c.maxLocals = 2 := hml0
  have hown : s.vm.findClass "java/lang/String" = some m.cls := findClass_of_methodNamed Bd.named
  have hnm := (name_of_methodNamed Bd.named Bd.method).1
  have X0 : Stand p l e ({ frames := 2, cells := 2, slots := 4, locals := 29 } : Room) s m #[(.ref a0), (.ref a1)] below meth c s₁ [] 0 0 := Stand.of_body Bd
  have X0 : Stand p l e ({ frames := 2, cells := 2, slots := 4, locals := 29 } : Room) (s.setVm s.vm) m #[(.ref a0), (.ref a1)] below meth c s₁ [] 0 0 := X0
  have e0 : s₁.heap = h0 := by rw [← hh, Bd.state]; rfl
  have hS : s.Since s.vm n0 := (State.WarmedH.refl s).since n0
  have hk : n0 ≤ h0.size := Z0
  have N0 := Fr.nil n0
  show GoW p e below s ((Q_in_0 Z a0 h0 n0)) ({ frames := 2, cells := 2, slots := 4, locals := 29 } : Room).cells ({ frames := 2, cells := 2, slots := 4, locals := 29 } : Room).slots (s₁.setTop (entryFrame m #[(.ref a0), (.ref a1)] 2))
  rw [ef_2 m a0 a1]
  refine GoW.st (S' := s₁.setTop (mkF m 1 #[.val (.ref a0), .val (.ref a1)] [(.ref a0)])) (fun _ kk => XS.aloadN X0.here hx rfl (hb hby d2_0) rfl rfl kk) ?_
  refine GoW.st (S' := s₁.setTop (mkF m 2 #[.val (.ref a0), .val (.ref a1)] [(.ref a1), (.ref a0)])) (fun _ kk => XS.aloadN X0.here hx rfl (hb hby d2_1) rfl rfl kk) ?_
  refine GoW.st (S' := s₁.setTop (mkF m 3 #[.val (.ref a0), .val (.ref a1)] [(.int (0 : Int32)), (.ref a1), (.ref a0)])) (fun _ kk => XS.iconst X0.here hx rfl (hb hby d2_2) kk) ?_
  refine GoW.st (S' := s₁.setTop (mkF m 4 #[.val (.ref a0), .val (.ref a1)] [(.ref a1), (.int (0 : Int32)), (.ref a1), (.ref a0)])) (fun _ kk => XS.aloadN X0.here hx rfl (hb hby d2_3) rfl rfl kk) ?_
  obtain ⟨cl1, Ar1, -, S1, Ng1, -, -⟩ := (id V_a1)
  refine GoW.st (S' := s₁.setTop (mkF m 5 #[.val (.ref a0), .val (.ref a1)] [(.int (0 : Int32)), (.int (0 : Int32)), (.ref a1), (.ref a0)])) (fun _ kk => X0.arraylength hx (by rw [e0]; exact Ar1.1) (State.isArrayOf_alike hZ.alike Ar1.2.1) (g := (mkF m 4 #[.val (.ref a0), .val (.ref a1)] [(.ref a1), (.int (0 : Int32)), (.ref a1), (.ref a0)])) rfl rfl (hb hby d2_4) _ (by rw [len_of S1 Ng1]; exact kk)) ?_
  refine GoW.st (S' := s₁.setTop (mkF m 6 #[.val (.ref a0), .val (.ref a1)] [.null, (.int (0 : Int32)), (.int (0 : Int32)), (.ref a1), (.ref a0)])) (fun _ kk => XS.aconstNull X0.here hx rfl (hb hby d2_5) kk) ?_
  obtain ⟨_, _, ⟨T2, L2, k2, n2⟩, -, X2, hS2, hg2, ⟨Lc2, hQ2, l2, y2, z2⟩, st2⟩ := X0.specialBackS hx (y := (⟨"java/lang/String", "<init>", "([CIILjava/lang/Void;)V"⟩ : MethodName)) rfl hown (mvT hZ (hw _ (List.mem_of_getElem? (i := 11) rfl))) (mvT hZ (hw _ (List.mem_of_getElem? (i := 12) rfl))) (mvT hZ (hw _ (List.mem_of_getElem? (i := 14) rfl))) (by decide) (own_backS (W := 0) (P := PCS Z h0 a0) (rmI5_0 l Z az hw [] a0 a1 (0 : Int32) (0 : Int32) k1 h0 n0 Z0 E_a0 F_coder F_value g_a0 ne V_a1 rfl rfl) hZ (hw _ (List.mem_of_getElem? (i := 14) rfl)) (hw _ (List.mem_of_getElem? (i := 6) rfl)) (by decide) (by decide)) (g := (mkF m 6 #[.val (.ref a0), .val (.ref a1)] [.null, (.int (0 : Int32)), (.int (0 : Int32)), (.ref a1), (.ref a0)])) rfl (by rw [hml]; rfl) (Steps.refl _) (a := a0) (argsL := [(.ref a1), (.int (0 : Int32)), (.int (0 : Int32)), .null]) (rest := []) (lenOf pd_2 rfl) rfl (by show 2 * 0 + _ ≤ _; exact Nat.le_of_eq rfl) (hb hby d2_6) (fun vmq hvq => ⟨rfl, e0, ⟨(own_chat hZ hvq (own_EW hw) Hc).1, (own_chat hZ hvq (own_EW hw) Hc).safe E_a0.lt Sf⟩, (by decide : 0 + 2 ≤ _), (by decide : 0 + 4 ≤ _)⟩)
  dsimp only [Pt.U, Pt.locs, Pt.cells, Pt.slots] at X2 l2 y2 z2 st2 hQ2 hS2 hg2
  subst l2 y2 z2
  obtain ⟨X2, hS, hZ, hown⟩ := rebS hS (own_hk e0 hk) X2 hS2 hg2 hZ hown
  obtain ⟨rfl, N2q, K2, Hc2, Ec2, Fc2, d2, kd2, Fv2, V_d2⟩ := hQ2
  have N2 := Fr.app N0 N2q
  have E_a0 := E_a0.keep K2
  have V_a1 := V_a1.keep K2 (ninS (Ne.symm ne) nin0)
  have Zs3 := Nat.le_trans Z0 K2.1
  have hk := Nat.le_trans hk K2.1
  have Kp4 := (Keep.refl h0 [a0]).trans K2 (allS (Or.inl (List.mem_of_getElem? (i := 0) rfl)) all0)
  have Hc := Hc2
  have hk : T2.heap.size ≤ (T2.heap).size := Nat.le_of_eq (congrArg Array.size (show T2.heap = T2.heap from rfl))
  refine GoW.tr (S' := T2.setTop (mkF m 9 #[.val (.ref a0), .val (.ref a1)] [])) st2 ?_
  exact GoW.ret0 X2 hx hlk hS (own_hk rfl hk) Bd.returns (hb hby d2_9) (by exact ⟨rfl, N2, Kp4, (own_chat hZ X2.warmed (own_EW hw) Hc).1, Ec2, Fc2, _, _, Fv2, V_d2⟩) (by decide) (by decide)
def own_mk (p0 p1 p2 p3 : Int32) : List Int32 := if p0 = (0 : Int32) then [] else if p0 = (1 : Int32) then [(((p1.toUInt32.toUInt16.toUInt32.toInt32).toInt8.toInt32).toInt8.toInt32)] else if p0 = (2 : Int32) then [(((p1.toUInt32.toUInt16.toUInt32.toInt32).toInt8.toInt32).toInt8.toInt32), (((p2.toUInt32.toUInt16.toUInt32.toInt32).toInt8.toInt32).toInt8.toInt32)] else [(((p1.toUInt32.toUInt16.toUInt32.toInt32).toInt8.toInt32).toInt8.toInt32), (((p2.toUInt32.toUInt16.toUInt32.toInt32).toInt8.toInt32).toInt8.toInt32), (((p3.toUInt32.toUInt16.toUInt32.toInt32).toInt8.toInt32).toInt8.toInt32)]
def PCH (Z : State) (h0 : Heap) (vm : Vm) : Prop := CHv Z consts_1 vm h0
def Q_mk (Z : State) (p0 p1 p2 p3 : Int32) (h0 : Heap) (n0 : Nat) (v : Option Value) (h : Heap) (vm : Vm) (L : List Loc) : Prop := ∃ (sa d : Addr) (k : ClassId) (z : Int32), v = some (.ref sa) ∧ Fr n0 L ∧ Ext h0 h ∧ CHv Z consts_1 vm h ∧ Exa Z h sa "java/lang/String" ∧ Fld Z h sa "java/lang/String" "coder" "B" (.int 0) ∧ Fld Z h sa "java/lang/String" "value" "[B" (.ref d) ∧ Arv Z h d k .byte z ((own_mk p0 p1 p2 p3).map .int) (.int 0) ∧ z.toNatClampNeg = (own_mk p0 p1 p2 p3).length
theorem d1_0 : decode method_2_code 0 = .ok (.iload_n 0, 1) := by decide +kernel
theorem d1_1 : decode method_2_code 1 = .ok (.ifCond .ne 14, 3) := by decide +kernel
theorem d1_4 : decode method_2_code 4 = .ok (.new 7, 3) := by decide +kernel
theorem d1_7 : decode method_2_code 7 = .ok (.dup, 1) := by decide +kernel
theorem d1_8 : decode method_2_code 8 = .ok (.iconst 0, 1) := by decide +kernel
theorem d1_9 : decode method_2_code 9 = .ok (.newarray .char, 2) := by decide +kernel
theorem d1_11 : decode method_2_code 11 = .ok (.invokespecial 9, 3) := by decide +kernel
theorem d1_14 : decode method_2_code 14 = .ok (.areturn, 1) := by decide +kernel
theorem d1_15 : decode method_2_code 15 = .ok (.iload_n 0, 1) := by decide +kernel
theorem d1_16 : decode method_2_code 16 = .ok (.iconst 1, 1) := by decide +kernel
theorem d1_17 : decode method_2_code 17 = .ok (.if_icmp .ne 18, 3) := by decide +kernel
theorem d1_20 : decode method_2_code 20 = .ok (.new 7, 3) := by decide +kernel
theorem d1_23 : decode method_2_code 23 = .ok (.dup, 1) := by decide +kernel
theorem d1_24 : decode method_2_code 24 = .ok (.iconst 1, 1) := by decide +kernel
theorem d1_25 : decode method_2_code 25 = .ok (.newarray .char, 2) := by decide +kernel
theorem d1_27 : decode method_2_code 27 = .ok (.dup, 1) := by decide +kernel
theorem d1_28 : decode method_2_code 28 = .ok (.iconst 0, 1) := by decide +kernel
theorem d1_29 : decode method_2_code 29 = .ok (.iload_n 1, 1) := by decide +kernel
theorem d1_30 : decode method_2_code 30 = .ok (.castore, 1) := by decide +kernel
theorem d1_31 : decode method_2_code 31 = .ok (.invokespecial 9, 3) := by decide +kernel
theorem d1_34 : decode method_2_code 34 = .ok (.areturn, 1) := by decide +kernel
theorem d1_35 : decode method_2_code 35 = .ok (.iload_n 0, 1) := by decide +kernel
theorem d1_36 : decode method_2_code 36 = .ok (.iconst 2, 1) := by decide +kernel
theorem d1_37 : decode method_2_code 37 = .ok (.if_icmp .ne 22, 3) := by decide +kernel
theorem d1_40 : decode method_2_code 40 = .ok (.new 7, 3) := by decide +kernel
theorem d1_43 : decode method_2_code 43 = .ok (.dup, 1) := by decide +kernel
theorem d1_44 : decode method_2_code 44 = .ok (.iconst 2, 1) := by decide +kernel
theorem d1_45 : decode method_2_code 45 = .ok (.newarray .char, 2) := by decide +kernel
theorem d1_47 : decode method_2_code 47 = .ok (.dup, 1) := by decide +kernel
theorem d1_48 : decode method_2_code 48 = .ok (.iconst 0, 1) := by decide +kernel
theorem d1_49 : decode method_2_code 49 = .ok (.iload_n 1, 1) := by decide +kernel
theorem d1_50 : decode method_2_code 50 = .ok (.castore, 1) := by decide +kernel
theorem d1_51 : decode method_2_code 51 = .ok (.dup, 1) := by decide +kernel
theorem d1_52 : decode method_2_code 52 = .ok (.iconst 1, 1) := by decide +kernel
theorem d1_53 : decode method_2_code 53 = .ok (.iload_n 2, 1) := by decide +kernel
theorem d1_54 : decode method_2_code 54 = .ok (.castore, 1) := by decide +kernel
theorem d1_55 : decode method_2_code 55 = .ok (.invokespecial 9, 3) := by decide +kernel
theorem d1_58 : decode method_2_code 58 = .ok (.areturn, 1) := by decide +kernel
theorem d1_59 : decode method_2_code 59 = .ok (.new 7, 3) := by decide +kernel
theorem d1_62 : decode method_2_code 62 = .ok (.dup, 1) := by decide +kernel
theorem d1_63 : decode method_2_code 63 = .ok (.iconst 3, 1) := by decide +kernel
theorem d1_64 : decode method_2_code 64 = .ok (.newarray .char, 2) := by decide +kernel
theorem d1_66 : decode method_2_code 66 = .ok (.dup, 1) := by decide +kernel
theorem d1_67 : decode method_2_code 67 = .ok (.iconst 0, 1) := by decide +kernel
theorem d1_68 : decode method_2_code 68 = .ok (.iload_n 1, 1) := by decide +kernel
theorem d1_69 : decode method_2_code 69 = .ok (.castore, 1) := by decide +kernel
theorem d1_70 : decode method_2_code 70 = .ok (.dup, 1) := by decide +kernel
theorem d1_71 : decode method_2_code 71 = .ok (.iconst 1, 1) := by decide +kernel
theorem d1_72 : decode method_2_code 72 = .ok (.iload_n 2, 1) := by decide +kernel
theorem d1_73 : decode method_2_code 73 = .ok (.castore, 1) := by decide +kernel
theorem d1_74 : decode method_2_code 74 = .ok (.dup, 1) := by decide +kernel
theorem d1_75 : decode method_2_code 75 = .ok (.iconst 2, 1) := by decide +kernel
theorem d1_76 : decode method_2_code 76 = .ok (.iload_n 3, 1) := by decide +kernel
theorem d1_77 : decode method_2_code 77 = .ok (.castore, 1) := by decide +kernel
theorem d1_78 : decode method_2_code 78 = .ok (.invokespecial 9, 3) := by decide +kernel
theorem d1_81 : decode method_2_code 81 = .ok (.areturn, 1) := by decide +kernel
theorem pn_3 : plainName "com/example/patient_snoop/patientsnoop/io/TokenIsNamePinLaw" = true := by first | (simp [plainName, overriddenIn]; done) | decide +kernel
theorem ef_1 (m : MethodId) (p0 : Int32) (p1 : Int32) (p2 : Int32) (p3 : Int32) : entryFrame m #[(.int p0), (.int p1), (.int p2), (.int p3)] 4 = mkF m 0 #[.val (.int p0), .val (.int p1), .val (.int p2), .val (.int p3)] [] := by first | (simp [entryFrame, mkF, argsToLocals, Value.category]; done) | rfl
set_option maxRecDepth 65536 in
set_option maxHeartbeats 4000000 in
theorem rmMk (l : Launch) (Z : State) (az : Array Value) (hw : ∀ d ∈ tables_1, d.before az Z = true) (ws : List Jvm.Cond) (p0 : Int32) (p1 : Int32) (p2 : Int32) (p3 : Int32) (zc : Int32) (h0 : Heap) (n0 : Nat) (Z0 : n0 ≤ h0.size) (S_C : Sta Z h0 "java/lang/String" "COMPACT_STRINGS" "Z" (.int zc)) (hzc : ¬ zc = 0) (u1 : ¬ (255 : Int32) < (p1.toUInt32.toUInt16.toUInt32.toInt32)) (u2 : ¬ (255 : Int32) < (p2.toUInt32.toUInt16.toUInt32.toInt32)) (u3 : ¬ (255 : Int32) < (p3.toUInt32.toUInt16.toUInt32.toInt32)) :
    MetFree l (⟨"com/example/patient_snoop/patientsnoop/io/TokenIsNamePinLaw", "mk", "(ICCC)Ljava/lang/String;"⟩ : MethodName) (head1 (Jvm.Cond.code (⟨"com/example/patient_snoop/patientsnoop/io/TokenIsNamePinLaw", "mk", "(ICCC)Ljava/lang/String;"⟩ : MethodName) method_2_code 4 (some (.object "java/lang/String")) :: ws) ({ frames := 4, cells := 4, slots := 10, locals := 66 } : Room)) (fun a U => a = #[(.int p0), (.int p1), (.int p2), (.int p3)] ∧ Z.Warmed39 U.vm ∧ U.heap = h0 ∧ (PCH Z h0) U.vm) (fun _ _ _ _ _ => True) (fun _ U o U' => ∃ v L, o = .returned v ∧ (Q_mk Z p0 p1 p2 p3 h0 n0) v U'.heap U'.vm L ∧ ReturnedEndW U o U' L ({ frames := 4, cells := 4, slots := 10, locals := 66 } : Room).cells ({ frames := 4, cells := 4, slots := 10, locals := 66 } : Room).slots) := by
  refine MetFree.of_bodySF (plainFor_of_name pn_3) hisR ?_
  intro p e s m args below meth c s₁ Bd hml0 hP hK
  obtain ⟨rfl, hZ, hh, Hc⟩ := hP
  have hx := Bd.exec
  have hby := Bd.bytes
  have hlk : meth.locks = false := Bd.notSynchronized
  have hml : c.maxLocals = 4 := hml0
  have hown : s.vm.findClass "com/example/patient_snoop/patientsnoop/io/TokenIsNamePinLaw" = some m.cls := findClass_of_methodNamed Bd.named
  have hnm := (name_of_methodNamed Bd.named Bd.method).1
  have X0 : Stand p l e ({ frames := 4, cells := 4, slots := 10, locals := 66 } : Room) s m #[(.int p0), (.int p1), (.int p2), (.int p3)] below meth c s₁ [] 0 0 := Stand.of_body Bd
  have X0 : Stand p l e ({ frames := 4, cells := 4, slots := 10, locals := 66 } : Room) (s.setVm s.vm) m #[(.int p0), (.int p1), (.int p2), (.int p3)] below meth c s₁ [] 0 0 := X0
  have e0 : s₁.heap = h0 := by rw [← hh, Bd.state]; rfl
  have hS : s.Since s.vm n0 := (State.WarmedH.refl s).since n0
  have hk : n0 ≤ h0.size := Z0
  have N0 := Fr.nil n0
  show GoW p e below s ((Q_mk Z p0 p1 p2 p3 h0 n0)) ({ frames := 4, cells := 4, slots := 10, locals := 66 } : Room).cells ({ frames := 4, cells := 4, slots := 10, locals := 66 } : Room).slots (s₁.setTop (entryFrame m #[(.int p0), (.int p1), (.int p2), (.int p3)] 4))
  rw [ef_1 m p0 p1 p2 p3]
  refine GoW.st (S' := s₁.setTop (mkF m 1 #[.val (.int p0), .val (.int p1), .val (.int p2), .val (.int p3)] [(.int p0)])) (fun _ kk => XS.iloadN X0.here hx rfl (hb hby d1_0) rfl kk) ?_
  by_cases hc1 : p0 = (0 : Int32)
  · refine GoW.st (S' := s₁.setTop (mkF m 4 #[.val (.int p0), .val (.int p1), .val (.int p2), .val (.int p3)] [])) (fun _ kk => XS.ifNo X0.here hx rfl (hb hby d1_1) rfl ((if0 _ _).trans (teq hc1).2) kk) ?_
    obtain ⟨T2, h2, X2, e2, E2, A2, D2, -, st2⟩ := newO X0 hx hZ hown (hw _ (List.mem_of_getElem? (i := 4) rfl)) (hw _ (List.mem_of_getElem? (i := 5) rfl)) (hw _ (List.mem_of_getElem? (i := 6) rfl)) e0 (g := (mkF m 4 #[.val (.int p0), .val (.int p1), .val (.int p2), .val (.int p3)] [])) rfl (hb hby d1_4) (by decide : 0 + 1 ≤ _) (by decide : 0 + 4 ≤ _)
    obtain ⟨b2, g2⟩ : ∃ z, z = h0.size := ⟨_, rfl⟩
    rw [← g2] at A2 D2 st2
    have g_b2 : n0 ≤ b2 := Nat.le_trans Z0 (Nat.le_of_eq g2.symm)
    have Sf_b2 : Safe Z consts_1 s.vm h0 b2 := Safe.new (Nat.le_of_eq g2.symm)
    have sz_b2 : h0.size ≤ b2 := Nat.le_trans (Keep.refl h0 []).1 (Nat.le_of_eq g2.symm)
    have Sf_b2' := Safe.ext E2 Hc Sf_b2
    have Hc := CHv.ext E2 Hc
    have Sf_b2 := Sf_b2'
    have S_C := S_C.ext E2
    have Zs3 := Nat.le_trans Z0 E2.1
    have hk := Nat.le_trans hk E2.1
    have Kp4 := (Keep.refl h0 []).ext E2
    have E_b2 := A2
    have F_coder_b2 : Fld Z h2 b2 "java/lang/String" "coder" "B" (.int (0 : Int32)) := D2 (Or.inr (hw _ (List.mem_of_getElem? (i := 31) rfl))) (ty := .byte) (by decide)
    have F_value_b2 : Fld Z h2 b2 "java/lang/String" "value" "[B" .null := D2 (Or.inr (hw _ (List.mem_of_getElem? (i := 33) rfl))) (ty := (.array .byte)) (by decide)
    refine GoW.st (S' := T2.setTop (mkF m 7 #[.val (.int p0), .val (.int p1), .val (.int p2), .val (.int p3)] [(.ref b2)])) st2 ?_
    refine GoW.st (S' := T2.setTop (mkF m 8 #[.val (.int p0), .val (.int p1), .val (.int p2), .val (.int p3)] [(.ref b2), (.ref b2)])) (fun _ kk => XS.dup X2.here hx rfl (hb hby d1_7) rfl rfl kk) ?_
    refine GoW.st (S' := T2.setTop (mkF m 9 #[.val (.int p0), .val (.int p1), .val (.int p2), .val (.int p3)] [(.int (0 : Int32)), (.ref b2), (.ref b2)])) (fun _ kk => XS.iconst X2.here hx rfl (hb hby d1_8) kk) ?_
    obtain ⟨T5, h5, k5, X5, e5, E5, A5, E_b5, st5⟩ := newPE X2 hx hZ (hw _ (List.mem_of_getElem? (i := 7) rfl)) e2 (g := (mkF m 9 #[.val (.int p0), .val (.int p1), .val (.int p2), .val (.int p3)] [(.int (0 : Int32)), (.ref b2), (.ref b2)])) rfl (hb hby d1_9) rfl (by decide) (cap := 0) (by decide) (by decide) (by decide : 1 + 1 ≤ _) (by decide : 4 + 0 ≤ _) (ad := "[C") rfl
    obtain ⟨b5, g5⟩ : ∃ z, z = h2.size := ⟨_, rfl⟩
    rw [← g5] at A5 E_b5 st5
    have ne_b2_b5 : b2 ≠ b5 := Nat.ne_of_lt (Nat.lt_of_lt_of_le E_b2.lt (Nat.le_of_eq g5.symm))
    have g_b5 : n0 ≤ b5 := Nat.le_trans Zs3 (Nat.le_of_eq g5.symm)
    have Sf_b5 : Safe Z consts_1 s.vm h2 b5 := Safe.new (Nat.le_of_eq g5.symm)
    have sz_b5 : h0.size ≤ b5 := Nat.le_trans Kp4.1 (Nat.le_of_eq g5.symm)
    have Sf_b2' := Safe.ext E5 Hc Sf_b2
    have Sf_b5' := Safe.ext E5 Hc Sf_b5
    have Hc := CHv.ext E5 Hc
    have Sf_b2 := Sf_b2'
    have Sf_b5 := Sf_b5'
    have S_C := S_C.ext E5
    have E_b2 := E_b2.ext E5
    have F_coder_b2 := F_coder_b2.ext E5
    have F_value_b2 := F_value_b2.ext E5
    have Zs6 := Nat.le_trans Zs3 E5.1
    have hk := Nat.le_trans hk E5.1
    have Kp7 := Kp4.ext E5
    have V_b5 : Arv Z h5 b5 k5 .char (0 : Int32) [] (.int (0 : Int32)) := (Arv.new A5 (by decide)).pad (pad_rep [] (.int (0 : Int32)) 0)
    refine GoW.st (S' := T5.setTop (mkF m 11 #[.val (.int p0), .val (.int p1), .val (.int p2), .val (.int p3)] [(.ref b5), (.ref b2), (.ref b2)])) st5 ?_
    obtain ⟨_, _, ⟨T8, L8, k8, n8⟩, -, X8, hS8, hg8, ⟨Lc8, hQ8, l8, y8, z8⟩, st8⟩ := X5.specialBackS hx (y := (⟨"java/lang/String", "<init>", "([C)V"⟩ : MethodName)) rfl hown (mvT hZ (hw _ (List.mem_of_getElem? (i := 8) rfl))) (mvT hZ (hw _ (List.mem_of_getElem? (i := 9) rfl))) (mvT hZ (hw _ (List.mem_of_getElem? (i := 10) rfl))) (by decide) (own_backS (W := 1) (P := PCS Z h5 b2) (rmI1_0 l Z az hw [] b2 b5 k5 h5 n0 Zs6 E_b2 F_coder_b2 F_value_b2 g_b2 ne_b2_b5 V_b5 ) hZ (hw _ (List.mem_of_getElem? (i := 10) rfl)) (hw _ (List.mem_of_getElem? (i := 6) rfl)) (by decide) (by decide)) (g := (mkF m 11 #[.val (.int p0), .val (.int p1), .val (.int p2), .val (.int p3)] [(.ref b5), (.ref b2), (.ref b2)])) rfl (by rw [hml]; rfl) (Steps.refl _) (a := b2) (argsL := [(.ref b5)]) (rest := [(.ref b2)]) (lenOf pd_1 rfl) rfl (by show 2 * 0 + _ ≤ _; exact Nat.le_of_eq rfl) (hb hby d1_11) (fun vmq hvq => ⟨rfl, e5, ⟨(own_chat hZ hvq (own_EW hw) Hc).1, (own_chat hZ hvq (own_EW hw) Hc).safe E_b2.lt Sf_b2⟩, (by decide : 2 + 2 ≤ _), (by decide : 4 + 4 ≤ _)⟩)
    dsimp only [Pt.U, Pt.locs, Pt.cells, Pt.slots] at X8 l8 y8 z8 st8 hQ8 hS8 hg8
    subst l8 y8 z8
    obtain ⟨X8, hS, hZ, hown⟩ := rebS hS (own_hk e5 hk) X8 hS8 hg8 hZ hown
    obtain ⟨rfl, N8q, K8, Hc8, Ec8, Fc8, d8, kd8, Fv8, V_d8⟩ := hQ8
    have N8 := Fr.app N0 N8q
    have S_C := own_stak K8 (allS (P := fun x => ∀ cell : Cell, (h5)[x]? = some cell → cell.vm.isStatics = false) (Exa.nostat E_b2) all0) S_C
    have E_b2 := E_b2.keep K8
    have E_b5 := E_b5.keep K8
    have V_b5 := V_b5.keep K8 (ninS (Ne.symm ne_b2_b5) nin0)
    have Zs9 := Nat.le_trans Zs6 K8.1
    have hk := Nat.le_trans hk K8.1
    have Kp10 := Kp7.trans K8 (allS (Or.inr sz_b2) all0)
    have Hc := Hc8
    have hk : T8.heap.size ≤ (T8.heap).size := Nat.le_of_eq (congrArg Array.size (show T8.heap = T8.heap from rfl))
    refine GoW.tr (S' := T8.setTop (mkF m 14 #[.val (.int p0), .val (.int p1), .val (.int p2), .val (.int p3)] [(.ref b2)])) st8 ?_
    have hm : own_mk p0 p1 p2 p3 = [] := by unfold own_mk; rw [if_pos hc1]
    exact GoW.retA X8 hx hlk hS (own_hk rfl hk) Bd.returns rfl rfl (hb hby d1_14) (by exact ⟨_, _, _, (0 : Int32), rfl, N8, own_extK Kp10, (own_chat hZ X8.warmed (own_EW hw) Hc).1, Ec8, Fc8, Fv8, by rw [hm]; exact V_d8, by rw [hm]; rfl⟩) (by decide) (by decide)
  · refine GoW.st (S' := s₁.setTop (mkF m 15 #[.val (.int p0), .val (.int p1), .val (.int p2), .val (.int p3)] [])) (fun _ kk => XS.ifYes X0.here hx rfl (pc0 := 1) (pc' := 15) rfl (hb hby d1_1) rfl ((if0 _ _).trans (feq hc1).2) (by decide) (by decide) kk) ?_
    refine GoW.st (S' := s₁.setTop (mkF m 16 #[.val (.int p0), .val (.int p1), .val (.int p2), .val (.int p3)] [(.int p0)])) (fun _ kk => XS.iloadN X0.here hx rfl (hb hby d1_15) rfl kk) ?_
    refine GoW.st (S' := s₁.setTop (mkF m 17 #[.val (.int p0), .val (.int p1), .val (.int p2), .val (.int p3)] [(.int (1 : Int32)), (.int p0)])) (fun _ kk => XS.iconst X0.here hx rfl (hb hby d1_16) kk) ?_
    by_cases hc11 : p0 = (1 : Int32)
    · refine GoW.st (S' := s₁.setTop (mkF m 20 #[.val (.int p0), .val (.int p1), .val (.int p2), .val (.int p3)] [])) (fun _ kk => XS.icmpNo X0.here hx rfl (hb hby d1_17) rfl (teq hc11).2 kk) ?_
      obtain ⟨T12, h12, X12, e12, E12, A12, D12, -, st12⟩ := newO X0 hx hZ hown (hw _ (List.mem_of_getElem? (i := 4) rfl)) (hw _ (List.mem_of_getElem? (i := 5) rfl)) (hw _ (List.mem_of_getElem? (i := 6) rfl)) e0 (g := (mkF m 20 #[.val (.int p0), .val (.int p1), .val (.int p2), .val (.int p3)] [])) rfl (hb hby d1_20) (by decide : 0 + 1 ≤ _) (by decide : 0 + 4 ≤ _)
      obtain ⟨b12, g12⟩ : ∃ z, z = h0.size := ⟨_, rfl⟩
      rw [← g12] at A12 D12 st12
      have g_b12 : n0 ≤ b12 := Nat.le_trans Z0 (Nat.le_of_eq g12.symm)
      have Sf_b12 : Safe Z consts_1 s.vm h0 b12 := Safe.new (Nat.le_of_eq g12.symm)
      have sz_b12 : h0.size ≤ b12 := Nat.le_trans (Keep.refl h0 []).1 (Nat.le_of_eq g12.symm)
      have Sf_b12' := Safe.ext E12 Hc Sf_b12
      have Hc := CHv.ext E12 Hc
      have Sf_b12 := Sf_b12'
      have S_C := S_C.ext E12
      have Zs13 := Nat.le_trans Z0 E12.1
      have hk := Nat.le_trans hk E12.1
      have Kp14 := (Keep.refl h0 []).ext E12
      have E_b12 := A12
      have F_coder_b12 : Fld Z h12 b12 "java/lang/String" "coder" "B" (.int (0 : Int32)) := D12 (Or.inr (hw _ (List.mem_of_getElem? (i := 31) rfl))) (ty := .byte) (by decide)
      have F_value_b12 : Fld Z h12 b12 "java/lang/String" "value" "[B" .null := D12 (Or.inr (hw _ (List.mem_of_getElem? (i := 33) rfl))) (ty := (.array .byte)) (by decide)
      refine GoW.st (S' := T12.setTop (mkF m 23 #[.val (.int p0), .val (.int p1), .val (.int p2), .val (.int p3)] [(.ref b12)])) st12 ?_
      refine GoW.st (S' := T12.setTop (mkF m 24 #[.val (.int p0), .val (.int p1), .val (.int p2), .val (.int p3)] [(.ref b12), (.ref b12)])) (fun _ kk => XS.dup X12.here hx rfl (hb hby d1_23) rfl rfl kk) ?_
      refine GoW.st (S' := T12.setTop (mkF m 25 #[.val (.int p0), .val (.int p1), .val (.int p2), .val (.int p3)] [(.int (1 : Int32)), (.ref b12), (.ref b12)])) (fun _ kk => XS.iconst X12.here hx rfl (hb hby d1_24) kk) ?_
      obtain ⟨T15, h15, k15, X15, e15, E15, A15, E_b15, st15⟩ := newPE X12 hx hZ (hw _ (List.mem_of_getElem? (i := 7) rfl)) e12 (g := (mkF m 25 #[.val (.int p0), .val (.int p1), .val (.int p2), .val (.int p3)] [(.int (1 : Int32)), (.ref b12), (.ref b12)])) rfl (hb hby d1_25) rfl (by decide) (cap := 1) (by decide) (by decide) (by decide : 1 + 1 ≤ _) (by decide : 4 + 1 ≤ _) (ad := "[C") rfl
      obtain ⟨b15, g15⟩ : ∃ z, z = h12.size := ⟨_, rfl⟩
      rw [← g15] at A15 E_b15 st15
      have ne_b12_b15 : b12 ≠ b15 := Nat.ne_of_lt (Nat.lt_of_lt_of_le E_b12.lt (Nat.le_of_eq g15.symm))
      have g_b15 : n0 ≤ b15 := Nat.le_trans Zs13 (Nat.le_of_eq g15.symm)
      have Sf_b15 : Safe Z consts_1 s.vm h12 b15 := Safe.new (Nat.le_of_eq g15.symm)
      have sz_b15 : h0.size ≤ b15 := Nat.le_trans Kp14.1 (Nat.le_of_eq g15.symm)
      have Sf_b12' := Safe.ext E15 Hc Sf_b12
      have Sf_b15' := Safe.ext E15 Hc Sf_b15
      have Hc := CHv.ext E15 Hc
      have Sf_b12 := Sf_b12'
      have Sf_b15 := Sf_b15'
      have S_C := S_C.ext E15
      have E_b12 := E_b12.ext E15
      have F_coder_b12 := F_coder_b12.ext E15
      have F_value_b12 := F_value_b12.ext E15
      have Zs16 := Nat.le_trans Zs13 E15.1
      have hk := Nat.le_trans hk E15.1
      have Kp17 := Kp14.ext E15
      have V_b15 : Arv Z h15 b15 k15 .char (1 : Int32) [(.int (0 : Int32))] (.int (0 : Int32)) := (Arv.new A15 (by decide)).pad (pad_rep [] (.int (0 : Int32)) 1)
      refine GoW.st (S' := T15.setTop (mkF m 27 #[.val (.int p0), .val (.int p1), .val (.int p2), .val (.int p3)] [(.ref b15), (.ref b12), (.ref b12)])) st15 ?_
      refine GoW.st (S' := T15.setTop (mkF m 28 #[.val (.int p0), .val (.int p1), .val (.int p2), .val (.int p3)] [(.ref b15), (.ref b15), (.ref b12), (.ref b12)])) (fun _ kk => XS.dup X15.here hx rfl (hb hby d1_27) rfl rfl kk) ?_
      refine GoW.st (S' := T15.setTop (mkF m 29 #[.val (.int p0), .val (.int p1), .val (.int p2), .val (.int p3)] [(.int (0 : Int32)), (.ref b15), (.ref b15), (.ref b12), (.ref b12)])) (fun _ kk => XS.iconst X15.here hx rfl (hb hby d1_28) kk) ?_
      refine GoW.st (S' := T15.setTop (mkF m 30 #[.val (.int p0), .val (.int p1), .val (.int p2), .val (.int p3)] [(.int p1), (.int (0 : Int32)), (.ref b15), (.ref b15), (.ref b12), (.ref b12)])) (fun _ kk => XS.iloadN X15.here hx rfl (hb hby d1_29) rfl kk) ?_
      obtain ⟨cl18, Ar18, qk18, S18, Ng18, H18, G18⟩ := (id V_b15)
      have hin18 : ¬ ((0 : Int32) < 0 ∨ cl18.slots.size ≤ ((0 : Int32)).toNatClampNeg) := inb_of S18 ⟨by decide, by decide⟩
      obtain ⟨T18, h18, X18, e18, W18, st18⟩ := stC X15 hx hZ e15 Ar18 (j := (0 : Int32)) hin18 (g := (mkF m 30 #[.val (.int p0), .val (.int p1), .val (.int p2), .val (.int p3)] [(.int p1), (.int (0 : Int32)), (.ref b15), (.ref b15), (.ref b12), (.ref b12)])) rfl rfl (hb hby d1_30)
      have V_b15 : Arv Z h18 b15 k15 .char (1 : Int32) [(.int (p1.toUInt32.toUInt16.toUInt32.toInt32))] (.int (0 : Int32)) := Arv.set Ar18 qk18 S18 Ng18 H18 G18 (fits_nar_char _) W18 0 rfl (Nat.le_of_ble_eq_true rfl)
      have N18 := Fr.snoc X18 N0 g_b15
      have Sf_b12' := Safe.wr W18 Sf_b15 Hc Sf_b12
      have Sf_b15' := Safe.wr W18 Sf_b15 Hc Sf_b15
      have Hc := CHv.wr W18 Sf_b15 Hc
      have Sf_b12 := Sf_b12'
      have Sf_b15 := Sf_b15'
      have S_C := S_C.wr W18
      have E_b12 := E_b12.wr W18
      have F_coder_b12 := F_coder_b12.other W18 (Or.inl ne_b12_b15)
      have F_value_b12 := F_value_b12.other W18 (Or.inl ne_b12_b15)
      have E_b15 := E_b15.wr W18
      have Zs19 := Nat.le_trans Zs16 (Keep.of_wr W18).1
      have hk := Nat.le_trans hk (Keep.of_wr W18).1
      have Kp20 := Kp17.wr W18 (Or.inr sz_b15)
      refine GoW.st (S' := T18.setTop (mkF m 31 #[.val (.int p0), .val (.int p1), .val (.int p2), .val (.int p3)] [(.ref b15), (.ref b12), (.ref b12)])) st18 ?_
      obtain ⟨_, _, ⟨T21, L21, k21, n21⟩, -, X21, ⟨Lc21, hQ21, l21, y21, z21⟩, st21⟩ := X18.specialBack hx (y := (⟨"java/lang/String", "<init>", "([C)V"⟩ : MethodName)) rfl hown (mvT hZ (hw _ (List.mem_of_getElem? (i := 8) rfl))) (mvT hZ (hw _ (List.mem_of_getElem? (i := 9) rfl))) (mvT hZ (hw _ (List.mem_of_getElem? (i := 10) rfl))) (by decide) (backOf (W := 1) (rmI1_1 l Z az hw [] b12 b15 zc k15 (p1.toUInt32.toUInt16.toUInt32.toInt32) h18 n0 Zs19 S_C hzc E_b12 F_coder_b12 F_value_b12 g_b12 ne_b12_b15 V_b15  u1) hZ (hw _ (List.mem_of_getElem? (i := 10) rfl)) (hw _ (List.mem_of_getElem? (i := 6) rfl)) (by decide) (by decide)) (g := (mkF m 31 #[.val (.int p0), .val (.int p1), .val (.int p2), .val (.int p3)] [(.ref b15), (.ref b12), (.ref b12)])) rfl (by rw [hml]; rfl) (Steps.refl _) (a := b12) (argsL := [(.ref b15)]) (rest := [(.ref b12)]) (lenOf pd_1 rfl) rfl (by show 2 * 0 + _ ≤ _; exact Nat.le_of_eq rfl) (hb hby d1_31) (fun _ _ => ⟨rfl, e18, (by decide : 2 + 1 ≤ _), (by decide : 5 + 1 ≤ _)⟩)
      dsimp only [Pt.U, Pt.locs, Pt.cells, Pt.slots] at X21 l21 y21 z21 st21 hQ21
      subst l21 y21 z21
      obtain ⟨rfl, N21q, K21, Ec21, Fc21, d21, kd21, Fv21, V_d21⟩ := hQ21
      have N21 := Fr.app N18 N21q
      have Sf_b12' := Safe.keep K21 (allS (P := Safe Z consts_1 s.vm h18) Sf_b12 all0) Hc Sf_b12
      have Sf_b15' := Safe.keep K21 (allS (P := Safe Z consts_1 s.vm h18) Sf_b12 all0) Hc Sf_b15
      have Hc := CHv.keep K21 (allS (P := Safe Z consts_1 s.vm h18) Sf_b12 all0) Hc
      have Sf_b12 := Sf_b12'
      have Sf_b15 := Sf_b15'
      have S_C := own_stak K21 (allS (P := fun x => ∀ cell : Cell, (h18)[x]? = some cell → cell.vm.isStatics = false) (Exa.nostat E_b12) all0) S_C
      have E_b12 := E_b12.keep K21
      have E_b15 := E_b15.keep K21
      have V_b15 := V_b15.keep K21 (ninS (Ne.symm ne_b12_b15) nin0)
      have Zs22 := Nat.le_trans Zs19 K21.1
      have hk := Nat.le_trans hk K21.1
      have Kp23 := Kp20.trans K21 (allS (Or.inr sz_b12) all0)
      refine GoW.tr (S' := T21.setTop (mkF m 34 #[.val (.int p0), .val (.int p1), .val (.int p2), .val (.int p3)] [(.ref b12)])) st21 ?_
      have hm : own_mk p0 p1 p2 p3 = [(((p1.toUInt32.toUInt16.toUInt32.toInt32).toInt8.toInt32).toInt8.toInt32)] := by unfold own_mk; rw [if_neg hc1, if_pos hc11]
      exact GoW.retA X21 hx hlk hS (own_hk rfl hk) Bd.returns rfl rfl (hb hby d1_34) (by exact ⟨_, _, _, (1 : Int32), rfl, N21, own_extK Kp23, (own_chat hZ X21.warmed (own_EW hw) Hc).1, Ec21, Fc21, Fv21, by rw [hm]; exact V_d21, by rw [hm]; rfl⟩) (by decide) (by decide)
    · refine GoW.st (S' := s₁.setTop (mkF m 35 #[.val (.int p0), .val (.int p1), .val (.int p2), .val (.int p3)] [])) (fun _ kk => XS.icmpYes X0.here hx rfl (pc0 := 17) (pc' := 35) rfl (hb hby d1_17) rfl (feq hc11).2 (by decide) (by decide) kk) ?_
      refine GoW.st (S' := s₁.setTop (mkF m 36 #[.val (.int p0), .val (.int p1), .val (.int p2), .val (.int p3)] [(.int p0)])) (fun _ kk => XS.iloadN X0.here hx rfl (hb hby d1_35) rfl kk) ?_
      refine GoW.st (S' := s₁.setTop (mkF m 37 #[.val (.int p0), .val (.int p1), .val (.int p2), .val (.int p3)] [(.int (2 : Int32)), (.int p0)])) (fun _ kk => XS.iconst X0.here hx rfl (hb hby d1_36) kk) ?_
      by_cases hc24 : p0 = (2 : Int32)
      · refine GoW.st (S' := s₁.setTop (mkF m 40 #[.val (.int p0), .val (.int p1), .val (.int p2), .val (.int p3)] [])) (fun _ kk => XS.icmpNo X0.here hx rfl (hb hby d1_37) rfl (teq hc24).2 kk) ?_
        obtain ⟨T25, h25, X25, e25, E25, A25, D25, -, st25⟩ := newO X0 hx hZ hown (hw _ (List.mem_of_getElem? (i := 4) rfl)) (hw _ (List.mem_of_getElem? (i := 5) rfl)) (hw _ (List.mem_of_getElem? (i := 6) rfl)) e0 (g := (mkF m 40 #[.val (.int p0), .val (.int p1), .val (.int p2), .val (.int p3)] [])) rfl (hb hby d1_40) (by decide : 0 + 1 ≤ _) (by decide : 0 + 4 ≤ _)
        obtain ⟨b25, g25⟩ : ∃ z, z = h0.size := ⟨_, rfl⟩
        rw [← g25] at A25 D25 st25
        have g_b25 : n0 ≤ b25 := Nat.le_trans Z0 (Nat.le_of_eq g25.symm)
        have Sf_b25 : Safe Z consts_1 s.vm h0 b25 := Safe.new (Nat.le_of_eq g25.symm)
        have sz_b25 : h0.size ≤ b25 := Nat.le_trans (Keep.refl h0 []).1 (Nat.le_of_eq g25.symm)
        have Sf_b25' := Safe.ext E25 Hc Sf_b25
        have Hc := CHv.ext E25 Hc
        have Sf_b25 := Sf_b25'
        have S_C := S_C.ext E25
        have Zs26 := Nat.le_trans Z0 E25.1
        have hk := Nat.le_trans hk E25.1
        have Kp27 := (Keep.refl h0 []).ext E25
        have E_b25 := A25
        have F_coder_b25 : Fld Z h25 b25 "java/lang/String" "coder" "B" (.int (0 : Int32)) := D25 (Or.inr (hw _ (List.mem_of_getElem? (i := 31) rfl))) (ty := .byte) (by decide)
        have F_value_b25 : Fld Z h25 b25 "java/lang/String" "value" "[B" .null := D25 (Or.inr (hw _ (List.mem_of_getElem? (i := 33) rfl))) (ty := (.array .byte)) (by decide)
        refine GoW.st (S' := T25.setTop (mkF m 43 #[.val (.int p0), .val (.int p1), .val (.int p2), .val (.int p3)] [(.ref b25)])) st25 ?_
        refine GoW.st (S' := T25.setTop (mkF m 44 #[.val (.int p0), .val (.int p1), .val (.int p2), .val (.int p3)] [(.ref b25), (.ref b25)])) (fun _ kk => XS.dup X25.here hx rfl (hb hby d1_43) rfl rfl kk) ?_
        refine GoW.st (S' := T25.setTop (mkF m 45 #[.val (.int p0), .val (.int p1), .val (.int p2), .val (.int p3)] [(.int (2 : Int32)), (.ref b25), (.ref b25)])) (fun _ kk => XS.iconst X25.here hx rfl (hb hby d1_44) kk) ?_
        obtain ⟨T28, h28, k28, X28, e28, E28, A28, E_b28, st28⟩ := newPE X25 hx hZ (hw _ (List.mem_of_getElem? (i := 7) rfl)) e25 (g := (mkF m 45 #[.val (.int p0), .val (.int p1), .val (.int p2), .val (.int p3)] [(.int (2 : Int32)), (.ref b25), (.ref b25)])) rfl (hb hby d1_45) rfl (by decide) (cap := 2) (by decide) (by decide) (by decide : 1 + 1 ≤ _) (by decide : 4 + 2 ≤ _) (ad := "[C") rfl
        obtain ⟨b28, g28⟩ : ∃ z, z = h25.size := ⟨_, rfl⟩
        rw [← g28] at A28 E_b28 st28
        have ne_b25_b28 : b25 ≠ b28 := Nat.ne_of_lt (Nat.lt_of_lt_of_le E_b25.lt (Nat.le_of_eq g28.symm))
        have g_b28 : n0 ≤ b28 := Nat.le_trans Zs26 (Nat.le_of_eq g28.symm)
        have Sf_b28 : Safe Z consts_1 s.vm h25 b28 := Safe.new (Nat.le_of_eq g28.symm)
        have sz_b28 : h0.size ≤ b28 := Nat.le_trans Kp27.1 (Nat.le_of_eq g28.symm)
        have Sf_b25' := Safe.ext E28 Hc Sf_b25
        have Sf_b28' := Safe.ext E28 Hc Sf_b28
        have Hc := CHv.ext E28 Hc
        have Sf_b25 := Sf_b25'
        have Sf_b28 := Sf_b28'
        have S_C := S_C.ext E28
        have E_b25 := E_b25.ext E28
        have F_coder_b25 := F_coder_b25.ext E28
        have F_value_b25 := F_value_b25.ext E28
        have Zs29 := Nat.le_trans Zs26 E28.1
        have hk := Nat.le_trans hk E28.1
        have Kp30 := Kp27.ext E28
        have V_b28 : Arv Z h28 b28 k28 .char (2 : Int32) [(.int (0 : Int32)), (.int (0 : Int32))] (.int (0 : Int32)) := (Arv.new A28 (by decide)).pad (pad_rep [] (.int (0 : Int32)) 2)
        refine GoW.st (S' := T28.setTop (mkF m 47 #[.val (.int p0), .val (.int p1), .val (.int p2), .val (.int p3)] [(.ref b28), (.ref b25), (.ref b25)])) st28 ?_
        refine GoW.st (S' := T28.setTop (mkF m 48 #[.val (.int p0), .val (.int p1), .val (.int p2), .val (.int p3)] [(.ref b28), (.ref b28), (.ref b25), (.ref b25)])) (fun _ kk => XS.dup X28.here hx rfl (hb hby d1_47) rfl rfl kk) ?_
        refine GoW.st (S' := T28.setTop (mkF m 49 #[.val (.int p0), .val (.int p1), .val (.int p2), .val (.int p3)] [(.int (0 : Int32)), (.ref b28), (.ref b28), (.ref b25), (.ref b25)])) (fun _ kk => XS.iconst X28.here hx rfl (hb hby d1_48) kk) ?_
        refine GoW.st (S' := T28.setTop (mkF m 50 #[.val (.int p0), .val (.int p1), .val (.int p2), .val (.int p3)] [(.int p1), (.int (0 : Int32)), (.ref b28), (.ref b28), (.ref b25), (.ref b25)])) (fun _ kk => XS.iloadN X28.here hx rfl (hb hby d1_49) rfl kk) ?_
        obtain ⟨cl31, Ar31, qk31, S31, Ng31, H31, G31⟩ := (id V_b28)
        have hin31 : ¬ ((0 : Int32) < 0 ∨ cl31.slots.size ≤ ((0 : Int32)).toNatClampNeg) := inb_of S31 ⟨by decide, by decide⟩
        obtain ⟨T31, h31, X31, e31, W31, st31⟩ := stC X28 hx hZ e28 Ar31 (j := (0 : Int32)) hin31 (g := (mkF m 50 #[.val (.int p0), .val (.int p1), .val (.int p2), .val (.int p3)] [(.int p1), (.int (0 : Int32)), (.ref b28), (.ref b28), (.ref b25), (.ref b25)])) rfl rfl (hb hby d1_50)
        have V_b28 : Arv Z h31 b28 k28 .char (2 : Int32) [(.int (p1.toUInt32.toUInt16.toUInt32.toInt32)), (.int (0 : Int32))] (.int (0 : Int32)) := Arv.set Ar31 qk31 S31 Ng31 H31 G31 (fits_nar_char _) W31 0 rfl (Nat.le_of_ble_eq_true rfl)
        have N31 := Fr.snoc X31 N0 g_b28
        have Sf_b25' := Safe.wr W31 Sf_b28 Hc Sf_b25
        have Sf_b28' := Safe.wr W31 Sf_b28 Hc Sf_b28
        have Hc := CHv.wr W31 Sf_b28 Hc
        have Sf_b25 := Sf_b25'
        have Sf_b28 := Sf_b28'
        have S_C := S_C.wr W31
        have E_b25 := E_b25.wr W31
        have F_coder_b25 := F_coder_b25.other W31 (Or.inl ne_b25_b28)
        have F_value_b25 := F_value_b25.other W31 (Or.inl ne_b25_b28)
        have E_b28 := E_b28.wr W31
        have Zs32 := Nat.le_trans Zs29 (Keep.of_wr W31).1
        have hk := Nat.le_trans hk (Keep.of_wr W31).1
        have Kp33 := Kp30.wr W31 (Or.inr sz_b28)
        refine GoW.st (S' := T31.setTop (mkF m 51 #[.val (.int p0), .val (.int p1), .val (.int p2), .val (.int p3)] [(.ref b28), (.ref b25), (.ref b25)])) st31 ?_
        refine GoW.st (S' := T31.setTop (mkF m 52 #[.val (.int p0), .val (.int p1), .val (.int p2), .val (.int p3)] [(.ref b28), (.ref b28), (.ref b25), (.ref b25)])) (fun _ kk => XS.dup X31.here hx rfl (hb hby d1_51) rfl rfl kk) ?_
        refine GoW.st (S' := T31.setTop (mkF m 53 #[.val (.int p0), .val (.int p1), .val (.int p2), .val (.int p3)] [(.int (1 : Int32)), (.ref b28), (.ref b28), (.ref b25), (.ref b25)])) (fun _ kk => XS.iconst X31.here hx rfl (hb hby d1_52) kk) ?_
        refine GoW.st (S' := T31.setTop (mkF m 54 #[.val (.int p0), .val (.int p1), .val (.int p2), .val (.int p3)] [(.int p2), (.int (1 : Int32)), (.ref b28), (.ref b28), (.ref b25), (.ref b25)])) (fun _ kk => XS.iloadN X31.here hx rfl (hb hby d1_53) rfl kk) ?_
        obtain ⟨cl34, Ar34, qk34, S34, Ng34, H34, G34⟩ := (id V_b28)
        have hin34 : ¬ ((1 : Int32) < 0 ∨ cl34.slots.size ≤ ((1 : Int32)).toNatClampNeg) := inb_of S34 ⟨by decide, by decide⟩
        obtain ⟨T34, h34, X34, e34, W34, st34⟩ := stC X31 hx hZ e31 Ar34 (j := (1 : Int32)) hin34 (g := (mkF m 54 #[.val (.int p0), .val (.int p1), .val (.int p2), .val (.int p3)] [(.int p2), (.int (1 : Int32)), (.ref b28), (.ref b28), (.ref b25), (.ref b25)])) rfl rfl (hb hby d1_54)
        have V_b28 : Arv Z h34 b28 k28 .char (2 : Int32) [(.int (p1.toUInt32.toUInt16.toUInt32.toInt32)), (.int (p2.toUInt32.toUInt16.toUInt32.toInt32))] (.int (0 : Int32)) := Arv.set Ar34 qk34 S34 Ng34 H34 G34 (fits_nar_char _) W34 1 rfl (Nat.le_of_ble_eq_true rfl)
        have N34 := Fr.snoc X34 N31 g_b28
        have Sf_b25' := Safe.wr W34 Sf_b28 Hc Sf_b25
        have Sf_b28' := Safe.wr W34 Sf_b28 Hc Sf_b28
        have Hc := CHv.wr W34 Sf_b28 Hc
        have Sf_b25 := Sf_b25'
        have Sf_b28 := Sf_b28'
        have S_C := S_C.wr W34
        have E_b25 := E_b25.wr W34
        have F_coder_b25 := F_coder_b25.other W34 (Or.inl ne_b25_b28)
        have F_value_b25 := F_value_b25.other W34 (Or.inl ne_b25_b28)
        have E_b28 := E_b28.wr W34
        have Zs35 := Nat.le_trans Zs32 (Keep.of_wr W34).1
        have hk := Nat.le_trans hk (Keep.of_wr W34).1
        have Kp36 := Kp33.wr W34 (Or.inr sz_b28)
        refine GoW.st (S' := T34.setTop (mkF m 55 #[.val (.int p0), .val (.int p1), .val (.int p2), .val (.int p3)] [(.ref b28), (.ref b25), (.ref b25)])) st34 ?_
        obtain ⟨_, _, ⟨T37, L37, k37, n37⟩, -, X37, ⟨Lc37, hQ37, l37, y37, z37⟩, st37⟩ := X34.specialBack hx (y := (⟨"java/lang/String", "<init>", "([C)V"⟩ : MethodName)) rfl hown (mvT hZ (hw _ (List.mem_of_getElem? (i := 8) rfl))) (mvT hZ (hw _ (List.mem_of_getElem? (i := 9) rfl))) (mvT hZ (hw _ (List.mem_of_getElem? (i := 10) rfl))) (by decide) (backOf (W := 1) (rmI1_2 l Z az hw [] b25 b28 zc k28 (p1.toUInt32.toUInt16.toUInt32.toInt32) (p2.toUInt32.toUInt16.toUInt32.toInt32) h34 n0 Zs35 S_C hzc E_b25 F_coder_b25 F_value_b25 g_b25 ne_b25_b28 V_b28  u1 u2) hZ (hw _ (List.mem_of_getElem? (i := 10) rfl)) (hw _ (List.mem_of_getElem? (i := 6) rfl)) (by decide) (by decide)) (g := (mkF m 55 #[.val (.int p0), .val (.int p1), .val (.int p2), .val (.int p3)] [(.ref b28), (.ref b25), (.ref b25)])) rfl (by rw [hml]; rfl) (Steps.refl _) (a := b25) (argsL := [(.ref b28)]) (rest := [(.ref b25)]) (lenOf pd_1 rfl) rfl (by show 2 * 0 + _ ≤ _; exact Nat.le_of_eq rfl) (hb hby d1_55) (fun _ _ => ⟨rfl, e34, (by decide : 2 + 1 ≤ _), (by decide : 6 + 2 ≤ _)⟩)
        dsimp only [Pt.U, Pt.locs, Pt.cells, Pt.slots] at X37 l37 y37 z37 st37 hQ37
        subst l37 y37 z37
        obtain ⟨rfl, N37q, K37, Ec37, Fc37, d37, kd37, Fv37, V_d37⟩ := hQ37
        have N37 := Fr.app N34 N37q
        have Sf_b25' := Safe.keep K37 (allS (P := Safe Z consts_1 s.vm h34) Sf_b25 all0) Hc Sf_b25
        have Sf_b28' := Safe.keep K37 (allS (P := Safe Z consts_1 s.vm h34) Sf_b25 all0) Hc Sf_b28
        have Hc := CHv.keep K37 (allS (P := Safe Z consts_1 s.vm h34) Sf_b25 all0) Hc
        have Sf_b25 := Sf_b25'
        have Sf_b28 := Sf_b28'
        have S_C := own_stak K37 (allS (P := fun x => ∀ cell : Cell, (h34)[x]? = some cell → cell.vm.isStatics = false) (Exa.nostat E_b25) all0) S_C
        have E_b25 := E_b25.keep K37
        have E_b28 := E_b28.keep K37
        have V_b28 := V_b28.keep K37 (ninS (Ne.symm ne_b25_b28) nin0)
        have Zs38 := Nat.le_trans Zs35 K37.1
        have hk := Nat.le_trans hk K37.1
        have Kp39 := Kp36.trans K37 (allS (Or.inr sz_b25) all0)
        refine GoW.tr (S' := T37.setTop (mkF m 58 #[.val (.int p0), .val (.int p1), .val (.int p2), .val (.int p3)] [(.ref b25)])) st37 ?_
        have hm : own_mk p0 p1 p2 p3 = [(((p1.toUInt32.toUInt16.toUInt32.toInt32).toInt8.toInt32).toInt8.toInt32), (((p2.toUInt32.toUInt16.toUInt32.toInt32).toInt8.toInt32).toInt8.toInt32)] := by unfold own_mk; rw [if_neg hc1, if_neg hc11, if_pos hc24]
        exact GoW.retA X37 hx hlk hS (own_hk rfl hk) Bd.returns rfl rfl (hb hby d1_58) (by exact ⟨_, _, _, (2 : Int32), rfl, N37, own_extK Kp39, (own_chat hZ X37.warmed (own_EW hw) Hc).1, Ec37, Fc37, Fv37, by rw [hm]; exact V_d37, by rw [hm]; rfl⟩) (by decide) (by decide)
      · refine GoW.st (S' := s₁.setTop (mkF m 59 #[.val (.int p0), .val (.int p1), .val (.int p2), .val (.int p3)] [])) (fun _ kk => XS.icmpYes X0.here hx rfl (pc0 := 37) (pc' := 59) rfl (hb hby d1_37) rfl (feq hc24).2 (by decide) (by decide) kk) ?_
        obtain ⟨T40, h40, X40, e40, E40, A40, D40, -, st40⟩ := newO X0 hx hZ hown (hw _ (List.mem_of_getElem? (i := 4) rfl)) (hw _ (List.mem_of_getElem? (i := 5) rfl)) (hw _ (List.mem_of_getElem? (i := 6) rfl)) e0 (g := (mkF m 59 #[.val (.int p0), .val (.int p1), .val (.int p2), .val (.int p3)] [])) rfl (hb hby d1_59) (by decide : 0 + 1 ≤ _) (by decide : 0 + 4 ≤ _)
        obtain ⟨b40, g40⟩ : ∃ z, z = h0.size := ⟨_, rfl⟩
        rw [← g40] at A40 D40 st40
        have g_b40 : n0 ≤ b40 := Nat.le_trans Z0 (Nat.le_of_eq g40.symm)
        have Sf_b40 : Safe Z consts_1 s.vm h0 b40 := Safe.new (Nat.le_of_eq g40.symm)
        have sz_b40 : h0.size ≤ b40 := Nat.le_trans (Keep.refl h0 []).1 (Nat.le_of_eq g40.symm)
        have Sf_b40' := Safe.ext E40 Hc Sf_b40
        have Hc := CHv.ext E40 Hc
        have Sf_b40 := Sf_b40'
        have S_C := S_C.ext E40
        have Zs41 := Nat.le_trans Z0 E40.1
        have hk := Nat.le_trans hk E40.1
        have Kp42 := (Keep.refl h0 []).ext E40
        have E_b40 := A40
        have F_coder_b40 : Fld Z h40 b40 "java/lang/String" "coder" "B" (.int (0 : Int32)) := D40 (Or.inr (hw _ (List.mem_of_getElem? (i := 31) rfl))) (ty := .byte) (by decide)
        have F_value_b40 : Fld Z h40 b40 "java/lang/String" "value" "[B" .null := D40 (Or.inr (hw _ (List.mem_of_getElem? (i := 33) rfl))) (ty := (.array .byte)) (by decide)
        refine GoW.st (S' := T40.setTop (mkF m 62 #[.val (.int p0), .val (.int p1), .val (.int p2), .val (.int p3)] [(.ref b40)])) st40 ?_
        refine GoW.st (S' := T40.setTop (mkF m 63 #[.val (.int p0), .val (.int p1), .val (.int p2), .val (.int p3)] [(.ref b40), (.ref b40)])) (fun _ kk => XS.dup X40.here hx rfl (hb hby d1_62) rfl rfl kk) ?_
        refine GoW.st (S' := T40.setTop (mkF m 64 #[.val (.int p0), .val (.int p1), .val (.int p2), .val (.int p3)] [(.int (3 : Int32)), (.ref b40), (.ref b40)])) (fun _ kk => XS.iconst X40.here hx rfl (hb hby d1_63) kk) ?_
        obtain ⟨T43, h43, k43, X43, e43, E43, A43, E_b43, st43⟩ := newPE X40 hx hZ (hw _ (List.mem_of_getElem? (i := 7) rfl)) e40 (g := (mkF m 64 #[.val (.int p0), .val (.int p1), .val (.int p2), .val (.int p3)] [(.int (3 : Int32)), (.ref b40), (.ref b40)])) rfl (hb hby d1_64) rfl (by decide) (cap := 3) (by decide) (by decide) (by decide : 1 + 1 ≤ _) (by decide : 4 + 3 ≤ _) (ad := "[C") rfl
        obtain ⟨b43, g43⟩ : ∃ z, z = h40.size := ⟨_, rfl⟩
        rw [← g43] at A43 E_b43 st43
        have ne_b40_b43 : b40 ≠ b43 := Nat.ne_of_lt (Nat.lt_of_lt_of_le E_b40.lt (Nat.le_of_eq g43.symm))
        have g_b43 : n0 ≤ b43 := Nat.le_trans Zs41 (Nat.le_of_eq g43.symm)
        have Sf_b43 : Safe Z consts_1 s.vm h40 b43 := Safe.new (Nat.le_of_eq g43.symm)
        have sz_b43 : h0.size ≤ b43 := Nat.le_trans Kp42.1 (Nat.le_of_eq g43.symm)
        have Sf_b40' := Safe.ext E43 Hc Sf_b40
        have Sf_b43' := Safe.ext E43 Hc Sf_b43
        have Hc := CHv.ext E43 Hc
        have Sf_b40 := Sf_b40'
        have Sf_b43 := Sf_b43'
        have S_C := S_C.ext E43
        have E_b40 := E_b40.ext E43
        have F_coder_b40 := F_coder_b40.ext E43
        have F_value_b40 := F_value_b40.ext E43
        have Zs44 := Nat.le_trans Zs41 E43.1
        have hk := Nat.le_trans hk E43.1
        have Kp45 := Kp42.ext E43
        have V_b43 : Arv Z h43 b43 k43 .char (3 : Int32) [(.int (0 : Int32)), (.int (0 : Int32)), (.int (0 : Int32))] (.int (0 : Int32)) := (Arv.new A43 (by decide)).pad (pad_rep [] (.int (0 : Int32)) 3)
        refine GoW.st (S' := T43.setTop (mkF m 66 #[.val (.int p0), .val (.int p1), .val (.int p2), .val (.int p3)] [(.ref b43), (.ref b40), (.ref b40)])) st43 ?_
        refine GoW.st (S' := T43.setTop (mkF m 67 #[.val (.int p0), .val (.int p1), .val (.int p2), .val (.int p3)] [(.ref b43), (.ref b43), (.ref b40), (.ref b40)])) (fun _ kk => XS.dup X43.here hx rfl (hb hby d1_66) rfl rfl kk) ?_
        refine GoW.st (S' := T43.setTop (mkF m 68 #[.val (.int p0), .val (.int p1), .val (.int p2), .val (.int p3)] [(.int (0 : Int32)), (.ref b43), (.ref b43), (.ref b40), (.ref b40)])) (fun _ kk => XS.iconst X43.here hx rfl (hb hby d1_67) kk) ?_
        refine GoW.st (S' := T43.setTop (mkF m 69 #[.val (.int p0), .val (.int p1), .val (.int p2), .val (.int p3)] [(.int p1), (.int (0 : Int32)), (.ref b43), (.ref b43), (.ref b40), (.ref b40)])) (fun _ kk => XS.iloadN X43.here hx rfl (hb hby d1_68) rfl kk) ?_
        obtain ⟨cl46, Ar46, qk46, S46, Ng46, H46, G46⟩ := (id V_b43)
        have hin46 : ¬ ((0 : Int32) < 0 ∨ cl46.slots.size ≤ ((0 : Int32)).toNatClampNeg) := inb_of S46 ⟨by decide, by decide⟩
        obtain ⟨T46, h46, X46, e46, W46, st46⟩ := stC X43 hx hZ e43 Ar46 (j := (0 : Int32)) hin46 (g := (mkF m 69 #[.val (.int p0), .val (.int p1), .val (.int p2), .val (.int p3)] [(.int p1), (.int (0 : Int32)), (.ref b43), (.ref b43), (.ref b40), (.ref b40)])) rfl rfl (hb hby d1_69)
        have V_b43 : Arv Z h46 b43 k43 .char (3 : Int32) [(.int (p1.toUInt32.toUInt16.toUInt32.toInt32)), (.int (0 : Int32)), (.int (0 : Int32))] (.int (0 : Int32)) := Arv.set Ar46 qk46 S46 Ng46 H46 G46 (fits_nar_char _) W46 0 rfl (Nat.le_of_ble_eq_true rfl)
        have N46 := Fr.snoc X46 N0 g_b43
        have Sf_b40' := Safe.wr W46 Sf_b43 Hc Sf_b40
        have Sf_b43' := Safe.wr W46 Sf_b43 Hc Sf_b43
        have Hc := CHv.wr W46 Sf_b43 Hc
        have Sf_b40 := Sf_b40'
        have Sf_b43 := Sf_b43'
        have S_C := S_C.wr W46
        have E_b40 := E_b40.wr W46
        have F_coder_b40 := F_coder_b40.other W46 (Or.inl ne_b40_b43)
        have F_value_b40 := F_value_b40.other W46 (Or.inl ne_b40_b43)
        have E_b43 := E_b43.wr W46
        have Zs47 := Nat.le_trans Zs44 (Keep.of_wr W46).1
        have hk := Nat.le_trans hk (Keep.of_wr W46).1
        have Kp48 := Kp45.wr W46 (Or.inr sz_b43)
        refine GoW.st (S' := T46.setTop (mkF m 70 #[.val (.int p0), .val (.int p1), .val (.int p2), .val (.int p3)] [(.ref b43), (.ref b40), (.ref b40)])) st46 ?_
        refine GoW.st (S' := T46.setTop (mkF m 71 #[.val (.int p0), .val (.int p1), .val (.int p2), .val (.int p3)] [(.ref b43), (.ref b43), (.ref b40), (.ref b40)])) (fun _ kk => XS.dup X46.here hx rfl (hb hby d1_70) rfl rfl kk) ?_
        refine GoW.st (S' := T46.setTop (mkF m 72 #[.val (.int p0), .val (.int p1), .val (.int p2), .val (.int p3)] [(.int (1 : Int32)), (.ref b43), (.ref b43), (.ref b40), (.ref b40)])) (fun _ kk => XS.iconst X46.here hx rfl (hb hby d1_71) kk) ?_
        refine GoW.st (S' := T46.setTop (mkF m 73 #[.val (.int p0), .val (.int p1), .val (.int p2), .val (.int p3)] [(.int p2), (.int (1 : Int32)), (.ref b43), (.ref b43), (.ref b40), (.ref b40)])) (fun _ kk => XS.iloadN X46.here hx rfl (hb hby d1_72) rfl kk) ?_
        obtain ⟨cl49, Ar49, qk49, S49, Ng49, H49, G49⟩ := (id V_b43)
        have hin49 : ¬ ((1 : Int32) < 0 ∨ cl49.slots.size ≤ ((1 : Int32)).toNatClampNeg) := inb_of S49 ⟨by decide, by decide⟩
        obtain ⟨T49, h49, X49, e49, W49, st49⟩ := stC X46 hx hZ e46 Ar49 (j := (1 : Int32)) hin49 (g := (mkF m 73 #[.val (.int p0), .val (.int p1), .val (.int p2), .val (.int p3)] [(.int p2), (.int (1 : Int32)), (.ref b43), (.ref b43), (.ref b40), (.ref b40)])) rfl rfl (hb hby d1_73)
        have V_b43 : Arv Z h49 b43 k43 .char (3 : Int32) [(.int (p1.toUInt32.toUInt16.toUInt32.toInt32)), (.int (p2.toUInt32.toUInt16.toUInt32.toInt32)), (.int (0 : Int32))] (.int (0 : Int32)) := Arv.set Ar49 qk49 S49 Ng49 H49 G49 (fits_nar_char _) W49 1 rfl (Nat.le_of_ble_eq_true rfl)
        have N49 := Fr.snoc X49 N46 g_b43
        have Sf_b40' := Safe.wr W49 Sf_b43 Hc Sf_b40
        have Sf_b43' := Safe.wr W49 Sf_b43 Hc Sf_b43
        have Hc := CHv.wr W49 Sf_b43 Hc
        have Sf_b40 := Sf_b40'
        have Sf_b43 := Sf_b43'
        have S_C := S_C.wr W49
        have E_b40 := E_b40.wr W49
        have F_coder_b40 := F_coder_b40.other W49 (Or.inl ne_b40_b43)
        have F_value_b40 := F_value_b40.other W49 (Or.inl ne_b40_b43)
        have E_b43 := E_b43.wr W49
        have Zs50 := Nat.le_trans Zs47 (Keep.of_wr W49).1
        have hk := Nat.le_trans hk (Keep.of_wr W49).1
        have Kp51 := Kp48.wr W49 (Or.inr sz_b43)
        refine GoW.st (S' := T49.setTop (mkF m 74 #[.val (.int p0), .val (.int p1), .val (.int p2), .val (.int p3)] [(.ref b43), (.ref b40), (.ref b40)])) st49 ?_
        refine GoW.st (S' := T49.setTop (mkF m 75 #[.val (.int p0), .val (.int p1), .val (.int p2), .val (.int p3)] [(.ref b43), (.ref b43), (.ref b40), (.ref b40)])) (fun _ kk => XS.dup X49.here hx rfl (hb hby d1_74) rfl rfl kk) ?_
        refine GoW.st (S' := T49.setTop (mkF m 76 #[.val (.int p0), .val (.int p1), .val (.int p2), .val (.int p3)] [(.int (2 : Int32)), (.ref b43), (.ref b43), (.ref b40), (.ref b40)])) (fun _ kk => XS.iconst X49.here hx rfl (hb hby d1_75) kk) ?_
        refine GoW.st (S' := T49.setTop (mkF m 77 #[.val (.int p0), .val (.int p1), .val (.int p2), .val (.int p3)] [(.int p3), (.int (2 : Int32)), (.ref b43), (.ref b43), (.ref b40), (.ref b40)])) (fun _ kk => XS.iloadN X49.here hx rfl (hb hby d1_76) rfl kk) ?_
        obtain ⟨cl52, Ar52, qk52, S52, Ng52, H52, G52⟩ := (id V_b43)
        have hin52 : ¬ ((2 : Int32) < 0 ∨ cl52.slots.size ≤ ((2 : Int32)).toNatClampNeg) := inb_of S52 ⟨by decide, by decide⟩
        obtain ⟨T52, h52, X52, e52, W52, st52⟩ := stC X49 hx hZ e49 Ar52 (j := (2 : Int32)) hin52 (g := (mkF m 77 #[.val (.int p0), .val (.int p1), .val (.int p2), .val (.int p3)] [(.int p3), (.int (2 : Int32)), (.ref b43), (.ref b43), (.ref b40), (.ref b40)])) rfl rfl (hb hby d1_77)
        have V_b43 : Arv Z h52 b43 k43 .char (3 : Int32) [(.int (p1.toUInt32.toUInt16.toUInt32.toInt32)), (.int (p2.toUInt32.toUInt16.toUInt32.toInt32)), (.int (p3.toUInt32.toUInt16.toUInt32.toInt32))] (.int (0 : Int32)) := Arv.set Ar52 qk52 S52 Ng52 H52 G52 (fits_nar_char _) W52 2 rfl (Nat.le_of_ble_eq_true rfl)
        have N52 := Fr.snoc X52 N49 g_b43
        have Sf_b40' := Safe.wr W52 Sf_b43 Hc Sf_b40
        have Sf_b43' := Safe.wr W52 Sf_b43 Hc Sf_b43
        have Hc := CHv.wr W52 Sf_b43 Hc
        have Sf_b40 := Sf_b40'
        have Sf_b43 := Sf_b43'
        have S_C := S_C.wr W52
        have E_b40 := E_b40.wr W52
        have F_coder_b40 := F_coder_b40.other W52 (Or.inl ne_b40_b43)
        have F_value_b40 := F_value_b40.other W52 (Or.inl ne_b40_b43)
        have E_b43 := E_b43.wr W52
        have Zs53 := Nat.le_trans Zs50 (Keep.of_wr W52).1
        have hk := Nat.le_trans hk (Keep.of_wr W52).1
        have Kp54 := Kp51.wr W52 (Or.inr sz_b43)
        refine GoW.st (S' := T52.setTop (mkF m 78 #[.val (.int p0), .val (.int p1), .val (.int p2), .val (.int p3)] [(.ref b43), (.ref b40), (.ref b40)])) st52 ?_
        obtain ⟨_, _, ⟨T55, L55, k55, n55⟩, -, X55, ⟨Lc55, hQ55, l55, y55, z55⟩, st55⟩ := X52.specialBack hx (y := (⟨"java/lang/String", "<init>", "([C)V"⟩ : MethodName)) rfl hown (mvT hZ (hw _ (List.mem_of_getElem? (i := 8) rfl))) (mvT hZ (hw _ (List.mem_of_getElem? (i := 9) rfl))) (mvT hZ (hw _ (List.mem_of_getElem? (i := 10) rfl))) (by decide) (backOf (W := 1) (rmI1_3 l Z az hw [] b40 b43 zc k43 (p1.toUInt32.toUInt16.toUInt32.toInt32) (p2.toUInt32.toUInt16.toUInt32.toInt32) (p3.toUInt32.toUInt16.toUInt32.toInt32) h52 n0 Zs53 S_C hzc E_b40 F_coder_b40 F_value_b40 g_b40 ne_b40_b43 V_b43  u1 u2 u3) hZ (hw _ (List.mem_of_getElem? (i := 10) rfl)) (hw _ (List.mem_of_getElem? (i := 6) rfl)) (by decide) (by decide)) (g := (mkF m 78 #[.val (.int p0), .val (.int p1), .val (.int p2), .val (.int p3)] [(.ref b43), (.ref b40), (.ref b40)])) rfl (by rw [hml]; rfl) (Steps.refl _) (a := b40) (argsL := [(.ref b43)]) (rest := [(.ref b40)]) (lenOf pd_1 rfl) rfl (by show 2 * 0 + _ ≤ _; exact Nat.le_of_eq rfl) (hb hby d1_78) (fun _ _ => ⟨rfl, e52, (by decide : 2 + 1 ≤ _), (by decide : 7 + 3 ≤ _)⟩)
        dsimp only [Pt.U, Pt.locs, Pt.cells, Pt.slots] at X55 l55 y55 z55 st55 hQ55
        subst l55 y55 z55
        obtain ⟨rfl, N55q, K55, Ec55, Fc55, d55, kd55, Fv55, V_d55⟩ := hQ55
        have N55 := Fr.app N52 N55q
        have Sf_b40' := Safe.keep K55 (allS (P := Safe Z consts_1 s.vm h52) Sf_b40 all0) Hc Sf_b40
        have Sf_b43' := Safe.keep K55 (allS (P := Safe Z consts_1 s.vm h52) Sf_b40 all0) Hc Sf_b43
        have Hc := CHv.keep K55 (allS (P := Safe Z consts_1 s.vm h52) Sf_b40 all0) Hc
        have Sf_b40 := Sf_b40'
        have Sf_b43 := Sf_b43'
        have S_C := own_stak K55 (allS (P := fun x => ∀ cell : Cell, (h52)[x]? = some cell → cell.vm.isStatics = false) (Exa.nostat E_b40) all0) S_C
        have E_b40 := E_b40.keep K55
        have E_b43 := E_b43.keep K55
        have V_b43 := V_b43.keep K55 (ninS (Ne.symm ne_b40_b43) nin0)
        have Zs56 := Nat.le_trans Zs53 K55.1
        have hk := Nat.le_trans hk K55.1
        have Kp57 := Kp54.trans K55 (allS (Or.inr sz_b40) all0)
        refine GoW.tr (S' := T55.setTop (mkF m 81 #[.val (.int p0), .val (.int p1), .val (.int p2), .val (.int p3)] [(.ref b40)])) st55 ?_
        have hm : own_mk p0 p1 p2 p3 = [(((p1.toUInt32.toUInt16.toUInt32.toInt32).toInt8.toInt32).toInt8.toInt32), (((p2.toUInt32.toUInt16.toUInt32.toInt32).toInt8.toInt32).toInt8.toInt32), (((p3.toUInt32.toUInt16.toUInt32.toInt32).toInt8.toInt32).toInt8.toInt32)] := by unfold own_mk; rw [if_neg hc1, if_neg hc11, if_neg hc24]
        exact GoW.retA X55 hx hlk hS (own_hk rfl hk) Bd.returns rfl rfl (hb hby d1_81) (by exact ⟨_, _, _, (3 : Int32), rfl, N55, own_extK Kp57, (own_chat hZ X55.warmed (own_EW hw) Hc).1, Ec55, Fc55, Fv55, by rw [hm]; exact V_d55, by rw [hm]; rfl⟩) (by decide) (by decide)
def Q_kd (p0 : Int32) (s0 : Addr) (h0 : Heap) (n0 : Nat) (v : Option Value) (h : Heap) (L : List Loc) : Prop := ∃ q : Addr, v = some (.ref q) ∧ Fr n0 L ∧ h = h0 ∧ (q = s0 ↔ (p0 &&& (3 : Int32)) = (0 : Int32))
theorem d8_0 : decode method_3_code 0 = .ok (.iload_n 0, 1) := by decide +kernel
theorem d8_1 : decode method_3_code 1 = .ok (.iconst 3, 1) := by decide +kernel
theorem d8_2 : decode method_3_code 2 = .ok (.iand, 1) := by decide +kernel
theorem d8_3 : decode method_3_code 3 = .ok (.istore_n 1, 1) := by decide +kernel
theorem d8_4 : decode method_3_code 4 = .ok (.iload_n 1, 1) := by decide +kernel
theorem d8_5 : decode method_3_code 5 = .ok (.ifCond .ne 7, 3) := by decide +kernel
theorem d8_8 : decode method_3_code 8 = .ok (.getstatic 12, 3) := by decide +kernel
theorem d8_11 : decode method_3_code 11 = .ok (.areturn, 1) := by decide +kernel
theorem d8_12 : decode method_3_code 12 = .ok (.iload_n 1, 1) := by decide +kernel
theorem d8_13 : decode method_3_code 13 = .ok (.iconst 1, 1) := by decide +kernel
theorem d8_14 : decode method_3_code 14 = .ok (.if_icmp .ne 7, 3) := by decide +kernel
theorem d8_17 : decode method_3_code 17 = .ok (.getstatic 18, 3) := by decide +kernel
theorem d8_20 : decode method_3_code 20 = .ok (.areturn, 1) := by decide +kernel
theorem d8_21 : decode method_3_code 21 = .ok (.iload_n 1, 1) := by decide +kernel
theorem d8_22 : decode method_3_code 22 = .ok (.iconst 2, 1) := by decide +kernel
theorem d8_23 : decode method_3_code 23 = .ok (.if_icmp .ne 7, 3) := by decide +kernel
theorem d8_26 : decode method_3_code 26 = .ok (.getstatic 21, 3) := by decide +kernel
theorem d8_29 : decode method_3_code 29 = .ok (.areturn, 1) := by decide +kernel
theorem d8_30 : decode method_3_code 30 = .ok (.getstatic 24, 3) := by decide +kernel
theorem d8_33 : decode method_3_code 33 = .ok (.areturn, 1) := by decide +kernel
theorem ef_8 (m : MethodId) (p0 : Int32) : entryFrame m #[(.int p0)] 2 = mkF m 0 #[.val (.int p0), .unset] [] := by first | (simp [entryFrame, mkF, argsToLocals, Value.category]; done) | rfl
set_option maxRecDepth 65536 in
set_option maxHeartbeats 4000000 in
theorem rmKd (l : Launch) (Z : State) (az : Array Value) (hw : ∀ d ∈ tables_1, d.before az Z = true) (ws : List Jvm.Cond) (p0 : Int32) (s0 s1 s2 s3 : Addr) (h0 : Heap) (n0 : Nat) (Z0 : n0 ≤ h0.size) (S_NAME : Sta Z h0 "com/example/patient_snoop/patientsnoop/io/Token$Kind" "NAME" "Lcom/example/patient_snoop/patientsnoop/io/Token$Kind;" (.ref s0)) (S_NUMBER : Sta Z h0 "com/example/patient_snoop/patientsnoop/io/Token$Kind" "NUMBER" "Lcom/example/patient_snoop/patientsnoop/io/Token$Kind;" (.ref s1)) (S_SYMBOL : Sta Z h0 "com/example/patient_snoop/patientsnoop/io/Token$Kind" "SYMBOL" "Lcom/example/patient_snoop/patientsnoop/io/Token$Kind;" (.ref s2)) (S_END : Sta Z h0 "com/example/patient_snoop/patientsnoop/io/Token$Kind" "END" "Lcom/example/patient_snoop/patientsnoop/io/Token$Kind;" (.ref s3)) (e1 : s1 ≠ s0) (e2 : s2 ≠ s0) (e3 : s3 ≠ s0) :
    MetFree l (⟨"com/example/patient_snoop/patientsnoop/io/TokenIsNamePinLaw", "kindOf", "(I)Lcom/example/patient_snoop/patientsnoop/io/Token$Kind;"⟩ : MethodName) (head1 (Jvm.Cond.code (⟨"com/example/patient_snoop/patientsnoop/io/TokenIsNamePinLaw", "kindOf", "(I)Lcom/example/patient_snoop/patientsnoop/io/Token$Kind;"⟩ : MethodName) method_3_code 2 (some (.object "com/example/patient_snoop/patientsnoop/io/Token$Kind")) :: ws) ({ frames := 0, cells := 0, slots := 0, locals := 0 } : Room)) (fun a U => a = #[(.int p0)] ∧ Z.Warmed39 U.vm ∧ U.heap = h0) (fun _ _ _ _ _ => True) (fun _ U o U' => ∃ v L, o = .returned v ∧ (Q_kd p0 s0 h0 n0) v U'.heap L ∧ FrameEnd U o U' L ({ frames := 0, cells := 0, slots := 0, locals := 0 } : Room).cells ({ frames := 0, cells := 0, slots := 0, locals := 0 } : Room).slots) := by
  refine MetFree.of_bodySF (plainFor_of_name pn_3) hisR ?_
  intro p e s m args below meth c s₁ Bd hml0 hP hK
  obtain ⟨rfl, hZ, hh⟩ := hP
  have hx := Bd.exec
  have hby := Bd.bytes
  have hlk : meth.locks = false := Bd.notSynchronized
  have hml : c.maxLocals = 2 := hml0
  have hown : s.vm.findClass "com/example/patient_snoop/patientsnoop/io/TokenIsNamePinLaw" = some m.cls := findClass_of_methodNamed Bd.named
  have hnm := (name_of_methodNamed Bd.named Bd.method).1
  have X0 : Stand p l e ({ frames := 0, cells := 0, slots := 0, locals := 0 } : Room) s m #[(.int p0)] below meth c s₁ [] 0 0 := Stand.of_body Bd
  have e0 : s₁.heap = h0 := by rw [← hh, Bd.state]; rfl
  have N0 := Fr.nil n0
  show Go p e below s ((Q_kd p0 s0 h0 n0)) ({ frames := 0, cells := 0, slots := 0, locals := 0 } : Room).cells ({ frames := 0, cells := 0, slots := 0, locals := 0 } : Room).slots (s₁.setTop (entryFrame m #[(.int p0)] 2))
  rw [ef_8 m p0]
  refine Go.st (S' := s₁.setTop (mkF m 1 #[.val (.int p0), .unset] [(.int p0)])) (fun _ kk => XS.iloadN X0.here hx rfl (hb hby d8_0) rfl kk) ?_
  refine Go.st (S' := s₁.setTop (mkF m 2 #[.val (.int p0), .unset] [(.int (3 : Int32)), (.int p0)])) (fun _ kk => XS.iconst X0.here hx rfl (hb hby d8_1) kk) ?_
  refine Go.st (S' := s₁.setTop (mkF m 3 #[.val (.int p0), .unset] [(.int (p0 &&& (3 : Int32)))])) (fun _ kk => XS.iand X0.here hx rfl (hb hby d8_2) rfl kk) ?_
  refine Go.st (S' := s₁.setTop (mkF m 4 #[.val (.int p0), .val (.int (p0 &&& (3 : Int32)))] [])) (fun _ kk => XS.istoreN X0.here hx rfl (hb hby d8_3) rfl (l' := #[.val (.int p0), .val (.int (p0 &&& (3 : Int32)))]) rfl kk) ?_
  refine Go.st (S' := s₁.setTop (mkF m 5 #[.val (.int p0), .val (.int (p0 &&& (3 : Int32)))] [(.int (p0 &&& (3 : Int32)))])) (fun _ kk => XS.iloadN X0.here hx rfl (hb hby d8_4) rfl kk) ?_
  by_cases hc1 : (p0 &&& (3 : Int32)) = (0 : Int32)
  · refine Go.st (S' := s₁.setTop (mkF m 8 #[.val (.int p0), .val (.int (p0 &&& (3 : Int32)))] [])) (fun _ kk => XS.ifNo X0.here hx rfl (hb hby d8_5) rfl ((if0 _ _).trans (teq hc1).2) kk) ?_
    obtain ⟨T2, X2, e2, st2⟩ := getS2 X0 hx hZ hown (host := "") (Or.inl (hw _ (List.mem_of_getElem? (i := 43) rfl))) Via.refl e0 S_NAME (g := (mkF m 8 #[.val (.int p0), .val (.int (p0 &&& (3 : Int32)))] [])) rfl (hb hby d8_8)
    refine Go.st (S' := T2.setTop (mkF m 11 #[.val (.int p0), .val (.int (p0 &&& (3 : Int32)))] [(.ref s0)])) st2 ?_
    exact Go.retA X2 hx hlk Bd.returns rfl rfl (hb hby d8_11) (⟨_, rfl, N0, e2, fun _ => hc1, fun _ => rfl⟩) (by decide) (by decide)
  · refine Go.st (S' := s₁.setTop (mkF m 12 #[.val (.int p0), .val (.int (p0 &&& (3 : Int32)))] [])) (fun _ kk => XS.ifYes X0.here hx rfl (pc0 := 5) (pc' := 12) rfl (hb hby d8_5) rfl ((if0 _ _).trans (feq hc1).2) (by decide) (by decide) kk) ?_
    refine Go.st (S' := s₁.setTop (mkF m 13 #[.val (.int p0), .val (.int (p0 &&& (3 : Int32)))] [(.int (p0 &&& (3 : Int32)))])) (fun _ kk => XS.iloadN X0.here hx rfl (hb hby d8_12) rfl kk) ?_
    refine Go.st (S' := s₁.setTop (mkF m 14 #[.val (.int p0), .val (.int (p0 &&& (3 : Int32)))] [(.int (1 : Int32)), (.int (p0 &&& (3 : Int32)))])) (fun _ kk => XS.iconst X0.here hx rfl (hb hby d8_13) kk) ?_
    by_cases hc3 : (p0 &&& (3 : Int32)) = (1 : Int32)
    · refine Go.st (S' := s₁.setTop (mkF m 17 #[.val (.int p0), .val (.int (p0 &&& (3 : Int32)))] [])) (fun _ kk => XS.icmpNo X0.here hx rfl (hb hby d8_14) rfl (teq hc3).2 kk) ?_
      obtain ⟨T4, X4, e4, st4⟩ := getS2 X0 hx hZ hown (host := "") (Or.inl (hw _ (List.mem_of_getElem? (i := 81) rfl))) Via.refl e0 S_NUMBER (g := (mkF m 17 #[.val (.int p0), .val (.int (p0 &&& (3 : Int32)))] [])) rfl (hb hby d8_17)
      refine Go.st (S' := T4.setTop (mkF m 20 #[.val (.int p0), .val (.int (p0 &&& (3 : Int32)))] [(.ref s1)])) st4 ?_
      exact Go.retA X4 hx hlk Bd.returns rfl rfl (hb hby d8_20) (⟨_, rfl, N0, e4, fun q => absurd q e1, fun q => absurd q hc1⟩) (by decide) (by decide)
    · refine Go.st (S' := s₁.setTop (mkF m 21 #[.val (.int p0), .val (.int (p0 &&& (3 : Int32)))] [])) (fun _ kk => XS.icmpYes X0.here hx rfl (pc0 := 14) (pc' := 21) rfl (hb hby d8_14) rfl (feq hc3).2 (by decide) (by decide) kk) ?_
      refine Go.st (S' := s₁.setTop (mkF m 22 #[.val (.int p0), .val (.int (p0 &&& (3 : Int32)))] [(.int (p0 &&& (3 : Int32)))])) (fun _ kk => XS.iloadN X0.here hx rfl (hb hby d8_21) rfl kk) ?_
      refine Go.st (S' := s₁.setTop (mkF m 23 #[.val (.int p0), .val (.int (p0 &&& (3 : Int32)))] [(.int (2 : Int32)), (.int (p0 &&& (3 : Int32)))])) (fun _ kk => XS.iconst X0.here hx rfl (hb hby d8_22) kk) ?_
      by_cases hc5 : (p0 &&& (3 : Int32)) = (2 : Int32)
      · refine Go.st (S' := s₁.setTop (mkF m 26 #[.val (.int p0), .val (.int (p0 &&& (3 : Int32)))] [])) (fun _ kk => XS.icmpNo X0.here hx rfl (hb hby d8_23) rfl (teq hc5).2 kk) ?_
        obtain ⟨T6, X6, e6, st6⟩ := getS2 X0 hx hZ hown (host := "") (Or.inl (hw _ (List.mem_of_getElem? (i := 79) rfl))) Via.refl e0 S_SYMBOL (g := (mkF m 26 #[.val (.int p0), .val (.int (p0 &&& (3 : Int32)))] [])) rfl (hb hby d8_26)
        refine Go.st (S' := T6.setTop (mkF m 29 #[.val (.int p0), .val (.int (p0 &&& (3 : Int32)))] [(.ref s2)])) st6 ?_
        exact Go.retA X6 hx hlk Bd.returns rfl rfl (hb hby d8_29) (⟨_, rfl, N0, e6, fun q => absurd q e2, fun q => absurd q hc1⟩) (by decide) (by decide)
      · refine Go.st (S' := s₁.setTop (mkF m 30 #[.val (.int p0), .val (.int (p0 &&& (3 : Int32)))] [])) (fun _ kk => XS.icmpYes X0.here hx rfl (pc0 := 23) (pc' := 30) rfl (hb hby d8_23) rfl (feq hc5).2 (by decide) (by decide) kk) ?_
        obtain ⟨T7, X7, e7, st7⟩ := getS2 X0 hx hZ hown (host := "") (Or.inl (hw _ (List.mem_of_getElem? (i := 77) rfl))) Via.refl e0 S_END (g := (mkF m 30 #[.val (.int p0), .val (.int (p0 &&& (3 : Int32)))] [])) rfl (hb hby d8_30)
        refine Go.st (S' := T7.setTop (mkF m 33 #[.val (.int p0), .val (.int (p0 &&& (3 : Int32)))] [(.ref s3)])) st7 ?_
        exact Go.retA X7 hx hlk Bd.returns rfl rfl (hb hby d8_33) (⟨_, rfl, N0, e7, fun q => absurd q e3, fun q => absurd q hc1⟩) (by decide) (by decide)
def Q_rec (h0 : Heap) (n0 : Nat) (v : Option Value) (h : Heap) (L : List Loc) : Prop := v = none ∧ Fr n0 L ∧ h = h0
theorem d10_0 : decode jdk_30_method_1_code 0 = .ok (.aload_n 0, 1) := by decide +kernel
theorem d10_1 : decode jdk_30_method_1_code 1 = .ok (.invokespecial 1, 3) := by decide +kernel
theorem d10_4 : decode jdk_30_method_1_code 4 = .ok (.return_, 1) := by decide +kernel
theorem pn_4 : plainName "java/lang/Record" = true := by first | (simp [plainName, overriddenIn]; done) | decide +kernel
theorem ef_10 (m : MethodId) (a0 : Addr) : entryFrame m #[(.ref a0)] 1 = mkF m 0 #[.val (.ref a0)] [] := by first | (simp [entryFrame, mkF, argsToLocals, Value.category]; done) | rfl
set_option maxRecDepth 65536 in
set_option maxHeartbeats 4000000 in
theorem rmRec (l : Launch) (Z : State) (az : Array Value) (hw : ∀ d ∈ tables_1, d.before az Z = true) (ws : List Jvm.Cond) (a0 : Addr)  (h0 : Heap) (n0 : Nat) (Z0 : n0 ≤ h0.size)  :
    MetFree l (⟨"java/lang/Record", "<init>", "()V"⟩ : MethodName) (head1 (Jvm.Cond.code (⟨"java/lang/Record", "<init>", "()V"⟩ : MethodName) jdk_30_method_1_code 1 none :: ws) ({ frames := 1, cells := 0, slots := 0, locals := 12 } : Room)) (fun a U => a = #[(.ref a0)] ∧ Z.Warmed39 U.vm ∧ U.heap = h0) (fun _ _ _ _ _ => True) (fun _ U o U' => ∃ v L, o = .returned v ∧ (Q_rec h0 n0) v U'.heap L ∧ FrameEnd U o U' L ({ frames := 1, cells := 0, slots := 0, locals := 12 } : Room).cells ({ frames := 1, cells := 0, slots := 0, locals := 12 } : Room).slots) := by
  refine MetFree.of_bodySF (plainFor_of_name pn_4) hisR ?_
  intro p e s m args below meth c s₁ Bd hml0 hP hK
  obtain ⟨rfl, hZ, hh⟩ := hP
  have hx := Bd.exec
  have hby := Bd.bytes
  have hlk : meth.locks = false := Bd.notSynchronized
  have hml : c.maxLocals = 1 := hml0
  have hown : s.vm.findClass "java/lang/Record" = some m.cls := findClass_of_methodNamed Bd.named
  have hnm := (name_of_methodNamed Bd.named Bd.method).1
  have X0 : Stand p l e ({ frames := 1, cells := 0, slots := 0, locals := 12 } : Room) s m #[(.ref a0)] below meth c s₁ [] 0 0 := Stand.of_body Bd
  have e0 : s₁.heap = h0 := by rw [← hh, Bd.state]; rfl
  have N0 := Fr.nil n0
  show Go p e below s ((Q_rec h0 n0)) ({ frames := 1, cells := 0, slots := 0, locals := 12 } : Room).cells ({ frames := 1, cells := 0, slots := 0, locals := 12 } : Room).slots (s₁.setTop (entryFrame m #[(.ref a0)] 1))
  rw [ef_10 m a0]
  refine Go.st (S' := s₁.setTop (mkF m 1 #[.val (.ref a0)] [(.ref a0)])) (fun _ kk => XS.aloadN X0.here hx rfl (hb hby d10_0) rfl rfl kk) ?_
  obtain ⟨T1, X1, e1, st1⟩ := initO X0 hx hZ hown (hw _ (List.mem_of_getElem? (i := 54) rfl)) (hw _ (List.mem_of_getElem? (i := 16) rfl)) (hw _ (List.mem_of_getElem? (i := 17) rfl)) e0 (g := (mkF m 1 #[.val (.ref a0)] [(.ref a0)])) rfl (by rw [hml]; rfl) rfl (hb hby d10_1) (by decide) (W := 0) (by show 2 * 0 + _ ≤ _; exact Nat.le_of_eq rfl) (by decide)
  refine Go.st (S' := T1.setTop (mkF m 4 #[.val (.ref a0)] [])) st1 ?_
  exact Go.ret0 X1 hx hlk Bd.returns (hb hby d10_4) (⟨rfl, N0, e1⟩) (by decide) (by decide)
def Q_rmT (Z : State) (a0 : Addr) (a1 : Addr) (a2 : Addr) (p3 : Int32) (h0 : Heap) (n0 : Nat) (v : Option Value) (h : Heap) (L : List Loc) : Prop := v = none ∧ Fr n0 L ∧ Keep h0 h [a0] ∧ Exa Z h a0 "com/example/patient_snoop/patientsnoop/io/Token" ∧ Fld Z h a0 "com/example/patient_snoop/patientsnoop/io/Token" "kind" "Lcom/example/patient_snoop/patientsnoop/io/Token$Kind;" (.ref a1) ∧ Fld Z h a0 "com/example/patient_snoop/patientsnoop/io/Token" "text" "Ljava/lang/String;" (.ref a2) ∧ Fld Z h a0 "com/example/patient_snoop/patientsnoop/io/Token" "line" "I" (.int p3)
theorem d9_0 : decode prog_14_method_1_code 0 = .ok (.aload_n 0, 1) := by decide +kernel
theorem d9_1 : decode prog_14_method_1_code 1 = .ok (.invokespecial 1, 3) := by decide +kernel
theorem d9_4 : decode prog_14_method_1_code 4 = .ok (.aload_n 0, 1) := by decide +kernel
theorem d9_5 : decode prog_14_method_1_code 5 = .ok (.aload_n 1, 1) := by decide +kernel
theorem d9_6 : decode prog_14_method_1_code 6 = .ok (.putfield 7, 3) := by decide +kernel
theorem d9_9 : decode prog_14_method_1_code 9 = .ok (.aload_n 0, 1) := by decide +kernel
theorem d9_10 : decode prog_14_method_1_code 10 = .ok (.aload_n 2, 1) := by decide +kernel
theorem d9_11 : decode prog_14_method_1_code 11 = .ok (.putfield 13, 3) := by decide +kernel
theorem d9_14 : decode prog_14_method_1_code 14 = .ok (.aload_n 0, 1) := by decide +kernel
theorem d9_15 : decode prog_14_method_1_code 15 = .ok (.iload_n 3, 1) := by decide +kernel
theorem d9_16 : decode prog_14_method_1_code 16 = .ok (.putfield 17, 3) := by decide +kernel
theorem d9_19 : decode prog_14_method_1_code 19 = .ok (.return_, 1) := by decide +kernel
theorem pn_5 : plainName "com/example/patient_snoop/patientsnoop/io/Token" = true := by first | (simp [plainName, overriddenIn]; done) | decide +kernel
theorem ef_9 (m : MethodId) (a0 : Addr) (a1 : Addr) (a2 : Addr) (p3 : Int32) : entryFrame m #[(.ref a0), (.ref a1), (.ref a2), (.int p3)] 4 = mkF m 0 #[.val (.ref a0), .val (.ref a1), .val (.ref a2), .val (.int p3)] [] := by first | (simp [entryFrame, mkF, argsToLocals, Value.category]; done) | rfl
set_option maxRecDepth 65536 in
set_option maxHeartbeats 4000000 in
theorem rmT (l : Launch) (Z : State) (az : Array Value) (hw : ∀ d ∈ tables_1, d.before az Z = true) (ws : List Jvm.Cond) (a0 : Addr) (a1 : Addr) (a2 : Addr) (p3 : Int32)  (h0 : Heap) (n0 : Nat) (Z0 : n0 ≤ h0.size) (E_a0 : Exa Z h0 a0 "com/example/patient_snoop/patientsnoop/io/Token") (g_a0 : n0 ≤ a0) (F_kind : Fld Z h0 a0 "com/example/patient_snoop/patientsnoop/io/Token" "kind" "Lcom/example/patient_snoop/patientsnoop/io/Token$Kind;" .null) (F_text : Fld Z h0 a0 "com/example/patient_snoop/patientsnoop/io/Token" "text" "Ljava/lang/String;" .null) (F_line : Fld Z h0 a0 "com/example/patient_snoop/patientsnoop/io/Token" "line" "I" (.int (0 : Int32))) :
    MetFree l (⟨"com/example/patient_snoop/patientsnoop/io/Token", "<init>", "(Lcom/example/patient_snoop/patientsnoop/io/Token$Kind;Ljava/lang/String;I)V"⟩ : MethodName) (head1 (Jvm.Cond.code (⟨"com/example/patient_snoop/patientsnoop/io/Token", "<init>", "(Lcom/example/patient_snoop/patientsnoop/io/Token$Kind;Ljava/lang/String;I)V"⟩ : MethodName) prog_14_method_1_code 4 none :: ws) ({ frames := 2, cells := 0, slots := 0, locals := 24 } : Room)) (fun a U => a = #[(.ref a0), (.ref a1), (.ref a2), (.int p3)] ∧ Z.Warmed39 U.vm ∧ U.heap = h0) (fun _ _ _ _ _ => True) (fun _ U o U' => ∃ v L, o = .returned v ∧ (Q_rmT Z a0 a1 a2 p3 h0 n0) v U'.heap L ∧ FrameEnd U o U' L ({ frames := 2, cells := 0, slots := 0, locals := 24 } : Room).cells ({ frames := 2, cells := 0, slots := 0, locals := 24 } : Room).slots) := by
  refine MetFree.of_bodySF (plainFor_of_name pn_5) hisR ?_
  intro p e s m args below meth c s₁ Bd hml0 hP hK
  obtain ⟨rfl, hZ, hh⟩ := hP
  have hx := Bd.exec
  have hby := Bd.bytes
  have hlk : meth.locks = false := Bd.notSynchronized
  have hml : c.maxLocals = 4 := hml0
  have hown : s.vm.findClass "com/example/patient_snoop/patientsnoop/io/Token" = some m.cls := findClass_of_methodNamed Bd.named
  have hnm := (name_of_methodNamed Bd.named Bd.method).1
  have X0 : Stand p l e ({ frames := 2, cells := 0, slots := 0, locals := 24 } : Room) s m #[(.ref a0), (.ref a1), (.ref a2), (.int p3)] below meth c s₁ [] 0 0 := Stand.of_body Bd
  have e0 : s₁.heap = h0 := by rw [← hh, Bd.state]; rfl
  have N0 := Fr.nil n0
  show Go p e below s ((Q_rmT Z a0 a1 a2 p3 h0 n0)) ({ frames := 2, cells := 0, slots := 0, locals := 24 } : Room).cells ({ frames := 2, cells := 0, slots := 0, locals := 24 } : Room).slots (s₁.setTop (entryFrame m #[(.ref a0), (.ref a1), (.ref a2), (.int p3)] 4))
  rw [ef_9 m a0 a1 a2 p3]
  refine Go.st (S' := s₁.setTop (mkF m 1 #[.val (.ref a0), .val (.ref a1), .val (.ref a2), .val (.int p3)] [(.ref a0)])) (fun _ kk => XS.aloadN X0.here hx rfl (hb hby d9_0) rfl rfl kk) ?_
  obtain ⟨_, _, ⟨T1, L1, k1, n1⟩, -, X1, ⟨Lc1, hQ1, l1, y1, z1⟩, st1⟩ := X0.specialBack hx (y := (⟨"java/lang/Record", "<init>", "()V"⟩ : MethodName)) rfl hown (mvT hZ (hw _ (List.mem_of_getElem? (i := 49) rfl))) (mvT hZ (hw _ (List.mem_of_getElem? (i := 50) rfl))) (mvT hZ (hw _ (List.mem_of_getElem? (i := 53) rfl))) (by decide) (backOf (W := 0) (rmRec l Z az hw [] a0 h0 n0 Z0) hZ (hw _ (List.mem_of_getElem? (i := 53) rfl)) (hw _ (List.mem_of_getElem? (i := 52) rfl)) (by decide) (by decide)) (g := (mkF m 1 #[.val (.ref a0), .val (.ref a1), .val (.ref a2), .val (.int p3)] [(.ref a0)])) rfl (by rw [hml]; rfl) (Steps.refl _) (a := a0) (argsL := []) (rest := []) (lenOf pd_3 rfl) rfl (by show 2 * 0 + _ ≤ _; exact Nat.le_of_eq rfl) (hb hby d9_1) (fun _ _ => ⟨rfl, e0, (by decide : 0 + 0 ≤ _), (by decide : 0 + 0 ≤ _)⟩)
  dsimp only [Pt.U, Pt.locs, Pt.cells, Pt.slots] at X1 l1 y1 z1 st1 hQ1
  subst l1 y1 z1
  obtain ⟨rfl, N1q, e1⟩ := hQ1
  have N1 := Fr.app N0 N1q
  refine Go.tr (S' := T1.setTop (mkF m 4 #[.val (.ref a0), .val (.ref a1), .val (.ref a2), .val (.int p3)] [])) st1 ?_
  refine Go.st (S' := T1.setTop (mkF m 5 #[.val (.ref a0), .val (.ref a1), .val (.ref a2), .val (.int p3)] [(.ref a0)])) (fun _ kk => XS.aloadN X1.here hx rfl (hb hby d9_4) rfl rfl kk) ?_
  refine Go.st (S' := T1.setTop (mkF m 6 #[.val (.ref a0), .val (.ref a1), .val (.ref a2), .val (.int p3)] [(.ref a1), (.ref a0)])) (fun _ kk => XS.aloadN X1.here hx rfl (hb hby d9_5) rfl rfl kk) ?_
  obtain ⟨T2, h2, X2, e2, W2, st2⟩ := putF X1 hx hZ hown (host := "") (Or.inl (hw _ (List.mem_of_getElem? (i := 55) rfl))) Via.refl e1 F_kind E_a0 (Or.inr ⟨(hw _ (List.mem_of_getElem? (i := 56) rfl)), rfl, hnm⟩) (hw _ (List.mem_of_getElem? (i := 38) rfl)) (ty := (.object "com/example/patient_snoop/patientsnoop/io/Token$Kind")) (by decide) rfl rfl (g := (mkF m 6 #[.val (.ref a0), .val (.ref a1), .val (.ref a2), .val (.int p3)] [(.ref a1), (.ref a0)])) rfl rfl (hb hby d9_6)
  have N2 := Fr.snoc X2 N1 g_a0
  have F_kind := F_kind.same W2
  have E_a0 := E_a0.wr W2
  have F_text := F_text.other W2 (Or.inr (slot_ne (Or.inr (hw _ (List.mem_of_getElem? (i := 58) rfl))) (Or.inr (hw _ (List.mem_of_getElem? (i := 56) rfl))) (by decide) (t := (.object "java/lang/String")) (t' := (.object "com/example/patient_snoop/patientsnoop/io/Token$Kind")) (by decide) (by decide)))
  have F_line := F_line.other W2 (Or.inr (slot_ne (Or.inr (hw _ (List.mem_of_getElem? (i := 60) rfl))) (Or.inr (hw _ (List.mem_of_getElem? (i := 56) rfl))) (by decide) (t := .int) (t' := (.object "com/example/patient_snoop/patientsnoop/io/Token$Kind")) (by decide) (by decide)))
  have Zs3 := Nat.le_trans Z0 (Keep.of_wr W2).1
  have Kp4 := (Keep.refl h0 [a0]).wr W2 (Or.inl (List.mem_of_getElem? (i := 0) rfl))
  refine Go.st (S' := T2.setTop (mkF m 9 #[.val (.ref a0), .val (.ref a1), .val (.ref a2), .val (.int p3)] [])) st2 ?_
  refine Go.st (S' := T2.setTop (mkF m 10 #[.val (.ref a0), .val (.ref a1), .val (.ref a2), .val (.int p3)] [(.ref a0)])) (fun _ kk => XS.aloadN X2.here hx rfl (hb hby d9_9) rfl rfl kk) ?_
  refine Go.st (S' := T2.setTop (mkF m 11 #[.val (.ref a0), .val (.ref a1), .val (.ref a2), .val (.int p3)] [(.ref a2), (.ref a0)])) (fun _ kk => XS.aloadN X2.here hx rfl (hb hby d9_10) rfl rfl kk) ?_
  obtain ⟨T5, h5, X5, e5, W5, st5⟩ := putF X2 hx hZ hown (host := "") (Or.inl (hw _ (List.mem_of_getElem? (i := 57) rfl))) Via.refl e2 F_text E_a0 (Or.inr ⟨(hw _ (List.mem_of_getElem? (i := 58) rfl)), rfl, hnm⟩) (hw _ (List.mem_of_getElem? (i := 38) rfl)) (ty := (.object "java/lang/String")) (by decide) rfl rfl (g := (mkF m 11 #[.val (.ref a0), .val (.ref a1), .val (.ref a2), .val (.int p3)] [(.ref a2), (.ref a0)])) rfl rfl (hb hby d9_11)
  have N5 := Fr.snoc X5 N2 g_a0
  have F_text := F_text.same W5
  have E_a0 := E_a0.wr W5
  have F_kind := F_kind.other W5 (Or.inr (slot_ne (Or.inr (hw _ (List.mem_of_getElem? (i := 56) rfl))) (Or.inr (hw _ (List.mem_of_getElem? (i := 58) rfl))) (by decide) (t := (.object "com/example/patient_snoop/patientsnoop/io/Token$Kind")) (t' := (.object "java/lang/String")) (by decide) (by decide)))
  have F_line := F_line.other W5 (Or.inr (slot_ne (Or.inr (hw _ (List.mem_of_getElem? (i := 60) rfl))) (Or.inr (hw _ (List.mem_of_getElem? (i := 58) rfl))) (by decide) (t := .int) (t' := (.object "java/lang/String")) (by decide) (by decide)))
  have Zs6 := Nat.le_trans Zs3 (Keep.of_wr W5).1
  have Kp7 := Kp4.wr W5 (Or.inl (List.mem_of_getElem? (i := 0) rfl))
  refine Go.st (S' := T5.setTop (mkF m 14 #[.val (.ref a0), .val (.ref a1), .val (.ref a2), .val (.int p3)] [])) st5 ?_
  refine Go.st (S' := T5.setTop (mkF m 15 #[.val (.ref a0), .val (.ref a1), .val (.ref a2), .val (.int p3)] [(.ref a0)])) (fun _ kk => XS.aloadN X5.here hx rfl (hb hby d9_14) rfl rfl kk) ?_
  refine Go.st (S' := T5.setTop (mkF m 16 #[.val (.ref a0), .val (.ref a1), .val (.ref a2), .val (.int p3)] [(.int p3), (.ref a0)])) (fun _ kk => XS.iloadN X5.here hx rfl (hb hby d9_15) rfl kk) ?_
  obtain ⟨T8, h8, X8, e8, W8, st8⟩ := putF X5 hx hZ hown (host := "") (Or.inl (hw _ (List.mem_of_getElem? (i := 59) rfl))) Via.refl e5 F_line E_a0 (Or.inr ⟨(hw _ (List.mem_of_getElem? (i := 60) rfl)), rfl, hnm⟩) (hw _ (List.mem_of_getElem? (i := 38) rfl)) (ty := .int) (by decide) rfl rfl (g := (mkF m 16 #[.val (.ref a0), .val (.ref a1), .val (.ref a2), .val (.int p3)] [(.int p3), (.ref a0)])) rfl rfl (hb hby d9_16)
  have N8 := Fr.snoc X8 N5 g_a0
  have F_line := F_line.same W8
  have E_a0 := E_a0.wr W8
  have F_kind := F_kind.other W8 (Or.inr (slot_ne (Or.inr (hw _ (List.mem_of_getElem? (i := 56) rfl))) (Or.inr (hw _ (List.mem_of_getElem? (i := 60) rfl))) (by decide) (t := (.object "com/example/patient_snoop/patientsnoop/io/Token$Kind")) (t' := .int) (by decide) (by decide)))
  have F_text := F_text.other W8 (Or.inr (slot_ne (Or.inr (hw _ (List.mem_of_getElem? (i := 58) rfl))) (Or.inr (hw _ (List.mem_of_getElem? (i := 60) rfl))) (by decide) (t := (.object "java/lang/String")) (t' := .int) (by decide) (by decide)))
  have Zs9 := Nat.le_trans Zs6 (Keep.of_wr W8).1
  have Kp10 := Kp7.wr W8 (Or.inl (List.mem_of_getElem? (i := 0) rfl))
  refine Go.st (S' := T8.setTop (mkF m 19 #[.val (.ref a0), .val (.ref a1), .val (.ref a2), .val (.int p3)] [])) st8 ?_
  exact Go.ret0 X8 hx hlk Bd.returns (hb hby d9_19) (by rw [e8]; exact ⟨rfl, N8, Kp10, E_a0, F_kind, F_text, F_line⟩) (by decide) (by decide)
theorem d11_0 : decode prog_14_method_3_code 0 = .ok (.aload_n 0, 1) := by decide +kernel
theorem d11_1 : decode prog_14_method_3_code 1 = .ok (.getfield 7, 3) := by decide +kernel
theorem d11_4 : decode prog_14_method_3_code 4 = .ok (.getstatic 32, 3) := by decide +kernel
theorem d11_7 : decode prog_14_method_3_code 7 = .ok (.if_acmp .ne 18, 3) := by decide +kernel
theorem d11_10 : decode prog_14_method_3_code 10 = .ok (.aload_n 0, 1) := by decide +kernel
theorem d11_11 : decode prog_14_method_3_code 11 = .ok (.getfield 13, 3) := by decide +kernel
theorem d11_14 : decode prog_14_method_3_code 14 = .ok (.aload_n 1, 1) := by decide +kernel
theorem d11_15 : decode prog_14_method_3_code 15 = .ok (.invokevirtual 26, 3) := by decide +kernel
theorem d11_18 : decode prog_14_method_3_code 18 = .ok (.ifCond .eq 7, 3) := by decide +kernel
theorem d11_21 : decode prog_14_method_3_code 21 = .ok (.iconst 1, 1) := by decide +kernel
theorem d11_22 : decode prog_14_method_3_code 22 = .ok (.goto 4, 3) := by decide +kernel
theorem d11_25 : decode prog_14_method_3_code 25 = .ok (.iconst 0, 1) := by decide +kernel
theorem d11_26 : decode prog_14_method_3_code 26 = .ok (.ireturn, 1) := by decide +kernel
theorem ef_11 (m : MethodId) (a0 : Addr) (a1 : Addr) : entryFrame m #[(.ref a0), (.ref a1)] 2 = mkF m 0 #[.val (.ref a0), .val (.ref a1)] [] := by first | (simp [entryFrame, mkF, argsToLocals, Value.category]; done) | rfl
set_option maxRecDepth 65536 in
set_option maxHeartbeats 4000000 in
theorem rmIs (l : Launch) (Z : State) (az : Array Value) (hw : ∀ d ∈ tables_1, d.before az Z = true) (ws : List Jvm.Cond) (a0 : Addr) (a1 : Addr) (zc : Int32) (kq s0 tx d0 d1 : Addr) (k0 k1 : ClassId) (z0 z1 : Int32) (xs0 xs1 : List Int32) (h0 : Heap) (n0 : Nat) (Z0 : n0 ≤ h0.size) (S_C : Sta Z h0 "java/lang/String" "COMPACT_STRINGS" "Z" (.int zc)) (hzc : ¬ zc = 0) (S_NAME : Sta Z h0 "com/example/patient_snoop/patientsnoop/io/Token$Kind" "NAME" "Lcom/example/patient_snoop/patientsnoop/io/Token$Kind;" (.ref s0)) (F_kind : Fld Z h0 a0 "com/example/patient_snoop/patientsnoop/io/Token" "kind" "Lcom/example/patient_snoop/patientsnoop/io/Token$Kind;" (.ref kq)) (F_text : Fld Z h0 a0 "com/example/patient_snoop/patientsnoop/io/Token" "text" "Ljava/lang/String;" (.ref tx)) (E_tx : Exa Z h0 tx "java/lang/String") (FC_tx : Fld Z h0 tx "java/lang/String" "coder" "B" (.int 0)) (FV_tx : Fld Z h0 tx "java/lang/String" "value" "[B" (.ref d0)) (V_d0 : Arv Z h0 d0 k0 .byte z0 (xs0.map .int) (.int 0)) (l0 : z0.toNatClampNeg = xs0.length) (E_a1 : Exa Z h0 a1 "java/lang/String") (FC_a1 : Fld Z h0 a1 "java/lang/String" "coder" "B" (.int 0)) (FV_a1 : Fld Z h0 a1 "java/lang/String" "value" "[B" (.ref d1)) (V_d1 : Arv Z h0 d1 k1 .byte z1 (xs1.map .int) (.int 0)) (l1 : z1.toNatClampNeg = xs1.length) :
    MetFree l (⟨"com/example/patient_snoop/patientsnoop/io/Token", "isName", "(Ljava/lang/String;)Z"⟩ : MethodName) (head1 (Jvm.Cond.code (⟨"com/example/patient_snoop/patientsnoop/io/Token", "isName", "(Ljava/lang/String;)Z"⟩ : MethodName) prog_14_method_3_code 2 (some .boolean) :: ws) ({ frames := 2, cells := 0, slots := 0, locals := 28 } : Room)) (fun a U => a = #[(.ref a0), (.ref a1)] ∧ Z.Warmed39 U.vm ∧ U.heap = h0) (fun _ _ _ _ _ => True) (fun _ U o U' => ∃ v L, o = .returned v ∧ (PQ (.int (if kq = s0 then own_eqI xs0 xs1 else 0)) n0 h0) v U'.heap L ∧ FrameEnd U o U' L ({ frames := 2, cells := 0, slots := 0, locals := 28 } : Room).cells ({ frames := 2, cells := 0, slots := 0, locals := 28 } : Room).slots) := by
  refine MetFree.of_bodySF (plainFor_of_name pn_5) hisR ?_
  intro p e s m args below meth c s₁ Bd hml0 hP hK
  obtain ⟨rfl, hZ, hh⟩ := hP
  have hx := Bd.exec
  have hby := Bd.bytes
  have hlk : meth.locks = false := Bd.notSynchronized
  have hml : c.maxLocals = 2 := hml0
  have hown : s.vm.findClass "com/example/patient_snoop/patientsnoop/io/Token" = some m.cls := findClass_of_methodNamed Bd.named
  have hnm := (name_of_methodNamed Bd.named Bd.method).1
  have X0 : Stand p l e ({ frames := 2, cells := 0, slots := 0, locals := 28 } : Room) s m #[(.ref a0), (.ref a1)] below meth c s₁ [] 0 0 := Stand.of_body Bd
  have e0 : s₁.heap = h0 := by rw [← hh, Bd.state]; rfl
  have N0 := Fr.nil n0
  show Go p e below s ((PQ (.int (if kq = s0 then own_eqI xs0 xs1 else 0)) n0 h0)) ({ frames := 2, cells := 0, slots := 0, locals := 28 } : Room).cells ({ frames := 2, cells := 0, slots := 0, locals := 28 } : Room).slots (s₁.setTop (entryFrame m #[(.ref a0), (.ref a1)] 2))
  rw [ef_11 m a0 a1]
  refine Go.st (S' := s₁.setTop (mkF m 1 #[.val (.ref a0), .val (.ref a1)] [(.ref a0)])) (fun _ kk => XS.aloadN X0.here hx rfl (hb hby d11_0) rfl rfl kk) ?_
  obtain ⟨T1, X1, e1, st1⟩ := getF X0 hx hZ hown (host := "") (Or.inl (hw _ (List.mem_of_getElem? (i := 55) rfl))) Via.refl e0 F_kind (g := (mkF m 1 #[.val (.ref a0), .val (.ref a1)] [(.ref a0)])) rfl rfl (hb hby d11_1)
  refine Go.st (S' := T1.setTop (mkF m 4 #[.val (.ref a0), .val (.ref a1)] [(.ref kq)])) st1 ?_
  obtain ⟨T2, X2, e2, st2⟩ := getS2 X1 hx hZ hown (host := "") (Or.inl (hw _ (List.mem_of_getElem? (i := 66) rfl))) Via.refl e1 S_NAME (g := (mkF m 4 #[.val (.ref a0), .val (.ref a1)] [(.ref kq)])) rfl (hb hby d11_4)
  refine Go.st (S' := T2.setTop (mkF m 7 #[.val (.ref a0), .val (.ref a1)] [(.ref s0), (.ref kq)])) st2 ?_
  by_cases hq : kq = s0
  · subst hq
    refine Go.st (S' := T2.setTop (mkF m 10 #[.val (.ref a0), .val (.ref a1)] [])) (fun _ kk => Jvm.RoadKit.acmp (g := (mkF m 7 #[.val (.ref a0), .val (.ref a1)] [(.ref kq), (.ref kq)])) X2 hx rfl rfl rfl (pc0 := 7) (pc' := 10) (same := true) rfl (hb hby d11_7) rfl (decide_eq_true rfl) (by decide) (by decide) kk) ?_
    refine Go.st (S' := T2.setTop (mkF m 11 #[.val (.ref a0), .val (.ref a1)] [(.ref a0)])) (fun _ kk => XS.aloadN X2.here hx rfl (hb hby d11_10) rfl rfl kk) ?_
    obtain ⟨T3, X3, e3, st3⟩ := getF X2 hx hZ hown (host := "") (Or.inl (hw _ (List.mem_of_getElem? (i := 57) rfl))) Via.refl e2 F_text (g := (mkF m 11 #[.val (.ref a0), .val (.ref a1)] [(.ref a0)])) rfl rfl (hb hby d11_11)
    refine Go.st (S' := T3.setTop (mkF m 14 #[.val (.ref a0), .val (.ref a1)] [(.ref tx)])) st3 ?_
    refine Go.st (S' := T3.setTop (mkF m 15 #[.val (.ref a0), .val (.ref a1)] [(.ref a1), (.ref tx)])) (fun _ kk => XS.aloadN X3.here hx rfl (hb hby d11_14) rfl rfl kk) ?_
    obtain ⟨cq4, kq4, q4a, q4b, q4c⟩ := isOf hZ e3 E_tx
    obtain ⟨_, _, ⟨T4, L4, k4, n4⟩, -, X4, ⟨Lc4, hQ4, l4, y4, z4⟩, st4⟩ := X3.virtualBack hx (y := (⟨"java/lang/String", "equals", "(Ljava/lang/Object;)Z"⟩ : MethodName)) (z := (⟨"java/lang/String", "equals", "(Ljava/lang/Object;)Z"⟩ : MethodName)) hown (mvT hZ (hw _ (List.mem_of_getElem? (i := 67) rfl))) (mvT hZ (hw _ (List.mem_of_getElem? (i := 68) rfl))) (notFace_of_selects (args := #[]) (mvT hZ (hw _ (List.mem_of_getElem? (i := 70) rfl)))) (mvT hZ (hw _ (List.mem_of_getElem? (i := 70) rfl))) (mvT hZ (hw _ (List.mem_of_getElem? (i := 69) rfl))) (by decide) (backOf (W := 0) (rmSE l Z az hw [] tx a1 zc d0 d1 k0 k1 z0 z1 xs0 xs1 h0 n0 Z0 S_C hzc E_tx FC_tx FV_tx V_d0 l0 E_a1 FC_a1 FV_a1 V_d1 l1) hZ (hw _ (List.mem_of_getElem? (i := 71) rfl)) (hw _ (List.mem_of_getElem? (i := 6) rfl)) (by decide) (by decide)) q4a q4c (g := (mkF m 15 #[.val (.ref a0), .val (.ref a1)] [(.ref a1), (.ref tx)])) rfl (by rw [hml]; rfl) (Steps.refl _) (argsL := [(.ref a1)]) (rest := []) (lenOf pd_10 rfl) rfl (by show 2 * 0 + _ ≤ _; exact Nat.le_of_eq rfl) (hb hby d11_15) (fun _ _ => ⟨rfl, e3, (by decide : 0 + 0 ≤ _), (by decide : 0 + 0 ≤ _)⟩)
    dsimp only [Pt.U, Pt.locs, Pt.cells, Pt.slots] at X4 l4 y4 z4 st4 hQ4
    subst l4 y4 z4
    obtain ⟨hv4, N4q, e4⟩ := hQ4
    subst hv4
    have N4 := Fr.app N0 N4q
    refine Go.tr (S' := T4.setTop (mkF m 18 #[.val (.ref a0), .val (.ref a1)] [(.int (own_eqI xs0 xs1))])) st4 ?_
    by_cases hc5 : (own_eqI xs0 xs1) = (0 : Int32)
    · refine Go.st (S' := T4.setTop (mkF m 25 #[.val (.ref a0), .val (.ref a1)] [])) (fun _ kk => XS.ifYes X4.here hx rfl (pc0 := 18) (pc' := 25) rfl (hb hby d11_18) rfl ((if0 _ _).trans (teq hc5).1) (by decide) (by decide) kk) ?_
      refine Go.st (S' := T4.setTop (mkF m 26 #[.val (.ref a0), .val (.ref a1)] [(.int (0 : Int32))])) (fun _ kk => XS.iconst X4.here hx rfl (hb hby d11_25) kk) ?_
      exact Go.retN X4 hx hlk (t := .boolean) Bd.returns (by simp) (hb hby d11_26) (⟨congrArg (fun q => some (Value.int q)) (Eq.symm (show (if kq = kq then own_eqI xs0 xs1 else 0) = (0 : Int32) from (if_pos rfl).trans (hc5))), N4, e4⟩) (by decide) (by decide)
    · refine Go.st (S' := T4.setTop (mkF m 21 #[.val (.ref a0), .val (.ref a1)] [])) (fun _ kk => XS.ifNo X4.here hx rfl (hb hby d11_18) rfl ((if0 _ _).trans (feq hc5).1) kk) ?_
      refine Go.st (S' := T4.setTop (mkF m 22 #[.val (.ref a0), .val (.ref a1)] [(.int (1 : Int32))])) (fun _ kk => XS.iconst X4.here hx rfl (hb hby d11_21) kk) ?_
      refine Go.st (S' := T4.setTop (mkF m 26 #[.val (.ref a0), .val (.ref a1)] [(.int (1 : Int32))])) (fun _ kk => XS.goto X4.here hx rfl (pc0 := 22) (pc' := 26) rfl (hb hby d11_22) (by decide) (by decide) kk) ?_
      exact Go.retN X4 hx hlk (t := .boolean) Bd.returns (by simp) (hb hby d11_26) (⟨congrArg (fun q => some (Value.int q)) (Eq.symm (show (if kq = kq then own_eqI xs0 xs1 else 0) = (1 : Int32) from (if_pos rfl).trans ((own_eq01 xs0 xs1).resolve_left hc5))), N4, e4⟩) (by decide) (by decide)
  · refine Go.st (S' := T2.setTop (mkF m 25 #[.val (.ref a0), .val (.ref a1)] [])) (fun _ kk => Jvm.RoadKit.acmp (g := (mkF m 7 #[.val (.ref a0), .val (.ref a1)] [(.ref s0), (.ref kq)])) X2 hx rfl rfl rfl (pc0 := 7) (pc' := 25) (same := false) rfl (hb hby d11_7) rfl (decide_eq_false fun q => hq (Value.ref.inj q)) (by decide) (by decide) kk) ?_
    refine Go.st (S' := T2.setTop (mkF m 26 #[.val (.ref a0), .val (.ref a1)] [(.int (0 : Int32))])) (fun _ kk => XS.iconst X2.here hx rfl (hb hby d11_25) kk) ?_
    exact Go.retN X2 hx hlk (t := .boolean) Bd.returns (by simp) (hb hby d11_26) (⟨congrArg (fun q => some (Value.int q)) (Eq.symm (show (if kq = s0 then own_eqI xs0 xs1 else 0) = (0 : Int32) from if_neg hq)), N0, e2⟩) (by decide) (by decide)
theorem own_c8 {x c cm : Int32} {P : Prop} [Decidable P] (hm : cm = if P then (3 : Int32) else (255 : Int32)) (h : c = (x &&& cm).toUInt32.toUInt16.toUInt32.toInt32) : 0 ≤ c.toInt ∧ c.toInt ≤ 255 := by
  have q := c_i2c (x &&& cm)
  have b : 0 ≤ (x &&& cm).toInt ∧ (x &&& cm).toInt ≤ 255 := by
    by_cases p : P
    · rw [if_pos p] at hm; subst hm
      have := c_mask x 3 2 (by decide) (by decide)
      omega
    · rw [if_neg p] at hm; subst hm
      have := c_mask x 255 8 (by decide) (by decide)
      omega
  rw [h]
  omega
theorem own_cc {c : Int32} (h : 0 ≤ c.toInt ∧ c.toInt ≤ 255) : c.toUInt32.toUInt16.toUInt32.toInt32 = c := by
  have q := c_i2c c
  exact Int32.toInt_inj.mp (by omega)
theorem own_u {c : Int32} (h : 0 ≤ c.toInt ∧ c.toInt ≤ 255) : ¬ (255 : Int32) < c.toUInt32.toUInt16.toUInt32.toInt32 := by
  rw [own_cc h, Int32.lt_iff_toInt_lt]
  simp only [Int32.reduceToInt]
  omega
theorem own_m3 (x : Int32) : 0 ≤ (x &&& (3 : Int32)).toInt ∧ (x &&& (3 : Int32)).toInt < 4 := by
  have := c_mask x 3 2 (by decide) (by decide)
  omega
theorem ef_0 (m : MethodId) (p0 : Int32) (p1 : Int32) (p2 : Int32) (p3 : Int32) (p4 : Int32) : entryFrame m #[(.int p0), (.int p1), (.int p2), (.int p3), (.int p4)] maxLocals = mkF m 0 #[.val (.int p0), .val (.int p1), .val (.int p2), .val (.int p3), .val (.int p4), .unset, .unset, .unset, .unset, .unset, .unset, .unset, .unset, .unset, .unset, .unset, .unset, .unset, .unset, .unset] [] := by first | (simp [entryFrame, mkF, argsToLocals, Value.category, maxLocals]; done) | rfl
def own_ev (lt ln ca0 ca1 ca2 cb0 cb1 cb2 : Int32) : Int32 := (if lt = ln then (if lt < (1 : Int32) then (if lt < (2 : Int32) then (if lt < (3 : Int32) then (1 : Int32) else (if ca2 = cb2 then (1 : Int32) else (0 : Int32))) else (if ca1 = cb1 then (if lt < (3 : Int32) then (1 : Int32) else (if ca2 = cb2 then (1 : Int32) else (0 : Int32))) else (0 : Int32))) else (if ca0 = cb0 then (if lt < (2 : Int32) then (if lt < (3 : Int32) then (1 : Int32) else (if ca2 = cb2 then (1 : Int32) else (0 : Int32))) else (if ca1 = cb1 then (if lt < (3 : Int32) then (1 : Int32) else (if ca2 = cb2 then (1 : Int32) else (0 : Int32))) else (0 : Int32))) else (0 : Int32))) else (0 : Int32))
theorem own_lo {a b : Int32} (ha : 0 ≤ a.toInt ∧ a.toInt ≤ 255) (hb : 0 ≤ b.toInt ∧ b.toInt ≤ 255) : (((a.toUInt32.toUInt16.toUInt32.toInt32).toInt8.toInt32).toInt8.toInt32) = (((b.toUInt32.toUInt16.toUInt32.toInt32).toInt8.toInt32).toInt8.toInt32) ↔ a = b := by
  rw [own_cc ha, own_cc hb]
  refine ⟨fun h => ?_, fun h => by rw [h]⟩
  have q1 := c_i2b a
  have q2 := c_i2b b
  have q3 := c_i2b a.toInt8.toInt32
  have q4 := c_i2b b.toInt8.toInt32
  have e := congrArg Int32.toInt h
  exact Int32.toInt_inj.mp (by omega)
theorem own_0123 {x : Int32} (h : 0 ≤ x.toInt ∧ x.toInt < 4) : x = 0 ∨ x = 1 ∨ x = 2 ∨ x = 3 := by
  have h1 : x.toInt = 0 ∨ x.toInt = 1 ∨ x.toInt = 2 ∨ x.toInt = 3 := by omega
  rcases h1 with q | q | q | q
  · exact Or.inl (Int32.toInt_inj.mp q)
  · exact Or.inr (Or.inl (Int32.toInt_inj.mp q))
  · exact Or.inr (Or.inr (Or.inl (Int32.toInt_inj.mp q)))
  · exact Or.inr (Or.inr (Or.inr (Int32.toInt_inj.mp q)))
theorem own_law {lt ln ca0 ca1 ca2 cb0 cb1 cb2 : Int32} (hl : 0 ≤ lt.toInt ∧ lt.toInt < 4) (hn : 0 ≤ ln.toInt ∧ ln.toInt < 4) (h1 : 0 ≤ ca0.toInt ∧ ca0.toInt ≤ 255) (h2 : 0 ≤ ca1.toInt ∧ ca1.toInt ≤ 255) (h3 : 0 ≤ ca2.toInt ∧ ca2.toInt ≤ 255) (h4 : 0 ≤ cb0.toInt ∧ cb0.toInt ≤ 255) (h5 : 0 ≤ cb1.toInt ∧ cb1.toInt ≤ 255) (h6 : 0 ≤ cb2.toInt ∧ cb2.toInt ≤ 255) : own_eqI (own_mk lt ca0 ca1 ca2) (own_mk ln cb0 cb1 cb2) = own_ev lt ln ca0 ca1 ca2 cb0 cb1 cb2 := by
  have d1 : ¬ (1 : Int32) = 0 := by decide
  have d2 : ¬ (2 : Int32) = 0 := by decide
  have d3 : ¬ (3 : Int32) = 0 := by decide
  have d4 : ¬ (2 : Int32) = 1 := by decide
  have d5 : ¬ (3 : Int32) = 1 := by decide
  have d6 : ¬ (3 : Int32) = 2 := by decide
  unfold own_eqI own_ev own_mk
  rcases own_0123 hl with rfl | rfl | rfl | rfl <;> rcases own_0123 hn with rfl | rfl | rfl | rfl <;>
    simp +decide only [if_true, if_false, List.cons.injEq, and_true, own_lo h1 h4, own_lo h2 h5, own_lo h3 h6, List.cons_ne_nil, List.nil_eq, and_false, reduceCtorEq]
  all_goals (by_cases q1 : ca0 = cb0 <;> by_cases q2 : ca1 = cb1 <;> by_cases q3 : ca2 = cb2 <;> simp +decide [q1, q2, q3])
theorem own_fin {k0 e x lt ln ca0 ca1 ca2 cb0 cb1 cb2 : Int32} {kq s0 : Addr} {g : Int32} (hg : g = own_ev lt ln ca0 ca1 ca2 cb0 cb1 cb2) (h01 : g = 0 ∨ g = 1) (hk : kq = s0 ↔ (k0 &&& (3 : Int32)) = (0 : Int32)) (he : e = own_ev lt ln ca0 ca1 ca2 cb0 cb1 cb2) (hx : x = if (k0 &&& (3 : Int32)) = (0 : Int32) then (if e = (0 : Int32) then (0 : Int32) else (1 : Int32)) else (0 : Int32)) : (if kq = s0 then g else 0) = x := by
  rw [hx]
  by_cases q : kq = s0
  · rw [if_pos q, if_pos (hk.mp q), he, ← hg]
    rcases h01 with r | r <;> rw [r] <;> rfl
  · rw [if_neg q, if_neg (fun z => q (hk.mpr z))]
set_option maxRecDepth 65536 in
set_option maxHeartbeats 4000000 in
theorem rm0 (l : Launch) (Z : State) (az : Array Value) (hw : ∀ d ∈ tables_1, d.before az Z = true) (ws : List Jvm.Cond) (p0 : Int32) (p1 : Int32) (p2 : Int32) (p3 : Int32) (p4 : Int32) (zc : Int32) (s0 s1 s2 s3 : Addr) (h0 : Heap) (n0 : Nat) (Z0 : n0 ≤ h0.size) (S_C : Sta Z h0 "java/lang/String" "COMPACT_STRINGS" "Z" (.int zc)) (hzc : ¬ zc = 0) (S_NAME : Sta Z h0 "com/example/patient_snoop/patientsnoop/io/Token$Kind" "NAME" "Lcom/example/patient_snoop/patientsnoop/io/Token$Kind;" (.ref s0)) (S_NUMBER : Sta Z h0 "com/example/patient_snoop/patientsnoop/io/Token$Kind" "NUMBER" "Lcom/example/patient_snoop/patientsnoop/io/Token$Kind;" (.ref s1)) (S_SYMBOL : Sta Z h0 "com/example/patient_snoop/patientsnoop/io/Token$Kind" "SYMBOL" "Lcom/example/patient_snoop/patientsnoop/io/Token$Kind;" (.ref s2)) (S_END : Sta Z h0 "com/example/patient_snoop/patientsnoop/io/Token$Kind" "END" "Lcom/example/patient_snoop/patientsnoop/io/Token$Kind;" (.ref s3)) (e1 : s1 ≠ s0) (e2 : s2 ≠ s0) (e3 : s3 ≠ s0) :
    MetFree l x (head1 (Jvm.Cond.code x code maxLocals ret :: ws) room_1) (fun a U => a = #[(.int p0), (.int p1), (.int p2), (.int p3), (.int p4)] ∧ Z.Warmed39 U.vm ∧ U.heap = h0 ∧ (PCH Z h0) U.vm) (fun _ _ _ _ _ => True) (fun _ U o U' => ∃ v L, o = .returned v ∧ (LQW n0) v U'.heap U'.vm L ∧ ReturnedEndW U o U' L room_1.cells room_1.slots) := by
  refine MetFree.of_bodySF (plainFor_of_name pn_3) hisR ?_
  intro p e s m args below meth c s₁ Bd hml0 hP hK
  obtain ⟨rfl, hZ, hh, Hc⟩ := hP
  have hx := Bd.exec
  have hby := Bd.bytes
  have hlk : meth.locks = false := Bd.notSynchronized
  have hml : c.maxLocals = 20 := hml0
  have hown : s.vm.findClass "com/example/patient_snoop/patientsnoop/io/TokenIsNamePinLaw" = some m.cls := findClass_of_methodNamed Bd.named
  have hnm := (name_of_methodNamed Bd.named Bd.method).1
  have X0 : Stand p l e room_1 s m #[(.int p0), (.int p1), (.int p2), (.int p3), (.int p4)] below meth c s₁ [] 0 0 := Stand.of_body Bd
  have X0 : Stand p l e room_1 (s.setVm s.vm) m #[(.int p0), (.int p1), (.int p2), (.int p3), (.int p4)] below meth c s₁ [] 0 0 := X0
  have e0 : s₁.heap = h0 := by rw [← hh, Bd.state]; rfl
  have hS : s.Since s.vm n0 := (State.WarmedH.refl s).since n0
  have hk : n0 ≤ h0.size := Z0
  have N0 := Fr.nil n0
  show GoW p e below s ((LQW n0)) room_1.cells room_1.slots (s₁.setTop (entryFrame m #[(.int p0), (.int p1), (.int p2), (.int p3), (.int p4)] maxLocals))
  rw [ef_0 m p0 p1 p2 p3 p4]
  obtain ⟨cm, hj_cm⟩ : ∃ z : Int32, z = (if (((p3.toUInt32 >>> ((4 : Int32) &&& 31).toUInt32).toInt32) &&& (1 : Int32)) = (0 : Int32) then (3 : Int32) else (255 : Int32)) := ⟨_, rfl⟩
  have stj1 : ∀ tq, Steps p.tables e below (s₁.setTop (mkF m 15 #[.val (.int p0), .val (.int p1), .val (.int p2), .val (.int p3), .val (.int p4), .unset, .unset, .unset, .unset, .unset, .unset, .unset, .unset, .unset, .unset, .unset, .unset, .unset, .unset, .unset] [(.int cm)])) tq → Steps p.tables e below (s₁.setTop (mkF m 0 #[.val (.int p0), .val (.int p1), .val (.int p2), .val (.int p3), .val (.int p4), .unset, .unset, .unset, .unset, .unset, .unset, .unset, .unset, .unset, .unset, .unset, .unset, .unset, .unset, .unset] [])) tq := by
    intro tq kj
    refine via (S' := s₁.setTop (mkF m 1 #[.val (.int p0), .val (.int p1), .val (.int p2), .val (.int p3), .val (.int p4), .unset, .unset, .unset, .unset, .unset, .unset, .unset, .unset, .unset, .unset, .unset, .unset, .unset, .unset, .unset] [(.int p3)])) (fun kk => XS.iloadN X0.here hx rfl (hb hby at_0) rfl kk) ?_
    refine via (S' := s₁.setTop (mkF m 2 #[.val (.int p0), .val (.int p1), .val (.int p2), .val (.int p3), .val (.int p4), .unset, .unset, .unset, .unset, .unset, .unset, .unset, .unset, .unset, .unset, .unset, .unset, .unset, .unset, .unset] [(.int (4 : Int32)), (.int p3)])) (fun kk => XS.iconst X0.here hx rfl (hb hby at_1) kk) ?_
    refine via (S' := s₁.setTop (mkF m 3 #[.val (.int p0), .val (.int p1), .val (.int p2), .val (.int p3), .val (.int p4), .unset, .unset, .unset, .unset, .unset, .unset, .unset, .unset, .unset, .unset, .unset, .unset, .unset, .unset, .unset] [(.int ((p3.toUInt32 >>> ((4 : Int32) &&& 31).toUInt32).toInt32))])) (fun kk => XS.iushr X0.here hx rfl (hb hby at_2) rfl kk) ?_
    refine via (S' := s₁.setTop (mkF m 4 #[.val (.int p0), .val (.int p1), .val (.int p2), .val (.int p3), .val (.int p4), .unset, .unset, .unset, .unset, .unset, .unset, .unset, .unset, .unset, .unset, .unset, .unset, .unset, .unset, .unset] [(.int (1 : Int32)), (.int ((p3.toUInt32 >>> ((4 : Int32) &&& 31).toUInt32).toInt32))])) (fun kk => XS.iconst X0.here hx rfl (hb hby at_3) kk) ?_
    refine via (S' := s₁.setTop (mkF m 5 #[.val (.int p0), .val (.int p1), .val (.int p2), .val (.int p3), .val (.int p4), .unset, .unset, .unset, .unset, .unset, .unset, .unset, .unset, .unset, .unset, .unset, .unset, .unset, .unset, .unset] [(.int (((p3.toUInt32 >>> ((4 : Int32) &&& 31).toUInt32).toInt32) &&& (1 : Int32)))])) (fun kk => XS.iand X0.here hx rfl (hb hby at_4) rfl kk) ?_
    by_cases hc2 : (((p3.toUInt32 >>> ((4 : Int32) &&& 31).toUInt32).toInt32) &&& (1 : Int32)) = (0 : Int32)
    · refine via (S' := s₁.setTop (mkF m 14 #[.val (.int p0), .val (.int p1), .val (.int p2), .val (.int p3), .val (.int p4), .unset, .unset, .unset, .unset, .unset, .unset, .unset, .unset, .unset, .unset, .unset, .unset, .unset, .unset, .unset] [])) (fun kk => XS.ifYes X0.here hx rfl (pc0 := 5) (pc' := 14) rfl (hb hby at_5) rfl ((if0 _ _).trans (teq hc2).1) (by decide) (by decide) kk) ?_
      refine via (S' := s₁.setTop (mkF m 15 #[.val (.int p0), .val (.int p1), .val (.int p2), .val (.int p3), .val (.int p4), .unset, .unset, .unset, .unset, .unset, .unset, .unset, .unset, .unset, .unset, .unset, .unset, .unset, .unset, .unset] [(.int (3 : Int32))])) (fun kk => XS.iconst X0.here hx rfl (hb hby at_14) kk) ?_
      have qj_cm : cm = (3 : Int32) := hj_cm.trans (by rw [if_pos hc2])
      rw [qj_cm] at kj
      exact kj
    · refine via (S' := s₁.setTop (mkF m 8 #[.val (.int p0), .val (.int p1), .val (.int p2), .val (.int p3), .val (.int p4), .unset, .unset, .unset, .unset, .unset, .unset, .unset, .unset, .unset, .unset, .unset, .unset, .unset, .unset, .unset] [])) (fun kk => XS.ifNo X0.here hx rfl (hb hby at_5) rfl ((if0 _ _).trans (feq hc2).1) kk) ?_
      refine via (S' := s₁.setTop (mkF m 11 #[.val (.int p0), .val (.int p1), .val (.int p2), .val (.int p3), .val (.int p4), .unset, .unset, .unset, .unset, .unset, .unset, .unset, .unset, .unset, .unset, .unset, .unset, .unset, .unset, .unset] [(.int (255 : Int32))])) (fun kk => XS.sipush X0.here hx rfl (hb hby at_8) kk) ?_
      refine via (S' := s₁.setTop (mkF m 15 #[.val (.int p0), .val (.int p1), .val (.int p2), .val (.int p3), .val (.int p4), .unset, .unset, .unset, .unset, .unset, .unset, .unset, .unset, .unset, .unset, .unset, .unset, .unset, .unset, .unset] [(.int (255 : Int32))])) (fun kk => XS.goto X0.here hx rfl (pc0 := 11) (pc' := 15) rfl (hb hby at_11) (by decide) (by decide) kk) ?_
      have qj_cm : cm = (255 : Int32) := hj_cm.trans (by rw [if_neg hc2])
      rw [qj_cm] at kj
      exact kj
  refine GoW.st (S' := s₁.setTop (mkF m 15 #[.val (.int p0), .val (.int p1), .val (.int p2), .val (.int p3), .val (.int p4), .unset, .unset, .unset, .unset, .unset, .unset, .unset, .unset, .unset, .unset, .unset, .unset, .unset, .unset, .unset] [(.int cm)])) stj1 ?_
  refine GoW.st (S' := s₁.setTop (mkF m 17 #[.val (.int p0), .val (.int p1), .val (.int p2), .val (.int p3), .val (.int p4), .val (.int cm), .unset, .unset, .unset, .unset, .unset, .unset, .unset, .unset, .unset, .unset, .unset, .unset, .unset, .unset] [])) (fun _ kk => XS.istore X0.here hx rfl (hb hby at_15) rfl (l' := #[.val (.int p0), .val (.int p1), .val (.int p2), .val (.int p3), .val (.int p4), .val (.int cm), .unset, .unset, .unset, .unset, .unset, .unset, .unset, .unset, .unset, .unset, .unset, .unset, .unset, .unset]) rfl kk) ?_
  refine GoW.st (S' := s₁.setTop (mkF m 18 #[.val (.int p0), .val (.int p1), .val (.int p2), .val (.int p3), .val (.int p4), .val (.int cm), .unset, .unset, .unset, .unset, .unset, .unset, .unset, .unset, .unset, .unset, .unset, .unset, .unset, .unset] [(.int p3)])) (fun _ kk => XS.iloadN X0.here hx rfl (hb hby at_17) rfl kk) ?_
  refine GoW.st (S' := s₁.setTop (mkF m 19 #[.val (.int p0), .val (.int p1), .val (.int p2), .val (.int p3), .val (.int p4), .val (.int cm), .unset, .unset, .unset, .unset, .unset, .unset, .unset, .unset, .unset, .unset, .unset, .unset, .unset, .unset] [(.int (3 : Int32)), (.int p3)])) (fun _ kk => XS.iconst X0.here hx rfl (hb hby at_18) kk) ?_
  refine GoW.st (S' := s₁.setTop (mkF m 20 #[.val (.int p0), .val (.int p1), .val (.int p2), .val (.int p3), .val (.int p4), .val (.int cm), .unset, .unset, .unset, .unset, .unset, .unset, .unset, .unset, .unset, .unset, .unset, .unset, .unset, .unset] [(.int (p3 &&& (3 : Int32)))])) (fun _ kk => XS.iand X0.here hx rfl (hb hby at_19) rfl kk) ?_
  obtain ⟨lt, h_lt⟩ : ∃ z : Int32, z = (p3 &&& (3 : Int32)) := ⟨_, rfl⟩
  rw [← h_lt]
  refine GoW.st (S' := s₁.setTop (mkF m 22 #[.val (.int p0), .val (.int p1), .val (.int p2), .val (.int p3), .val (.int p4), .val (.int cm), .val (.int lt), .unset, .unset, .unset, .unset, .unset, .unset, .unset, .unset, .unset, .unset, .unset, .unset, .unset] [])) (fun _ kk => XS.istore X0.here hx rfl (hb hby at_20) rfl (l' := #[.val (.int p0), .val (.int p1), .val (.int p2), .val (.int p3), .val (.int p4), .val (.int cm), .val (.int lt), .unset, .unset, .unset, .unset, .unset, .unset, .unset, .unset, .unset, .unset, .unset, .unset, .unset]) rfl kk) ?_
  refine GoW.st (S' := s₁.setTop (mkF m 23 #[.val (.int p0), .val (.int p1), .val (.int p2), .val (.int p3), .val (.int p4), .val (.int cm), .val (.int lt), .unset, .unset, .unset, .unset, .unset, .unset, .unset, .unset, .unset, .unset, .unset, .unset, .unset] [(.int p3)])) (fun _ kk => XS.iloadN X0.here hx rfl (hb hby at_22) rfl kk) ?_
  refine GoW.st (S' := s₁.setTop (mkF m 24 #[.val (.int p0), .val (.int p1), .val (.int p2), .val (.int p3), .val (.int p4), .val (.int cm), .val (.int lt), .unset, .unset, .unset, .unset, .unset, .unset, .unset, .unset, .unset, .unset, .unset, .unset, .unset] [(.int (5 : Int32)), (.int p3)])) (fun _ kk => XS.iconst X0.here hx rfl (hb hby at_23) kk) ?_
  refine GoW.st (S' := s₁.setTop (mkF m 25 #[.val (.int p0), .val (.int p1), .val (.int p2), .val (.int p3), .val (.int p4), .val (.int cm), .val (.int lt), .unset, .unset, .unset, .unset, .unset, .unset, .unset, .unset, .unset, .unset, .unset, .unset, .unset] [(.int ((p3.toUInt32 >>> ((5 : Int32) &&& 31).toUInt32).toInt32))])) (fun _ kk => XS.iushr X0.here hx rfl (hb hby at_24) rfl kk) ?_
  refine GoW.st (S' := s₁.setTop (mkF m 26 #[.val (.int p0), .val (.int p1), .val (.int p2), .val (.int p3), .val (.int p4), .val (.int cm), .val (.int lt), .unset, .unset, .unset, .unset, .unset, .unset, .unset, .unset, .unset, .unset, .unset, .unset, .unset] [(.int (1 : Int32)), (.int ((p3.toUInt32 >>> ((5 : Int32) &&& 31).toUInt32).toInt32))])) (fun _ kk => XS.iconst X0.here hx rfl (hb hby at_25) kk) ?_
  refine GoW.st (S' := s₁.setTop (mkF m 27 #[.val (.int p0), .val (.int p1), .val (.int p2), .val (.int p3), .val (.int p4), .val (.int cm), .val (.int lt), .unset, .unset, .unset, .unset, .unset, .unset, .unset, .unset, .unset, .unset, .unset, .unset, .unset] [(.int (((p3.toUInt32 >>> ((5 : Int32) &&& 31).toUInt32).toInt32) &&& (1 : Int32)))])) (fun _ kk => XS.iand X0.here hx rfl (hb hby at_26) rfl kk) ?_
  obtain ⟨ln, hj_ln⟩ : ∃ z : Int32, z = (if (((p3.toUInt32 >>> ((5 : Int32) &&& 31).toUInt32).toInt32) &&& (1 : Int32)) = (0 : Int32) then (((p3.toUInt32 >>> ((2 : Int32) &&& 31).toUInt32).toInt32) &&& (3 : Int32)) else lt) := ⟨_, rfl⟩
  have stj3 : ∀ tq, Steps p.tables e below (s₁.setTop (mkF m 40 #[.val (.int p0), .val (.int p1), .val (.int p2), .val (.int p3), .val (.int p4), .val (.int cm), .val (.int lt), .unset, .unset, .unset, .unset, .unset, .unset, .unset, .unset, .unset, .unset, .unset, .unset, .unset] [(.int ln)])) tq → Steps p.tables e below (s₁.setTop (mkF m 27 #[.val (.int p0), .val (.int p1), .val (.int p2), .val (.int p3), .val (.int p4), .val (.int cm), .val (.int lt), .unset, .unset, .unset, .unset, .unset, .unset, .unset, .unset, .unset, .unset, .unset, .unset, .unset] [(.int (((p3.toUInt32 >>> ((5 : Int32) &&& 31).toUInt32).toInt32) &&& (1 : Int32)))])) tq := by
    intro tq kj
    by_cases hc4 : (((p3.toUInt32 >>> ((5 : Int32) &&& 31).toUInt32).toInt32) &&& (1 : Int32)) = (0 : Int32)
    · refine via (S' := s₁.setTop (mkF m 35 #[.val (.int p0), .val (.int p1), .val (.int p2), .val (.int p3), .val (.int p4), .val (.int cm), .val (.int lt), .unset, .unset, .unset, .unset, .unset, .unset, .unset, .unset, .unset, .unset, .unset, .unset, .unset] [])) (fun kk => XS.ifYes X0.here hx rfl (pc0 := 27) (pc' := 35) rfl (hb hby at_27) rfl ((if0 _ _).trans (teq hc4).1) (by decide) (by decide) kk) ?_
      refine via (S' := s₁.setTop (mkF m 36 #[.val (.int p0), .val (.int p1), .val (.int p2), .val (.int p3), .val (.int p4), .val (.int cm), .val (.int lt), .unset, .unset, .unset, .unset, .unset, .unset, .unset, .unset, .unset, .unset, .unset, .unset, .unset] [(.int p3)])) (fun kk => XS.iloadN X0.here hx rfl (hb hby at_35) rfl kk) ?_
      refine via (S' := s₁.setTop (mkF m 37 #[.val (.int p0), .val (.int p1), .val (.int p2), .val (.int p3), .val (.int p4), .val (.int cm), .val (.int lt), .unset, .unset, .unset, .unset, .unset, .unset, .unset, .unset, .unset, .unset, .unset, .unset, .unset] [(.int (2 : Int32)), (.int p3)])) (fun kk => XS.iconst X0.here hx rfl (hb hby at_36) kk) ?_
      refine via (S' := s₁.setTop (mkF m 38 #[.val (.int p0), .val (.int p1), .val (.int p2), .val (.int p3), .val (.int p4), .val (.int cm), .val (.int lt), .unset, .unset, .unset, .unset, .unset, .unset, .unset, .unset, .unset, .unset, .unset, .unset, .unset] [(.int ((p3.toUInt32 >>> ((2 : Int32) &&& 31).toUInt32).toInt32))])) (fun kk => XS.iushr X0.here hx rfl (hb hby at_37) rfl kk) ?_
      refine via (S' := s₁.setTop (mkF m 39 #[.val (.int p0), .val (.int p1), .val (.int p2), .val (.int p3), .val (.int p4), .val (.int cm), .val (.int lt), .unset, .unset, .unset, .unset, .unset, .unset, .unset, .unset, .unset, .unset, .unset, .unset, .unset] [(.int (3 : Int32)), (.int ((p3.toUInt32 >>> ((2 : Int32) &&& 31).toUInt32).toInt32))])) (fun kk => XS.iconst X0.here hx rfl (hb hby at_38) kk) ?_
      refine via (S' := s₁.setTop (mkF m 40 #[.val (.int p0), .val (.int p1), .val (.int p2), .val (.int p3), .val (.int p4), .val (.int cm), .val (.int lt), .unset, .unset, .unset, .unset, .unset, .unset, .unset, .unset, .unset, .unset, .unset, .unset, .unset] [(.int (((p3.toUInt32 >>> ((2 : Int32) &&& 31).toUInt32).toInt32) &&& (3 : Int32)))])) (fun kk => XS.iand X0.here hx rfl (hb hby at_39) rfl kk) ?_
      have qj_ln : ln = (((p3.toUInt32 >>> ((2 : Int32) &&& 31).toUInt32).toInt32) &&& (3 : Int32)) := hj_ln.trans (by rw [if_pos hc4])
      rw [qj_ln] at kj
      exact kj
    · refine via (S' := s₁.setTop (mkF m 30 #[.val (.int p0), .val (.int p1), .val (.int p2), .val (.int p3), .val (.int p4), .val (.int cm), .val (.int lt), .unset, .unset, .unset, .unset, .unset, .unset, .unset, .unset, .unset, .unset, .unset, .unset, .unset] [])) (fun kk => XS.ifNo X0.here hx rfl (hb hby at_27) rfl ((if0 _ _).trans (feq hc4).1) kk) ?_
      refine via (S' := s₁.setTop (mkF m 32 #[.val (.int p0), .val (.int p1), .val (.int p2), .val (.int p3), .val (.int p4), .val (.int cm), .val (.int lt), .unset, .unset, .unset, .unset, .unset, .unset, .unset, .unset, .unset, .unset, .unset, .unset, .unset] [(.int lt)])) (fun kk => XS.iload X0.here hx rfl (hb hby at_30) rfl kk) ?_
      refine via (S' := s₁.setTop (mkF m 40 #[.val (.int p0), .val (.int p1), .val (.int p2), .val (.int p3), .val (.int p4), .val (.int cm), .val (.int lt), .unset, .unset, .unset, .unset, .unset, .unset, .unset, .unset, .unset, .unset, .unset, .unset, .unset] [(.int lt)])) (fun kk => XS.goto X0.here hx rfl (pc0 := 32) (pc' := 40) rfl (hb hby at_32) (by decide) (by decide) kk) ?_
      have qj_ln : ln = lt := hj_ln.trans (by rw [if_neg hc4])
      rw [qj_ln] at kj
      exact kj
  refine GoW.st (S' := s₁.setTop (mkF m 40 #[.val (.int p0), .val (.int p1), .val (.int p2), .val (.int p3), .val (.int p4), .val (.int cm), .val (.int lt), .unset, .unset, .unset, .unset, .unset, .unset, .unset, .unset, .unset, .unset, .unset, .unset, .unset] [(.int ln)])) stj3 ?_
  refine GoW.st (S' := s₁.setTop (mkF m 42 #[.val (.int p0), .val (.int p1), .val (.int p2), .val (.int p3), .val (.int p4), .val (.int cm), .val (.int lt), .val (.int ln), .unset, .unset, .unset, .unset, .unset, .unset, .unset, .unset, .unset, .unset, .unset, .unset] [])) (fun _ kk => XS.istore X0.here hx rfl (hb hby at_40) rfl (l' := #[.val (.int p0), .val (.int p1), .val (.int p2), .val (.int p3), .val (.int p4), .val (.int cm), .val (.int lt), .val (.int ln), .unset, .unset, .unset, .unset, .unset, .unset, .unset, .unset, .unset, .unset, .unset, .unset]) rfl kk) ?_
  refine GoW.st (S' := s₁.setTop (mkF m 43 #[.val (.int p0), .val (.int p1), .val (.int p2), .val (.int p3), .val (.int p4), .val (.int cm), .val (.int lt), .val (.int ln), .unset, .unset, .unset, .unset, .unset, .unset, .unset, .unset, .unset, .unset, .unset, .unset] [(.int p1)])) (fun _ kk => XS.iloadN X0.here hx rfl (hb hby at_42) rfl kk) ?_
  refine GoW.st (S' := s₁.setTop (mkF m 45 #[.val (.int p0), .val (.int p1), .val (.int p2), .val (.int p3), .val (.int p4), .val (.int cm), .val (.int lt), .val (.int ln), .unset, .unset, .unset, .unset, .unset, .unset, .unset, .unset, .unset, .unset, .unset, .unset] [(.int cm), (.int p1)])) (fun _ kk => XS.iload X0.here hx rfl (hb hby at_43) rfl kk) ?_
  refine GoW.st (S' := s₁.setTop (mkF m 46 #[.val (.int p0), .val (.int p1), .val (.int p2), .val (.int p3), .val (.int p4), .val (.int cm), .val (.int lt), .val (.int ln), .unset, .unset, .unset, .unset, .unset, .unset, .unset, .unset, .unset, .unset, .unset, .unset] [(.int (p1 &&& cm))])) (fun _ kk => XS.iand X0.here hx rfl (hb hby at_45) rfl kk) ?_
  refine GoW.st (S' := s₁.setTop (mkF m 47 #[.val (.int p0), .val (.int p1), .val (.int p2), .val (.int p3), .val (.int p4), .val (.int cm), .val (.int lt), .val (.int ln), .unset, .unset, .unset, .unset, .unset, .unset, .unset, .unset, .unset, .unset, .unset, .unset] [(.int ((p1 &&& cm).toUInt32.toUInt16.toUInt32.toInt32))])) (fun _ kk => XS.i2c X0.here hx rfl (hb hby at_46) rfl kk) ?_
  obtain ⟨ca0, h_ca0⟩ : ∃ z : Int32, z = ((p1 &&& cm).toUInt32.toUInt16.toUInt32.toInt32) := ⟨_, rfl⟩
  rw [← h_ca0]
  have hb_ca0 := own_c8 hj_cm h_ca0
  have hu_ca0 := own_u hb_ca0
  refine GoW.st (S' := s₁.setTop (mkF m 49 #[.val (.int p0), .val (.int p1), .val (.int p2), .val (.int p3), .val (.int p4), .val (.int cm), .val (.int lt), .val (.int ln), .val (.int ca0), .unset, .unset, .unset, .unset, .unset, .unset, .unset, .unset, .unset, .unset, .unset] [])) (fun _ kk => XS.istore X0.here hx rfl (hb hby at_47) rfl (l' := #[.val (.int p0), .val (.int p1), .val (.int p2), .val (.int p3), .val (.int p4), .val (.int cm), .val (.int lt), .val (.int ln), .val (.int ca0), .unset, .unset, .unset, .unset, .unset, .unset, .unset, .unset, .unset, .unset, .unset]) rfl kk) ?_
  refine GoW.st (S' := s₁.setTop (mkF m 50 #[.val (.int p0), .val (.int p1), .val (.int p2), .val (.int p3), .val (.int p4), .val (.int cm), .val (.int lt), .val (.int ln), .val (.int ca0), .unset, .unset, .unset, .unset, .unset, .unset, .unset, .unset, .unset, .unset, .unset] [(.int p1)])) (fun _ kk => XS.iloadN X0.here hx rfl (hb hby at_49) rfl kk) ?_
  refine GoW.st (S' := s₁.setTop (mkF m 52 #[.val (.int p0), .val (.int p1), .val (.int p2), .val (.int p3), .val (.int p4), .val (.int cm), .val (.int lt), .val (.int ln), .val (.int ca0), .unset, .unset, .unset, .unset, .unset, .unset, .unset, .unset, .unset, .unset, .unset] [(.int (8 : Int32)), (.int p1)])) (fun _ kk => XS.bipush X0.here hx rfl (hb hby at_50) kk) ?_
  refine GoW.st (S' := s₁.setTop (mkF m 53 #[.val (.int p0), .val (.int p1), .val (.int p2), .val (.int p3), .val (.int p4), .val (.int cm), .val (.int lt), .val (.int ln), .val (.int ca0), .unset, .unset, .unset, .unset, .unset, .unset, .unset, .unset, .unset, .unset, .unset] [(.int ((p1.toUInt32 >>> ((8 : Int32) &&& 31).toUInt32).toInt32))])) (fun _ kk => XS.iushr X0.here hx rfl (hb hby at_52) rfl kk) ?_
  refine GoW.st (S' := s₁.setTop (mkF m 55 #[.val (.int p0), .val (.int p1), .val (.int p2), .val (.int p3), .val (.int p4), .val (.int cm), .val (.int lt), .val (.int ln), .val (.int ca0), .unset, .unset, .unset, .unset, .unset, .unset, .unset, .unset, .unset, .unset, .unset] [(.int cm), (.int ((p1.toUInt32 >>> ((8 : Int32) &&& 31).toUInt32).toInt32))])) (fun _ kk => XS.iload X0.here hx rfl (hb hby at_53) rfl kk) ?_
  refine GoW.st (S' := s₁.setTop (mkF m 56 #[.val (.int p0), .val (.int p1), .val (.int p2), .val (.int p3), .val (.int p4), .val (.int cm), .val (.int lt), .val (.int ln), .val (.int ca0), .unset, .unset, .unset, .unset, .unset, .unset, .unset, .unset, .unset, .unset, .unset] [(.int (((p1.toUInt32 >>> ((8 : Int32) &&& 31).toUInt32).toInt32) &&& cm))])) (fun _ kk => XS.iand X0.here hx rfl (hb hby at_55) rfl kk) ?_
  refine GoW.st (S' := s₁.setTop (mkF m 57 #[.val (.int p0), .val (.int p1), .val (.int p2), .val (.int p3), .val (.int p4), .val (.int cm), .val (.int lt), .val (.int ln), .val (.int ca0), .unset, .unset, .unset, .unset, .unset, .unset, .unset, .unset, .unset, .unset, .unset] [(.int ((((p1.toUInt32 >>> ((8 : Int32) &&& 31).toUInt32).toInt32) &&& cm).toUInt32.toUInt16.toUInt32.toInt32))])) (fun _ kk => XS.i2c X0.here hx rfl (hb hby at_56) rfl kk) ?_
  obtain ⟨ca1, h_ca1⟩ : ∃ z : Int32, z = ((((p1.toUInt32 >>> ((8 : Int32) &&& 31).toUInt32).toInt32) &&& cm).toUInt32.toUInt16.toUInt32.toInt32) := ⟨_, rfl⟩
  rw [← h_ca1]
  have hb_ca1 := own_c8 hj_cm h_ca1
  have hu_ca1 := own_u hb_ca1
  refine GoW.st (S' := s₁.setTop (mkF m 59 #[.val (.int p0), .val (.int p1), .val (.int p2), .val (.int p3), .val (.int p4), .val (.int cm), .val (.int lt), .val (.int ln), .val (.int ca0), .val (.int ca1), .unset, .unset, .unset, .unset, .unset, .unset, .unset, .unset, .unset, .unset] [])) (fun _ kk => XS.istore X0.here hx rfl (hb hby at_57) rfl (l' := #[.val (.int p0), .val (.int p1), .val (.int p2), .val (.int p3), .val (.int p4), .val (.int cm), .val (.int lt), .val (.int ln), .val (.int ca0), .val (.int ca1), .unset, .unset, .unset, .unset, .unset, .unset, .unset, .unset, .unset, .unset]) rfl kk) ?_
  refine GoW.st (S' := s₁.setTop (mkF m 60 #[.val (.int p0), .val (.int p1), .val (.int p2), .val (.int p3), .val (.int p4), .val (.int cm), .val (.int lt), .val (.int ln), .val (.int ca0), .val (.int ca1), .unset, .unset, .unset, .unset, .unset, .unset, .unset, .unset, .unset, .unset] [(.int p1)])) (fun _ kk => XS.iloadN X0.here hx rfl (hb hby at_59) rfl kk) ?_
  refine GoW.st (S' := s₁.setTop (mkF m 62 #[.val (.int p0), .val (.int p1), .val (.int p2), .val (.int p3), .val (.int p4), .val (.int cm), .val (.int lt), .val (.int ln), .val (.int ca0), .val (.int ca1), .unset, .unset, .unset, .unset, .unset, .unset, .unset, .unset, .unset, .unset] [(.int (16 : Int32)), (.int p1)])) (fun _ kk => XS.bipush X0.here hx rfl (hb hby at_60) kk) ?_
  refine GoW.st (S' := s₁.setTop (mkF m 63 #[.val (.int p0), .val (.int p1), .val (.int p2), .val (.int p3), .val (.int p4), .val (.int cm), .val (.int lt), .val (.int ln), .val (.int ca0), .val (.int ca1), .unset, .unset, .unset, .unset, .unset, .unset, .unset, .unset, .unset, .unset] [(.int ((p1.toUInt32 >>> ((16 : Int32) &&& 31).toUInt32).toInt32))])) (fun _ kk => XS.iushr X0.here hx rfl (hb hby at_62) rfl kk) ?_
  refine GoW.st (S' := s₁.setTop (mkF m 65 #[.val (.int p0), .val (.int p1), .val (.int p2), .val (.int p3), .val (.int p4), .val (.int cm), .val (.int lt), .val (.int ln), .val (.int ca0), .val (.int ca1), .unset, .unset, .unset, .unset, .unset, .unset, .unset, .unset, .unset, .unset] [(.int cm), (.int ((p1.toUInt32 >>> ((16 : Int32) &&& 31).toUInt32).toInt32))])) (fun _ kk => XS.iload X0.here hx rfl (hb hby at_63) rfl kk) ?_
  refine GoW.st (S' := s₁.setTop (mkF m 66 #[.val (.int p0), .val (.int p1), .val (.int p2), .val (.int p3), .val (.int p4), .val (.int cm), .val (.int lt), .val (.int ln), .val (.int ca0), .val (.int ca1), .unset, .unset, .unset, .unset, .unset, .unset, .unset, .unset, .unset, .unset] [(.int (((p1.toUInt32 >>> ((16 : Int32) &&& 31).toUInt32).toInt32) &&& cm))])) (fun _ kk => XS.iand X0.here hx rfl (hb hby at_65) rfl kk) ?_
  refine GoW.st (S' := s₁.setTop (mkF m 67 #[.val (.int p0), .val (.int p1), .val (.int p2), .val (.int p3), .val (.int p4), .val (.int cm), .val (.int lt), .val (.int ln), .val (.int ca0), .val (.int ca1), .unset, .unset, .unset, .unset, .unset, .unset, .unset, .unset, .unset, .unset] [(.int ((((p1.toUInt32 >>> ((16 : Int32) &&& 31).toUInt32).toInt32) &&& cm).toUInt32.toUInt16.toUInt32.toInt32))])) (fun _ kk => XS.i2c X0.here hx rfl (hb hby at_66) rfl kk) ?_
  obtain ⟨ca2, h_ca2⟩ : ∃ z : Int32, z = ((((p1.toUInt32 >>> ((16 : Int32) &&& 31).toUInt32).toInt32) &&& cm).toUInt32.toUInt16.toUInt32.toInt32) := ⟨_, rfl⟩
  rw [← h_ca2]
  have hb_ca2 := own_c8 hj_cm h_ca2
  have hu_ca2 := own_u hb_ca2
  refine GoW.st (S' := s₁.setTop (mkF m 69 #[.val (.int p0), .val (.int p1), .val (.int p2), .val (.int p3), .val (.int p4), .val (.int cm), .val (.int lt), .val (.int ln), .val (.int ca0), .val (.int ca1), .val (.int ca2), .unset, .unset, .unset, .unset, .unset, .unset, .unset, .unset, .unset] [])) (fun _ kk => XS.istore X0.here hx rfl (hb hby at_67) rfl (l' := #[.val (.int p0), .val (.int p1), .val (.int p2), .val (.int p3), .val (.int p4), .val (.int cm), .val (.int lt), .val (.int ln), .val (.int ca0), .val (.int ca1), .val (.int ca2), .unset, .unset, .unset, .unset, .unset, .unset, .unset, .unset, .unset]) rfl kk) ?_
  refine GoW.st (S' := s₁.setTop (mkF m 70 #[.val (.int p0), .val (.int p1), .val (.int p2), .val (.int p3), .val (.int p4), .val (.int cm), .val (.int lt), .val (.int ln), .val (.int ca0), .val (.int ca1), .val (.int ca2), .unset, .unset, .unset, .unset, .unset, .unset, .unset, .unset, .unset] [(.int p2)])) (fun _ kk => XS.iloadN X0.here hx rfl (hb hby at_69) rfl kk) ?_
  refine GoW.st (S' := s₁.setTop (mkF m 72 #[.val (.int p0), .val (.int p1), .val (.int p2), .val (.int p3), .val (.int p4), .val (.int cm), .val (.int lt), .val (.int ln), .val (.int ca0), .val (.int ca1), .val (.int ca2), .unset, .unset, .unset, .unset, .unset, .unset, .unset, .unset, .unset] [(.int cm), (.int p2)])) (fun _ kk => XS.iload X0.here hx rfl (hb hby at_70) rfl kk) ?_
  refine GoW.st (S' := s₁.setTop (mkF m 73 #[.val (.int p0), .val (.int p1), .val (.int p2), .val (.int p3), .val (.int p4), .val (.int cm), .val (.int lt), .val (.int ln), .val (.int ca0), .val (.int ca1), .val (.int ca2), .unset, .unset, .unset, .unset, .unset, .unset, .unset, .unset, .unset] [(.int (p2 &&& cm))])) (fun _ kk => XS.iand X0.here hx rfl (hb hby at_72) rfl kk) ?_
  refine GoW.st (S' := s₁.setTop (mkF m 74 #[.val (.int p0), .val (.int p1), .val (.int p2), .val (.int p3), .val (.int p4), .val (.int cm), .val (.int lt), .val (.int ln), .val (.int ca0), .val (.int ca1), .val (.int ca2), .unset, .unset, .unset, .unset, .unset, .unset, .unset, .unset, .unset] [(.int ((p2 &&& cm).toUInt32.toUInt16.toUInt32.toInt32))])) (fun _ kk => XS.i2c X0.here hx rfl (hb hby at_73) rfl kk) ?_
  obtain ⟨cb0, h_cb0⟩ : ∃ z : Int32, z = ((p2 &&& cm).toUInt32.toUInt16.toUInt32.toInt32) := ⟨_, rfl⟩
  rw [← h_cb0]
  have hb_cb0 := own_c8 hj_cm h_cb0
  have hu_cb0 := own_u hb_cb0
  refine GoW.st (S' := s₁.setTop (mkF m 76 #[.val (.int p0), .val (.int p1), .val (.int p2), .val (.int p3), .val (.int p4), .val (.int cm), .val (.int lt), .val (.int ln), .val (.int ca0), .val (.int ca1), .val (.int ca2), .val (.int cb0), .unset, .unset, .unset, .unset, .unset, .unset, .unset, .unset] [])) (fun _ kk => XS.istore X0.here hx rfl (hb hby at_74) rfl (l' := #[.val (.int p0), .val (.int p1), .val (.int p2), .val (.int p3), .val (.int p4), .val (.int cm), .val (.int lt), .val (.int ln), .val (.int ca0), .val (.int ca1), .val (.int ca2), .val (.int cb0), .unset, .unset, .unset, .unset, .unset, .unset, .unset, .unset]) rfl kk) ?_
  refine GoW.st (S' := s₁.setTop (mkF m 77 #[.val (.int p0), .val (.int p1), .val (.int p2), .val (.int p3), .val (.int p4), .val (.int cm), .val (.int lt), .val (.int ln), .val (.int ca0), .val (.int ca1), .val (.int ca2), .val (.int cb0), .unset, .unset, .unset, .unset, .unset, .unset, .unset, .unset] [(.int p2)])) (fun _ kk => XS.iloadN X0.here hx rfl (hb hby at_76) rfl kk) ?_
  refine GoW.st (S' := s₁.setTop (mkF m 79 #[.val (.int p0), .val (.int p1), .val (.int p2), .val (.int p3), .val (.int p4), .val (.int cm), .val (.int lt), .val (.int ln), .val (.int ca0), .val (.int ca1), .val (.int ca2), .val (.int cb0), .unset, .unset, .unset, .unset, .unset, .unset, .unset, .unset] [(.int (8 : Int32)), (.int p2)])) (fun _ kk => XS.bipush X0.here hx rfl (hb hby at_77) kk) ?_
  refine GoW.st (S' := s₁.setTop (mkF m 80 #[.val (.int p0), .val (.int p1), .val (.int p2), .val (.int p3), .val (.int p4), .val (.int cm), .val (.int lt), .val (.int ln), .val (.int ca0), .val (.int ca1), .val (.int ca2), .val (.int cb0), .unset, .unset, .unset, .unset, .unset, .unset, .unset, .unset] [(.int ((p2.toUInt32 >>> ((8 : Int32) &&& 31).toUInt32).toInt32))])) (fun _ kk => XS.iushr X0.here hx rfl (hb hby at_79) rfl kk) ?_
  refine GoW.st (S' := s₁.setTop (mkF m 82 #[.val (.int p0), .val (.int p1), .val (.int p2), .val (.int p3), .val (.int p4), .val (.int cm), .val (.int lt), .val (.int ln), .val (.int ca0), .val (.int ca1), .val (.int ca2), .val (.int cb0), .unset, .unset, .unset, .unset, .unset, .unset, .unset, .unset] [(.int cm), (.int ((p2.toUInt32 >>> ((8 : Int32) &&& 31).toUInt32).toInt32))])) (fun _ kk => XS.iload X0.here hx rfl (hb hby at_80) rfl kk) ?_
  refine GoW.st (S' := s₁.setTop (mkF m 83 #[.val (.int p0), .val (.int p1), .val (.int p2), .val (.int p3), .val (.int p4), .val (.int cm), .val (.int lt), .val (.int ln), .val (.int ca0), .val (.int ca1), .val (.int ca2), .val (.int cb0), .unset, .unset, .unset, .unset, .unset, .unset, .unset, .unset] [(.int (((p2.toUInt32 >>> ((8 : Int32) &&& 31).toUInt32).toInt32) &&& cm))])) (fun _ kk => XS.iand X0.here hx rfl (hb hby at_82) rfl kk) ?_
  refine GoW.st (S' := s₁.setTop (mkF m 84 #[.val (.int p0), .val (.int p1), .val (.int p2), .val (.int p3), .val (.int p4), .val (.int cm), .val (.int lt), .val (.int ln), .val (.int ca0), .val (.int ca1), .val (.int ca2), .val (.int cb0), .unset, .unset, .unset, .unset, .unset, .unset, .unset, .unset] [(.int ((((p2.toUInt32 >>> ((8 : Int32) &&& 31).toUInt32).toInt32) &&& cm).toUInt32.toUInt16.toUInt32.toInt32))])) (fun _ kk => XS.i2c X0.here hx rfl (hb hby at_83) rfl kk) ?_
  obtain ⟨cb1, h_cb1⟩ : ∃ z : Int32, z = ((((p2.toUInt32 >>> ((8 : Int32) &&& 31).toUInt32).toInt32) &&& cm).toUInt32.toUInt16.toUInt32.toInt32) := ⟨_, rfl⟩
  rw [← h_cb1]
  have hb_cb1 := own_c8 hj_cm h_cb1
  have hu_cb1 := own_u hb_cb1
  refine GoW.st (S' := s₁.setTop (mkF m 86 #[.val (.int p0), .val (.int p1), .val (.int p2), .val (.int p3), .val (.int p4), .val (.int cm), .val (.int lt), .val (.int ln), .val (.int ca0), .val (.int ca1), .val (.int ca2), .val (.int cb0), .val (.int cb1), .unset, .unset, .unset, .unset, .unset, .unset, .unset] [])) (fun _ kk => XS.istore X0.here hx rfl (hb hby at_84) rfl (l' := #[.val (.int p0), .val (.int p1), .val (.int p2), .val (.int p3), .val (.int p4), .val (.int cm), .val (.int lt), .val (.int ln), .val (.int ca0), .val (.int ca1), .val (.int ca2), .val (.int cb0), .val (.int cb1), .unset, .unset, .unset, .unset, .unset, .unset, .unset]) rfl kk) ?_
  refine GoW.st (S' := s₁.setTop (mkF m 87 #[.val (.int p0), .val (.int p1), .val (.int p2), .val (.int p3), .val (.int p4), .val (.int cm), .val (.int lt), .val (.int ln), .val (.int ca0), .val (.int ca1), .val (.int ca2), .val (.int cb0), .val (.int cb1), .unset, .unset, .unset, .unset, .unset, .unset, .unset] [(.int p2)])) (fun _ kk => XS.iloadN X0.here hx rfl (hb hby at_86) rfl kk) ?_
  refine GoW.st (S' := s₁.setTop (mkF m 89 #[.val (.int p0), .val (.int p1), .val (.int p2), .val (.int p3), .val (.int p4), .val (.int cm), .val (.int lt), .val (.int ln), .val (.int ca0), .val (.int ca1), .val (.int ca2), .val (.int cb0), .val (.int cb1), .unset, .unset, .unset, .unset, .unset, .unset, .unset] [(.int (16 : Int32)), (.int p2)])) (fun _ kk => XS.bipush X0.here hx rfl (hb hby at_87) kk) ?_
  refine GoW.st (S' := s₁.setTop (mkF m 90 #[.val (.int p0), .val (.int p1), .val (.int p2), .val (.int p3), .val (.int p4), .val (.int cm), .val (.int lt), .val (.int ln), .val (.int ca0), .val (.int ca1), .val (.int ca2), .val (.int cb0), .val (.int cb1), .unset, .unset, .unset, .unset, .unset, .unset, .unset] [(.int ((p2.toUInt32 >>> ((16 : Int32) &&& 31).toUInt32).toInt32))])) (fun _ kk => XS.iushr X0.here hx rfl (hb hby at_89) rfl kk) ?_
  refine GoW.st (S' := s₁.setTop (mkF m 92 #[.val (.int p0), .val (.int p1), .val (.int p2), .val (.int p3), .val (.int p4), .val (.int cm), .val (.int lt), .val (.int ln), .val (.int ca0), .val (.int ca1), .val (.int ca2), .val (.int cb0), .val (.int cb1), .unset, .unset, .unset, .unset, .unset, .unset, .unset] [(.int cm), (.int ((p2.toUInt32 >>> ((16 : Int32) &&& 31).toUInt32).toInt32))])) (fun _ kk => XS.iload X0.here hx rfl (hb hby at_90) rfl kk) ?_
  refine GoW.st (S' := s₁.setTop (mkF m 93 #[.val (.int p0), .val (.int p1), .val (.int p2), .val (.int p3), .val (.int p4), .val (.int cm), .val (.int lt), .val (.int ln), .val (.int ca0), .val (.int ca1), .val (.int ca2), .val (.int cb0), .val (.int cb1), .unset, .unset, .unset, .unset, .unset, .unset, .unset] [(.int (((p2.toUInt32 >>> ((16 : Int32) &&& 31).toUInt32).toInt32) &&& cm))])) (fun _ kk => XS.iand X0.here hx rfl (hb hby at_92) rfl kk) ?_
  refine GoW.st (S' := s₁.setTop (mkF m 94 #[.val (.int p0), .val (.int p1), .val (.int p2), .val (.int p3), .val (.int p4), .val (.int cm), .val (.int lt), .val (.int ln), .val (.int ca0), .val (.int ca1), .val (.int ca2), .val (.int cb0), .val (.int cb1), .unset, .unset, .unset, .unset, .unset, .unset, .unset] [(.int ((((p2.toUInt32 >>> ((16 : Int32) &&& 31).toUInt32).toInt32) &&& cm).toUInt32.toUInt16.toUInt32.toInt32))])) (fun _ kk => XS.i2c X0.here hx rfl (hb hby at_93) rfl kk) ?_
  obtain ⟨cb2, h_cb2⟩ : ∃ z : Int32, z = ((((p2.toUInt32 >>> ((16 : Int32) &&& 31).toUInt32).toInt32) &&& cm).toUInt32.toUInt16.toUInt32.toInt32) := ⟨_, rfl⟩
  rw [← h_cb2]
  have hb_cb2 := own_c8 hj_cm h_cb2
  have hu_cb2 := own_u hb_cb2
  refine GoW.st (S' := s₁.setTop (mkF m 96 #[.val (.int p0), .val (.int p1), .val (.int p2), .val (.int p3), .val (.int p4), .val (.int cm), .val (.int lt), .val (.int ln), .val (.int ca0), .val (.int ca1), .val (.int ca2), .val (.int cb0), .val (.int cb1), .val (.int cb2), .unset, .unset, .unset, .unset, .unset, .unset] [])) (fun _ kk => XS.istore X0.here hx rfl (hb hby at_94) rfl (l' := #[.val (.int p0), .val (.int p1), .val (.int p2), .val (.int p3), .val (.int p4), .val (.int cm), .val (.int lt), .val (.int ln), .val (.int ca0), .val (.int ca1), .val (.int ca2), .val (.int cb0), .val (.int cb1), .val (.int cb2), .unset, .unset, .unset, .unset, .unset, .unset]) rfl kk) ?_
  refine GoW.st (S' := s₁.setTop (mkF m 98 #[.val (.int p0), .val (.int p1), .val (.int p2), .val (.int p3), .val (.int p4), .val (.int cm), .val (.int lt), .val (.int ln), .val (.int ca0), .val (.int ca1), .val (.int ca2), .val (.int cb0), .val (.int cb1), .val (.int cb2), .unset, .unset, .unset, .unset, .unset, .unset] [(.int lt)])) (fun _ kk => XS.iload X0.here hx rfl (hb hby at_96) rfl kk) ?_
  refine GoW.st (S' := s₁.setTop (mkF m 100 #[.val (.int p0), .val (.int p1), .val (.int p2), .val (.int p3), .val (.int p4), .val (.int cm), .val (.int lt), .val (.int ln), .val (.int ca0), .val (.int ca1), .val (.int ca2), .val (.int cb0), .val (.int cb1), .val (.int cb2), .unset, .unset, .unset, .unset, .unset, .unset] [(.int ca0), (.int lt)])) (fun _ kk => XS.iload X0.here hx rfl (hb hby at_98) rfl kk) ?_
  refine GoW.st (S' := s₁.setTop (mkF m 102 #[.val (.int p0), .val (.int p1), .val (.int p2), .val (.int p3), .val (.int p4), .val (.int cm), .val (.int lt), .val (.int ln), .val (.int ca0), .val (.int ca1), .val (.int ca2), .val (.int cb0), .val (.int cb1), .val (.int cb2), .unset, .unset, .unset, .unset, .unset, .unset] [(.int ca1), (.int ca0), (.int lt)])) (fun _ kk => XS.iload X0.here hx rfl (hb hby at_100) rfl kk) ?_
  refine GoW.st (S' := s₁.setTop (mkF m 104 #[.val (.int p0), .val (.int p1), .val (.int p2), .val (.int p3), .val (.int p4), .val (.int cm), .val (.int lt), .val (.int ln), .val (.int ca0), .val (.int ca1), .val (.int ca2), .val (.int cb0), .val (.int cb1), .val (.int cb2), .unset, .unset, .unset, .unset, .unset, .unset] [(.int ca2), (.int ca1), (.int ca0), (.int lt)])) (fun _ kk => XS.iload X0.here hx rfl (hb hby at_102) rfl kk) ?_
  obtain ⟨_, _, ⟨T5, L5, k5, n5⟩, -, X5, hS5, hg5, ⟨Lc5, hQ5, l5, y5, z5⟩, st5⟩ := callSS X0 hx (y := (⟨"com/example/patient_snoop/patientsnoop/io/TokenIsNamePinLaw", "mk", "(ICCC)Ljava/lang/String;"⟩ : MethodName)) hown (mvT hZ (hw _ (List.mem_of_getElem? (i := 0) rfl))) (mvT hZ (hw _ (List.mem_of_getElem? (i := 1) rfl))) (mvT hZ (hw _ (List.mem_of_getElem? (i := 2) rfl))) (mvT hZ (hw _ (List.mem_of_getElem? (i := 3) rfl))) (by decide) (own_backS (W := 0) (P := PCH Z h0) (rmMk l Z az hw [] lt ca0 ca1 ca2 zc h0 n0 Z0 S_C hzc hu_ca0 hu_ca1 hu_ca2) hZ (hw _ (List.mem_of_getElem? (i := 3) rfl)) (hw _ (List.mem_of_getElem? (i := 2) rfl)) (by decide) (by decide)) (g := (mkF m 104 #[.val (.int p0), .val (.int p1), .val (.int p2), .val (.int p3), .val (.int p4), .val (.int cm), .val (.int lt), .val (.int ln), .val (.int ca0), .val (.int ca1), .val (.int ca2), .val (.int cb0), .val (.int cb1), .val (.int cb2), .unset, .unset, .unset, .unset, .unset, .unset] [(.int ca2), (.int ca1), (.int ca0), (.int lt)])) rfl (by rw [hml]; rfl) (argsL := [(.int lt), (.int ca0), (.int ca1), (.int ca2)]) (rest := []) (lenOf pd_0 rfl) rfl (by show 2 * 0 + _ ≤ _; exact Nat.le_of_eq rfl) (hb hby at_104) (fun vmq hvq => ⟨rfl, e0, (own_chat hZ hvq (own_EW hw) Hc).1, (by decide : 0 + 4 ≤ _), (by decide : 0 + 10 ≤ _)⟩)
  dsimp only [Pt.U, Pt.locs, Pt.cells, Pt.slots] at X5 l5 y5 z5 st5 hQ5 hS5 hg5
  subst l5 y5 z5
  obtain ⟨X5, hS, hZ, hown⟩ := rebS hS (own_hk e0 hk) X5 hS5 hg5 hZ hown
  obtain ⟨b5, d5, kd5, z5', rfl, N5q, Ex5, Hc5, E_b5, FC_b5, FV_b5, V_d5, l5'⟩ := hQ5
  have N5 := Fr.app N0 N5q
  have S_C := S_C.ext Ex5
  have S_NAME := S_NAME.ext Ex5
  have S_NUMBER := S_NUMBER.ext Ex5
  have S_SYMBOL := S_SYMBOL.ext Ex5
  have S_END := S_END.ext Ex5
  have Zs6 := Nat.le_trans Z0 Ex5.1
  have hk := Nat.le_trans hk Ex5.1
  have Hc := Hc5
  have hk : T5.heap.size ≤ (T5.heap).size := Nat.le_of_eq (congrArg Array.size (show T5.heap = T5.heap from rfl))
  refine GoW.tr (S' := T5.setTop (mkF m 107 #[.val (.int p0), .val (.int p1), .val (.int p2), .val (.int p3), .val (.int p4), .val (.int cm), .val (.int lt), .val (.int ln), .val (.int ca0), .val (.int ca1), .val (.int ca2), .val (.int cb0), .val (.int cb1), .val (.int cb2), .unset, .unset, .unset, .unset, .unset, .unset] [(.ref b5)])) st5 ?_
  refine GoW.st (S' := T5.setTop (mkF m 109 #[.val (.int p0), .val (.int p1), .val (.int p2), .val (.int p3), .val (.int p4), .val (.int cm), .val (.int lt), .val (.int ln), .val (.int ca0), .val (.int ca1), .val (.int ca2), .val (.int cb0), .val (.int cb1), .val (.int cb2), .val (.ref b5), .unset, .unset, .unset, .unset, .unset] [])) (fun _ kk => XS.astore X5.here hx rfl (hb hby at_107) rfl rfl (l' := #[.val (.int p0), .val (.int p1), .val (.int p2), .val (.int p3), .val (.int p4), .val (.int cm), .val (.int lt), .val (.int ln), .val (.int ca0), .val (.int ca1), .val (.int ca2), .val (.int cb0), .val (.int cb1), .val (.int cb2), .val (.ref b5), .unset, .unset, .unset, .unset, .unset]) rfl kk) ?_
  refine GoW.st (S' := T5.setTop (mkF m 111 #[.val (.int p0), .val (.int p1), .val (.int p2), .val (.int p3), .val (.int p4), .val (.int cm), .val (.int lt), .val (.int ln), .val (.int ca0), .val (.int ca1), .val (.int ca2), .val (.int cb0), .val (.int cb1), .val (.int cb2), .val (.ref b5), .unset, .unset, .unset, .unset, .unset] [(.int ln)])) (fun _ kk => XS.iload X5.here hx rfl (hb hby at_109) rfl kk) ?_
  refine GoW.st (S' := T5.setTop (mkF m 113 #[.val (.int p0), .val (.int p1), .val (.int p2), .val (.int p3), .val (.int p4), .val (.int cm), .val (.int lt), .val (.int ln), .val (.int ca0), .val (.int ca1), .val (.int ca2), .val (.int cb0), .val (.int cb1), .val (.int cb2), .val (.ref b5), .unset, .unset, .unset, .unset, .unset] [(.int cb0), (.int ln)])) (fun _ kk => XS.iload X5.here hx rfl (hb hby at_111) rfl kk) ?_
  refine GoW.st (S' := T5.setTop (mkF m 115 #[.val (.int p0), .val (.int p1), .val (.int p2), .val (.int p3), .val (.int p4), .val (.int cm), .val (.int lt), .val (.int ln), .val (.int ca0), .val (.int ca1), .val (.int ca2), .val (.int cb0), .val (.int cb1), .val (.int cb2), .val (.ref b5), .unset, .unset, .unset, .unset, .unset] [(.int cb1), (.int cb0), (.int ln)])) (fun _ kk => XS.iload X5.here hx rfl (hb hby at_113) rfl kk) ?_
  refine GoW.st (S' := T5.setTop (mkF m 117 #[.val (.int p0), .val (.int p1), .val (.int p2), .val (.int p3), .val (.int p4), .val (.int cm), .val (.int lt), .val (.int ln), .val (.int ca0), .val (.int ca1), .val (.int ca2), .val (.int cb0), .val (.int cb1), .val (.int cb2), .val (.ref b5), .unset, .unset, .unset, .unset, .unset] [(.int cb2), (.int cb1), (.int cb0), (.int ln)])) (fun _ kk => XS.iload X5.here hx rfl (hb hby at_115) rfl kk) ?_
  obtain ⟨_, _, ⟨T7, L7, k7, n7⟩, -, X7, hS7, hg7, ⟨Lc7, hQ7, l7, y7, z7⟩, st7⟩ := callSS X5 hx (y := (⟨"com/example/patient_snoop/patientsnoop/io/TokenIsNamePinLaw", "mk", "(ICCC)Ljava/lang/String;"⟩ : MethodName)) hown (mvT hZ (hw _ (List.mem_of_getElem? (i := 0) rfl))) (mvT hZ (hw _ (List.mem_of_getElem? (i := 1) rfl))) (mvT hZ (hw _ (List.mem_of_getElem? (i := 2) rfl))) (mvT hZ (hw _ (List.mem_of_getElem? (i := 3) rfl))) (by decide) (own_backS (W := 0) (P := PCH Z T5.heap) (rmMk l Z az hw [] ln cb0 cb1 cb2 zc T5.heap n0 Zs6 S_C hzc hu_cb0 hu_cb1 hu_cb2) hZ (hw _ (List.mem_of_getElem? (i := 3) rfl)) (hw _ (List.mem_of_getElem? (i := 2) rfl)) (by decide) (by decide)) (g := (mkF m 117 #[.val (.int p0), .val (.int p1), .val (.int p2), .val (.int p3), .val (.int p4), .val (.int cm), .val (.int lt), .val (.int ln), .val (.int ca0), .val (.int ca1), .val (.int ca2), .val (.int cb0), .val (.int cb1), .val (.int cb2), .val (.ref b5), .unset, .unset, .unset, .unset, .unset] [(.int cb2), (.int cb1), (.int cb0), (.int ln)])) rfl (by rw [hml]; rfl) (argsL := [(.int ln), (.int cb0), (.int cb1), (.int cb2)]) (rest := []) (lenOf pd_0 rfl) rfl (by show 2 * 0 + _ ≤ _; exact Nat.le_of_eq rfl) (hb hby at_117) (fun vmq hvq => ⟨rfl, rfl, (own_chat hZ hvq (own_EW hw) Hc).1, (by decide : 4 + 4 ≤ _), (by decide : 10 + 10 ≤ _)⟩)
  dsimp only [Pt.U, Pt.locs, Pt.cells, Pt.slots] at X7 l7 y7 z7 st7 hQ7 hS7 hg7
  subst l7 y7 z7
  obtain ⟨X7, hS, hZ, hown⟩ := rebS hS (own_hk rfl hk) X7 hS7 hg7 hZ hown
  obtain ⟨b7, d7, kd7, z7', rfl, N7q, Ex7, Hc7, E_b7, FC_b7, FV_b7, V_d7, l7'⟩ := hQ7
  have N7 := Fr.app N5 N7q
  have S_C := S_C.ext Ex7
  have S_NAME := S_NAME.ext Ex7
  have S_NUMBER := S_NUMBER.ext Ex7
  have S_SYMBOL := S_SYMBOL.ext Ex7
  have S_END := S_END.ext Ex7
  have E_b5 := E_b5.ext Ex7
  have FC_b5 := FC_b5.ext Ex7
  have FV_b5 := FV_b5.ext Ex7
  have V_d5 := V_d5.ext Ex7
  have Zs8 := Nat.le_trans Zs6 Ex7.1
  have hk := Nat.le_trans hk Ex7.1
  have Hc := Hc7
  have hk : T7.heap.size ≤ (T7.heap).size := Nat.le_of_eq (congrArg Array.size (show T7.heap = T7.heap from rfl))
  refine GoW.tr (S' := T7.setTop (mkF m 120 #[.val (.int p0), .val (.int p1), .val (.int p2), .val (.int p3), .val (.int p4), .val (.int cm), .val (.int lt), .val (.int ln), .val (.int ca0), .val (.int ca1), .val (.int ca2), .val (.int cb0), .val (.int cb1), .val (.int cb2), .val (.ref b5), .unset, .unset, .unset, .unset, .unset] [(.ref b7)])) st7 ?_
  refine GoW.st (S' := T7.setTop (mkF m 122 #[.val (.int p0), .val (.int p1), .val (.int p2), .val (.int p3), .val (.int p4), .val (.int cm), .val (.int lt), .val (.int ln), .val (.int ca0), .val (.int ca1), .val (.int ca2), .val (.int cb0), .val (.int cb1), .val (.int cb2), .val (.ref b5), .val (.ref b7), .unset, .unset, .unset, .unset] [])) (fun _ kk => XS.astore X7.here hx rfl (hb hby at_120) rfl rfl (l' := #[.val (.int p0), .val (.int p1), .val (.int p2), .val (.int p3), .val (.int p4), .val (.int cm), .val (.int lt), .val (.int ln), .val (.int ca0), .val (.int ca1), .val (.int ca2), .val (.int cb0), .val (.int cb1), .val (.int cb2), .val (.ref b5), .val (.ref b7), .unset, .unset, .unset, .unset]) rfl kk) ?_
  obtain ⟨T9, h9, X9, e9, E9, A9, D9, -, st9⟩ := newO X7 hx hZ hown (hw _ (List.mem_of_getElem? (i := 37) rfl)) (hw _ (List.mem_of_getElem? (i := 38) rfl)) (hw _ (List.mem_of_getElem? (i := 39) rfl)) rfl (g := (mkF m 122 #[.val (.int p0), .val (.int p1), .val (.int p2), .val (.int p3), .val (.int p4), .val (.int cm), .val (.int lt), .val (.int ln), .val (.int ca0), .val (.int ca1), .val (.int ca2), .val (.int cb0), .val (.int cb1), .val (.int cb2), .val (.ref b5), .val (.ref b7), .unset, .unset, .unset, .unset] [])) rfl (hb hby at_122) (by decide : 8 + 1 ≤ _) (by decide : 20 + 3 ≤ _)
  obtain ⟨b9, g9⟩ : ∃ z, z = T7.heap.size := ⟨_, rfl⟩
  rw [← g9] at A9 D9 st9
  have ne_b5_b9 : b5 ≠ b9 := Nat.ne_of_lt (Nat.lt_of_lt_of_le E_b5.lt (Nat.le_of_eq g9.symm))
  have ne_d5_b9 : d5 ≠ b9 := Nat.ne_of_lt (Nat.lt_of_lt_of_le V_d5.lt (Nat.le_of_eq g9.symm))
  have ne_b7_b9 : b7 ≠ b9 := Nat.ne_of_lt (Nat.lt_of_lt_of_le E_b7.lt (Nat.le_of_eq g9.symm))
  have ne_d7_b9 : d7 ≠ b9 := Nat.ne_of_lt (Nat.lt_of_lt_of_le V_d7.lt (Nat.le_of_eq g9.symm))
  have g_b9 : n0 ≤ b9 := Nat.le_trans Zs8 (Nat.le_of_eq g9.symm)
  have Sf_b9 : Safe Z consts_1 T7.vm T7.heap b9 := Safe.new (Nat.le_of_eq g9.symm)
  have Sf_b9' := Safe.ext E9 Hc Sf_b9
  have Hc := CHv.ext E9 Hc
  have Sf_b9 := Sf_b9'
  have S_C := S_C.ext E9
  have S_NAME := S_NAME.ext E9
  have S_NUMBER := S_NUMBER.ext E9
  have S_SYMBOL := S_SYMBOL.ext E9
  have S_END := S_END.ext E9
  have E_b5 := E_b5.ext E9
  have FC_b5 := FC_b5.ext E9
  have FV_b5 := FV_b5.ext E9
  have V_d5 := V_d5.ext E9
  have E_b7 := E_b7.ext E9
  have FC_b7 := FC_b7.ext E9
  have FV_b7 := FV_b7.ext E9
  have V_d7 := V_d7.ext E9
  have Zs10 := Nat.le_trans Zs8 E9.1
  have hk := Nat.le_trans hk E9.1
  have E_b9 := A9
  have F_kind_b9 : Fld Z h9 b9 "com/example/patient_snoop/patientsnoop/io/Token" "kind" "Lcom/example/patient_snoop/patientsnoop/io/Token$Kind;" .null := D9 (Or.inr (hw _ (List.mem_of_getElem? (i := 56) rfl))) (ty := (.object "com/example/patient_snoop/patientsnoop/io/Token$Kind")) (by decide)
  have F_text_b9 : Fld Z h9 b9 "com/example/patient_snoop/patientsnoop/io/Token" "text" "Ljava/lang/String;" .null := D9 (Or.inr (hw _ (List.mem_of_getElem? (i := 58) rfl))) (ty := (.object "java/lang/String")) (by decide)
  have F_line_b9 : Fld Z h9 b9 "com/example/patient_snoop/patientsnoop/io/Token" "line" "I" (.int (0 : Int32)) := D9 (Or.inr (hw _ (List.mem_of_getElem? (i := 60) rfl))) (ty := .int) (by decide)
  refine GoW.st (S' := T9.setTop (mkF m 125 #[.val (.int p0), .val (.int p1), .val (.int p2), .val (.int p3), .val (.int p4), .val (.int cm), .val (.int lt), .val (.int ln), .val (.int ca0), .val (.int ca1), .val (.int ca2), .val (.int cb0), .val (.int cb1), .val (.int cb2), .val (.ref b5), .val (.ref b7), .unset, .unset, .unset, .unset] [(.ref b9)])) st9 ?_
  refine GoW.st (S' := T9.setTop (mkF m 126 #[.val (.int p0), .val (.int p1), .val (.int p2), .val (.int p3), .val (.int p4), .val (.int cm), .val (.int lt), .val (.int ln), .val (.int ca0), .val (.int ca1), .val (.int ca2), .val (.int cb0), .val (.int cb1), .val (.int cb2), .val (.ref b5), .val (.ref b7), .unset, .unset, .unset, .unset] [(.ref b9), (.ref b9)])) (fun _ kk => XS.dup X9.here hx rfl (hb hby at_125) rfl rfl kk) ?_
  refine GoW.st (S' := T9.setTop (mkF m 127 #[.val (.int p0), .val (.int p1), .val (.int p2), .val (.int p3), .val (.int p4), .val (.int cm), .val (.int lt), .val (.int ln), .val (.int ca0), .val (.int ca1), .val (.int ca2), .val (.int cb0), .val (.int cb1), .val (.int cb2), .val (.ref b5), .val (.ref b7), .unset, .unset, .unset, .unset] [(.int p0), (.ref b9), (.ref b9)])) (fun _ kk => XS.iloadN X9.here hx rfl (hb hby at_126) rfl kk) ?_
  obtain ⟨_, _, ⟨T11, L11, k11, n11⟩, -, X11, ⟨Lc11, hQ11, l11, y11, z11⟩, st11⟩ := Jvm.LawKit.callS X9 hx (y := (⟨"com/example/patient_snoop/patientsnoop/io/TokenIsNamePinLaw", "kindOf", "(I)Lcom/example/patient_snoop/patientsnoop/io/Token$Kind;"⟩ : MethodName)) hown (mvT hZ (hw _ (List.mem_of_getElem? (i := 40) rfl))) (mvT hZ (hw _ (List.mem_of_getElem? (i := 41) rfl))) (mvT hZ (hw _ (List.mem_of_getElem? (i := 2) rfl))) (mvT hZ (hw _ (List.mem_of_getElem? (i := 42) rfl))) (by decide) (backOf (W := 2) (rmKd l Z az hw [] p0 s0 s1 s2 s3 h9 n0 Zs10 S_NAME S_NUMBER S_SYMBOL S_END e1 e2 e3) hZ (hw _ (List.mem_of_getElem? (i := 42) rfl)) (hw _ (List.mem_of_getElem? (i := 2) rfl)) (by decide) (by decide)) (g := (mkF m 127 #[.val (.int p0), .val (.int p1), .val (.int p2), .val (.int p3), .val (.int p4), .val (.int cm), .val (.int lt), .val (.int ln), .val (.int ca0), .val (.int ca1), .val (.int ca2), .val (.int cb0), .val (.int cb1), .val (.int cb2), .val (.ref b5), .val (.ref b7), .unset, .unset, .unset, .unset] [(.int p0), (.ref b9), (.ref b9)])) rfl (by rw [hml]; rfl) (argsL := [(.int p0)]) (rest := [(.ref b9), (.ref b9)]) (lenOf pd_7 rfl) rfl (by show 2 * 0 + _ ≤ _; exact Nat.le_of_eq rfl) (hb hby at_127) (fun _ _ => ⟨rfl, e9, (by decide : 9 + 0 ≤ _), (by decide : 23 + 0 ≤ _)⟩)
  dsimp only [Pt.U, Pt.locs, Pt.cells, Pt.slots] at X11 l11 y11 z11 st11 hQ11
  subst l11 y11 z11
  obtain ⟨kq, rfl, N11q, e11, hkq⟩ := hQ11
  have N11 := Fr.app N7 N11q
  refine GoW.st (S' := T11.setTop (mkF m 130 #[.val (.int p0), .val (.int p1), .val (.int p2), .val (.int p3), .val (.int p4), .val (.int cm), .val (.int lt), .val (.int ln), .val (.int ca0), .val (.int ca1), .val (.int ca2), .val (.int cb0), .val (.int cb1), .val (.int cb2), .val (.ref b5), .val (.ref b7), .unset, .unset, .unset, .unset] [(.ref kq), (.ref b9), (.ref b9)])) st11 ?_
  refine GoW.st (S' := T11.setTop (mkF m 132 #[.val (.int p0), .val (.int p1), .val (.int p2), .val (.int p3), .val (.int p4), .val (.int cm), .val (.int lt), .val (.int ln), .val (.int ca0), .val (.int ca1), .val (.int ca2), .val (.int cb0), .val (.int cb1), .val (.int cb2), .val (.ref b5), .val (.ref b7), .unset, .unset, .unset, .unset] [(.ref b5), (.ref kq), (.ref b9), (.ref b9)])) (fun _ kk => XS.aload X11.here hx rfl (hb hby at_130) rfl rfl kk) ?_
  refine GoW.st (S' := T11.setTop (mkF m 134 #[.val (.int p0), .val (.int p1), .val (.int p2), .val (.int p3), .val (.int p4), .val (.int cm), .val (.int lt), .val (.int ln), .val (.int ca0), .val (.int ca1), .val (.int ca2), .val (.int cb0), .val (.int cb1), .val (.int cb2), .val (.ref b5), .val (.ref b7), .unset, .unset, .unset, .unset] [(.int p4), (.ref b5), (.ref kq), (.ref b9), (.ref b9)])) (fun _ kk => XS.iload X11.here hx rfl (hb hby at_132) rfl kk) ?_
  obtain ⟨_, _, ⟨T12, L12, k12, n12⟩, -, X12, ⟨Lc12, hQ12, l12, y12, z12⟩, st12⟩ := X11.specialBack hx (y := (⟨"com/example/patient_snoop/patientsnoop/io/Token", "<init>", "(Lcom/example/patient_snoop/patientsnoop/io/Token$Kind;Ljava/lang/String;I)V"⟩ : MethodName)) rfl hown (mvT hZ (hw _ (List.mem_of_getElem? (i := 46) rfl))) (mvT hZ (hw _ (List.mem_of_getElem? (i := 47) rfl))) (mvT hZ (hw _ (List.mem_of_getElem? (i := 48) rfl))) (by decide) (backOf (W := 1) (rmT l Z az hw [] b9 kq b5 p4 h9 n0 Zs10 E_b9 g_b9 F_kind_b9 F_text_b9 F_line_b9) hZ (hw _ (List.mem_of_getElem? (i := 48) rfl)) (hw _ (List.mem_of_getElem? (i := 39) rfl)) (by decide) (by decide)) (g := (mkF m 134 #[.val (.int p0), .val (.int p1), .val (.int p2), .val (.int p3), .val (.int p4), .val (.int cm), .val (.int lt), .val (.int ln), .val (.int ca0), .val (.int ca1), .val (.int ca2), .val (.int cb0), .val (.int cb1), .val (.int cb2), .val (.ref b5), .val (.ref b7), .unset, .unset, .unset, .unset] [(.int p4), (.ref b5), (.ref kq), (.ref b9), (.ref b9)])) rfl (by rw [hml]; rfl) (Steps.refl _) (a := b9) (argsL := [(.ref kq), (.ref b5), (.int p4)]) (rest := [(.ref b9)]) (lenOf pd_8 rfl) rfl (by show 2 * 0 + _ ≤ _; exact Nat.le_of_eq rfl) (hb hby at_134) (fun _ _ => ⟨rfl, e11, (by decide : 9 + 0 ≤ _), (by decide : 23 + 0 ≤ _)⟩)
  dsimp only [Pt.U, Pt.locs, Pt.cells, Pt.slots] at X12 l12 y12 z12 st12 hQ12
  subst l12 y12 z12
  obtain ⟨rfl, N12q, K12, Ec12, Fc12_0, Fc12_1, Fc12_2⟩ := hQ12
  have N12 := Fr.app N11 N12q
  have Sf_b9' := Safe.keep K12 (allS (P := Safe Z consts_1 T7.vm h9) Sf_b9 all0) Hc Sf_b9
  have Hc := CHv.keep K12 (allS (P := Safe Z consts_1 T7.vm h9) Sf_b9 all0) Hc
  have Sf_b9 := Sf_b9'
  have S_C := own_stak K12 (allS (P := fun x => ∀ cell : Cell, (h9)[x]? = some cell → cell.vm.isStatics = false) (Exa.nostat E_b9) all0) S_C
  have S_NAME := own_stak K12 (allS (P := fun x => ∀ cell : Cell, (h9)[x]? = some cell → cell.vm.isStatics = false) (Exa.nostat E_b9) all0) S_NAME
  have S_NUMBER := own_stak K12 (allS (P := fun x => ∀ cell : Cell, (h9)[x]? = some cell → cell.vm.isStatics = false) (Exa.nostat E_b9) all0) S_NUMBER
  have S_SYMBOL := own_stak K12 (allS (P := fun x => ∀ cell : Cell, (h9)[x]? = some cell → cell.vm.isStatics = false) (Exa.nostat E_b9) all0) S_SYMBOL
  have S_END := own_stak K12 (allS (P := fun x => ∀ cell : Cell, (h9)[x]? = some cell → cell.vm.isStatics = false) (Exa.nostat E_b9) all0) S_END
  have E_b5 := E_b5.keep K12
  have FC_b5 := FC_b5.keep K12 (ninS ne_b5_b9 nin0)
  have FV_b5 := FV_b5.keep K12 (ninS ne_b5_b9 nin0)
  have V_d5 := V_d5.keep K12 (ninS ne_d5_b9 nin0)
  have E_b7 := E_b7.keep K12
  have FC_b7 := FC_b7.keep K12 (ninS ne_b7_b9 nin0)
  have FV_b7 := FV_b7.keep K12 (ninS ne_b7_b9 nin0)
  have V_d7 := V_d7.keep K12 (ninS ne_d7_b9 nin0)
  have E_b9 := E_b9.keep K12
  have Zs13 := Nat.le_trans Zs10 K12.1
  have hk := Nat.le_trans hk K12.1
  refine GoW.tr (S' := T12.setTop (mkF m 137 #[.val (.int p0), .val (.int p1), .val (.int p2), .val (.int p3), .val (.int p4), .val (.int cm), .val (.int lt), .val (.int ln), .val (.int ca0), .val (.int ca1), .val (.int ca2), .val (.int cb0), .val (.int cb1), .val (.int cb2), .val (.ref b5), .val (.ref b7), .unset, .unset, .unset, .unset] [(.ref b9)])) st12 ?_
  refine GoW.st (S' := T12.setTop (mkF m 139 #[.val (.int p0), .val (.int p1), .val (.int p2), .val (.int p3), .val (.int p4), .val (.int cm), .val (.int lt), .val (.int ln), .val (.int ca0), .val (.int ca1), .val (.int ca2), .val (.int cb0), .val (.int cb1), .val (.int cb2), .val (.ref b5), .val (.ref b7), .val (.ref b9), .unset, .unset, .unset] [])) (fun _ kk => XS.astore X12.here hx rfl (hb hby at_137) rfl rfl (l' := #[.val (.int p0), .val (.int p1), .val (.int p2), .val (.int p3), .val (.int p4), .val (.int cm), .val (.int lt), .val (.int ln), .val (.int ca0), .val (.int ca1), .val (.int ca2), .val (.int cb0), .val (.int cb1), .val (.int cb2), .val (.ref b5), .val (.ref b7), .val (.ref b9), .unset, .unset, .unset]) rfl kk) ?_
  refine GoW.st (S' := T12.setTop (mkF m 141 #[.val (.int p0), .val (.int p1), .val (.int p2), .val (.int p3), .val (.int p4), .val (.int cm), .val (.int lt), .val (.int ln), .val (.int ca0), .val (.int ca1), .val (.int ca2), .val (.int cb0), .val (.int cb1), .val (.int cb2), .val (.ref b5), .val (.ref b7), .val (.ref b9), .unset, .unset, .unset] [(.ref b9)])) (fun _ kk => XS.aload X12.here hx rfl (hb hby at_139) rfl rfl kk) ?_
  refine GoW.st (S' := T12.setTop (mkF m 143 #[.val (.int p0), .val (.int p1), .val (.int p2), .val (.int p3), .val (.int p4), .val (.int cm), .val (.int lt), .val (.int ln), .val (.int ca0), .val (.int ca1), .val (.int ca2), .val (.int cb0), .val (.int cb1), .val (.int cb2), .val (.ref b5), .val (.ref b7), .val (.ref b9), .unset, .unset, .unset] [(.ref b7), (.ref b9)])) (fun _ kk => XS.aload X12.here hx rfl (hb hby at_141) rfl rfl kk) ?_
  obtain ⟨cq14, kq14, q14a, q14b, q14c⟩ := isOf hZ rfl E_b9
  obtain ⟨_, _, ⟨T14, L14, k14, n14⟩, -, X14, ⟨Lc14, hQ14, l14, y14, z14⟩, st14⟩ := X12.virtualBack hx (y := (⟨"com/example/patient_snoop/patientsnoop/io/Token", "isName", "(Ljava/lang/String;)Z"⟩ : MethodName)) (z := (⟨"com/example/patient_snoop/patientsnoop/io/Token", "isName", "(Ljava/lang/String;)Z"⟩ : MethodName)) hown (mvT hZ (hw _ (List.mem_of_getElem? (i := 61) rfl))) (mvT hZ (hw _ (List.mem_of_getElem? (i := 62) rfl))) (notFace_of_selects (args := #[]) (mvT hZ (hw _ (List.mem_of_getElem? (i := 64) rfl)))) (mvT hZ (hw _ (List.mem_of_getElem? (i := 64) rfl))) (mvT hZ (hw _ (List.mem_of_getElem? (i := 63) rfl))) (by decide) (backOf (W := 0) (rmIs l Z az hw [] b9 b7 zc kq s0 b5 d5 d7 kd5 kd7 z5' z7' (own_mk lt ca0 ca1 ca2) (own_mk ln cb0 cb1 cb2) T12.heap n0 Zs13 S_C hzc S_NAME Fc12_0 Fc12_1 E_b5 FC_b5 FV_b5 V_d5 l5' E_b7 FC_b7 FV_b7 V_d7 l7') hZ (hw _ (List.mem_of_getElem? (i := 65) rfl)) (hw _ (List.mem_of_getElem? (i := 39) rfl)) (by decide) (by decide)) q14a q14c (g := (mkF m 143 #[.val (.int p0), .val (.int p1), .val (.int p2), .val (.int p3), .val (.int p4), .val (.int cm), .val (.int lt), .val (.int ln), .val (.int ca0), .val (.int ca1), .val (.int ca2), .val (.int cb0), .val (.int cb1), .val (.int cb2), .val (.ref b5), .val (.ref b7), .val (.ref b9), .unset, .unset, .unset] [(.ref b7), (.ref b9)])) rfl (by rw [hml]; rfl) (Steps.refl _) (argsL := [(.ref b7)]) (rest := []) (lenOf pd_9 rfl) rfl (by show 2 * 0 + _ ≤ _; exact Nat.le_of_eq rfl) (hb hby at_143) (fun _ _ => ⟨rfl, rfl, (by decide : 9 + 0 ≤ _), (by decide : 23 + 0 ≤ _)⟩)
  dsimp only [Pt.U, Pt.locs, Pt.cells, Pt.slots] at X14 l14 y14 z14 st14 hQ14
  subst l14 y14 z14
  obtain ⟨hv14, N14q, e14⟩ := hQ14
  subst hv14
  have N14 := Fr.app N12 N14q
  refine GoW.tr (S' := T14.setTop (mkF m 146 #[.val (.int p0), .val (.int p1), .val (.int p2), .val (.int p3), .val (.int p4), .val (.int cm), .val (.int lt), .val (.int ln), .val (.int ca0), .val (.int ca1), .val (.int ca2), .val (.int cb0), .val (.int cb1), .val (.int cb2), .val (.ref b5), .val (.ref b7), .val (.ref b9), .unset, .unset, .unset] [(.int (if kq = s0 then own_eqI (own_mk lt ca0 ca1 ca2) (own_mk ln cb0 cb1 cb2) else 0))])) st14 ?_
  refine GoW.st (S' := T14.setTop (mkF m 148 #[.val (.int p0), .val (.int p1), .val (.int p2), .val (.int p3), .val (.int p4), .val (.int cm), .val (.int lt), .val (.int ln), .val (.int ca0), .val (.int ca1), .val (.int ca2), .val (.int cb0), .val (.int cb1), .val (.int cb2), .val (.ref b5), .val (.ref b7), .val (.ref b9), .val (.int (if kq = s0 then own_eqI (own_mk lt ca0 ca1 ca2) (own_mk ln cb0 cb1 cb2) else 0)), .unset, .unset] [])) (fun _ kk => XS.istore X14.here hx rfl (hb hby at_146) rfl (l' := #[.val (.int p0), .val (.int p1), .val (.int p2), .val (.int p3), .val (.int p4), .val (.int cm), .val (.int lt), .val (.int ln), .val (.int ca0), .val (.int ca1), .val (.int ca2), .val (.int cb0), .val (.int cb1), .val (.int cb2), .val (.ref b5), .val (.ref b7), .val (.ref b9), .val (.int (if kq = s0 then own_eqI (own_mk lt ca0 ca1 ca2) (own_mk ln cb0 cb1 cb2) else 0)), .unset, .unset]) rfl kk) ?_
  obtain ⟨ev, hj_ev⟩ : ∃ z : Int32, z = (if lt = ln then (if lt < (1 : Int32) then (if lt < (2 : Int32) then (if lt < (3 : Int32) then (1 : Int32) else (if ca2 = cb2 then (1 : Int32) else (0 : Int32))) else (if ca1 = cb1 then (if lt < (3 : Int32) then (1 : Int32) else (if ca2 = cb2 then (1 : Int32) else (0 : Int32))) else (0 : Int32))) else (if ca0 = cb0 then (if lt < (2 : Int32) then (if lt < (3 : Int32) then (1 : Int32) else (if ca2 = cb2 then (1 : Int32) else (0 : Int32))) else (if ca1 = cb1 then (if lt < (3 : Int32) then (1 : Int32) else (if ca2 = cb2 then (1 : Int32) else (0 : Int32))) else (0 : Int32))) else (0 : Int32))) else (0 : Int32)) := ⟨_, rfl⟩
  have stj15 : ∀ tq, Steps p.tables e below (T14.setTop (mkF m 199 #[.val (.int p0), .val (.int p1), .val (.int p2), .val (.int p3), .val (.int p4), .val (.int cm), .val (.int lt), .val (.int ln), .val (.int ca0), .val (.int ca1), .val (.int ca2), .val (.int cb0), .val (.int cb1), .val (.int cb2), .val (.ref b5), .val (.ref b7), .val (.ref b9), .val (.int (if kq = s0 then own_eqI (own_mk lt ca0 ca1 ca2) (own_mk ln cb0 cb1 cb2) else 0)), .unset, .unset] [(.int ev)])) tq → Steps p.tables e below (T14.setTop (mkF m 148 #[.val (.int p0), .val (.int p1), .val (.int p2), .val (.int p3), .val (.int p4), .val (.int cm), .val (.int lt), .val (.int ln), .val (.int ca0), .val (.int ca1), .val (.int ca2), .val (.int cb0), .val (.int cb1), .val (.int cb2), .val (.ref b5), .val (.ref b7), .val (.ref b9), .val (.int (if kq = s0 then own_eqI (own_mk lt ca0 ca1 ca2) (own_mk ln cb0 cb1 cb2) else 0)), .unset, .unset] [])) tq := by
    intro tq kj
    refine via (S' := T14.setTop (mkF m 150 #[.val (.int p0), .val (.int p1), .val (.int p2), .val (.int p3), .val (.int p4), .val (.int cm), .val (.int lt), .val (.int ln), .val (.int ca0), .val (.int ca1), .val (.int ca2), .val (.int cb0), .val (.int cb1), .val (.int cb2), .val (.ref b5), .val (.ref b7), .val (.ref b9), .val (.int (if kq = s0 then own_eqI (own_mk lt ca0 ca1 ca2) (own_mk ln cb0 cb1 cb2) else 0)), .unset, .unset] [(.int lt)])) (fun kk => XS.iload X14.here hx rfl (hb hby at_148) rfl kk) ?_
    refine via (S' := T14.setTop (mkF m 152 #[.val (.int p0), .val (.int p1), .val (.int p2), .val (.int p3), .val (.int p4), .val (.int cm), .val (.int lt), .val (.int ln), .val (.int ca0), .val (.int ca1), .val (.int ca2), .val (.int cb0), .val (.int cb1), .val (.int cb2), .val (.ref b5), .val (.ref b7), .val (.ref b9), .val (.int (if kq = s0 then own_eqI (own_mk lt ca0 ca1 ca2) (own_mk ln cb0 cb1 cb2) else 0)), .unset, .unset] [(.int ln), (.int lt)])) (fun kk => XS.iload X14.here hx rfl (hb hby at_150) rfl kk) ?_
    by_cases hc16 : lt = ln
    · refine via (S' := T14.setTop (mkF m 155 #[.val (.int p0), .val (.int p1), .val (.int p2), .val (.int p3), .val (.int p4), .val (.int cm), .val (.int lt), .val (.int ln), .val (.int ca0), .val (.int ca1), .val (.int ca2), .val (.int cb0), .val (.int cb1), .val (.int cb2), .val (.ref b5), .val (.ref b7), .val (.ref b9), .val (.int (if kq = s0 then own_eqI (own_mk lt ca0 ca1 ca2) (own_mk ln cb0 cb1 cb2) else 0)), .unset, .unset] [])) (fun kk => XS.icmpNo X14.here hx rfl (hb hby at_152) rfl (teq hc16).2 kk) ?_
      refine via (S' := T14.setTop (mkF m 157 #[.val (.int p0), .val (.int p1), .val (.int p2), .val (.int p3), .val (.int p4), .val (.int cm), .val (.int lt), .val (.int ln), .val (.int ca0), .val (.int ca1), .val (.int ca2), .val (.int cb0), .val (.int cb1), .val (.int cb2), .val (.ref b5), .val (.ref b7), .val (.ref b9), .val (.int (if kq = s0 then own_eqI (own_mk lt ca0 ca1 ca2) (own_mk ln cb0 cb1 cb2) else 0)), .unset, .unset] [(.int lt)])) (fun kk => XS.iload X14.here hx rfl (hb hby at_155) rfl kk) ?_
      refine via (S' := T14.setTop (mkF m 158 #[.val (.int p0), .val (.int p1), .val (.int p2), .val (.int p3), .val (.int p4), .val (.int cm), .val (.int lt), .val (.int ln), .val (.int ca0), .val (.int ca1), .val (.int ca2), .val (.int cb0), .val (.int cb1), .val (.int cb2), .val (.ref b5), .val (.ref b7), .val (.ref b9), .val (.int (if kq = s0 then own_eqI (own_mk lt ca0 ca1 ca2) (own_mk ln cb0 cb1 cb2) else 0)), .unset, .unset] [(.int (1 : Int32)), (.int lt)])) (fun kk => XS.iconst X14.here hx rfl (hb hby at_157) kk) ?_
      by_cases hc17 : lt < (1 : Int32)
      · refine via (S' := T14.setTop (mkF m 168 #[.val (.int p0), .val (.int p1), .val (.int p2), .val (.int p3), .val (.int p4), .val (.int cm), .val (.int lt), .val (.int ln), .val (.int ca0), .val (.int ca1), .val (.int ca2), .val (.int cb0), .val (.int cb1), .val (.int cb2), .val (.ref b5), .val (.ref b7), .val (.ref b9), .val (.int (if kq = s0 then own_eqI (own_mk lt ca0 ca1 ca2) (own_mk ln cb0 cb1 cb2) else 0)), .unset, .unset] [])) (fun kk => XS.icmpYes X14.here hx rfl (pc0 := 158) (pc' := 168) rfl (hb hby at_158) rfl (tlt hc17).1 (by decide) (by decide) kk) ?_
        refine via (S' := T14.setTop (mkF m 170 #[.val (.int p0), .val (.int p1), .val (.int p2), .val (.int p3), .val (.int p4), .val (.int cm), .val (.int lt), .val (.int ln), .val (.int ca0), .val (.int ca1), .val (.int ca2), .val (.int cb0), .val (.int cb1), .val (.int cb2), .val (.ref b5), .val (.ref b7), .val (.ref b9), .val (.int (if kq = s0 then own_eqI (own_mk lt ca0 ca1 ca2) (own_mk ln cb0 cb1 cb2) else 0)), .unset, .unset] [(.int lt)])) (fun kk => XS.iload X14.here hx rfl (hb hby at_168) rfl kk) ?_
        refine via (S' := T14.setTop (mkF m 171 #[.val (.int p0), .val (.int p1), .val (.int p2), .val (.int p3), .val (.int p4), .val (.int cm), .val (.int lt), .val (.int ln), .val (.int ca0), .val (.int ca1), .val (.int ca2), .val (.int cb0), .val (.int cb1), .val (.int cb2), .val (.ref b5), .val (.ref b7), .val (.ref b9), .val (.int (if kq = s0 then own_eqI (own_mk lt ca0 ca1 ca2) (own_mk ln cb0 cb1 cb2) else 0)), .unset, .unset] [(.int (2 : Int32)), (.int lt)])) (fun kk => XS.iconst X14.here hx rfl (hb hby at_170) kk) ?_
        by_cases hc18 : lt < (2 : Int32)
        · refine via (S' := T14.setTop (mkF m 181 #[.val (.int p0), .val (.int p1), .val (.int p2), .val (.int p3), .val (.int p4), .val (.int cm), .val (.int lt), .val (.int ln), .val (.int ca0), .val (.int ca1), .val (.int ca2), .val (.int cb0), .val (.int cb1), .val (.int cb2), .val (.ref b5), .val (.ref b7), .val (.ref b9), .val (.int (if kq = s0 then own_eqI (own_mk lt ca0 ca1 ca2) (own_mk ln cb0 cb1 cb2) else 0)), .unset, .unset] [])) (fun kk => XS.icmpYes X14.here hx rfl (pc0 := 171) (pc' := 181) rfl (hb hby at_171) rfl (tlt hc18).1 (by decide) (by decide) kk) ?_
          refine via (S' := T14.setTop (mkF m 183 #[.val (.int p0), .val (.int p1), .val (.int p2), .val (.int p3), .val (.int p4), .val (.int cm), .val (.int lt), .val (.int ln), .val (.int ca0), .val (.int ca1), .val (.int ca2), .val (.int cb0), .val (.int cb1), .val (.int cb2), .val (.ref b5), .val (.ref b7), .val (.ref b9), .val (.int (if kq = s0 then own_eqI (own_mk lt ca0 ca1 ca2) (own_mk ln cb0 cb1 cb2) else 0)), .unset, .unset] [(.int lt)])) (fun kk => XS.iload X14.here hx rfl (hb hby at_181) rfl kk) ?_
          refine via (S' := T14.setTop (mkF m 184 #[.val (.int p0), .val (.int p1), .val (.int p2), .val (.int p3), .val (.int p4), .val (.int cm), .val (.int lt), .val (.int ln), .val (.int ca0), .val (.int ca1), .val (.int ca2), .val (.int cb0), .val (.int cb1), .val (.int cb2), .val (.ref b5), .val (.ref b7), .val (.ref b9), .val (.int (if kq = s0 then own_eqI (own_mk lt ca0 ca1 ca2) (own_mk ln cb0 cb1 cb2) else 0)), .unset, .unset] [(.int (3 : Int32)), (.int lt)])) (fun kk => XS.iconst X14.here hx rfl (hb hby at_183) kk) ?_
          by_cases hc19 : lt < (3 : Int32)
          · refine via (S' := T14.setTop (mkF m 194 #[.val (.int p0), .val (.int p1), .val (.int p2), .val (.int p3), .val (.int p4), .val (.int cm), .val (.int lt), .val (.int ln), .val (.int ca0), .val (.int ca1), .val (.int ca2), .val (.int cb0), .val (.int cb1), .val (.int cb2), .val (.ref b5), .val (.ref b7), .val (.ref b9), .val (.int (if kq = s0 then own_eqI (own_mk lt ca0 ca1 ca2) (own_mk ln cb0 cb1 cb2) else 0)), .unset, .unset] [])) (fun kk => XS.icmpYes X14.here hx rfl (pc0 := 184) (pc' := 194) rfl (hb hby at_184) rfl (tlt hc19).1 (by decide) (by decide) kk) ?_
            refine via (S' := T14.setTop (mkF m 195 #[.val (.int p0), .val (.int p1), .val (.int p2), .val (.int p3), .val (.int p4), .val (.int cm), .val (.int lt), .val (.int ln), .val (.int ca0), .val (.int ca1), .val (.int ca2), .val (.int cb0), .val (.int cb1), .val (.int cb2), .val (.ref b5), .val (.ref b7), .val (.ref b9), .val (.int (if kq = s0 then own_eqI (own_mk lt ca0 ca1 ca2) (own_mk ln cb0 cb1 cb2) else 0)), .unset, .unset] [(.int (1 : Int32))])) (fun kk => XS.iconst X14.here hx rfl (hb hby at_194) kk) ?_
            refine via (S' := T14.setTop (mkF m 199 #[.val (.int p0), .val (.int p1), .val (.int p2), .val (.int p3), .val (.int p4), .val (.int cm), .val (.int lt), .val (.int ln), .val (.int ca0), .val (.int ca1), .val (.int ca2), .val (.int cb0), .val (.int cb1), .val (.int cb2), .val (.ref b5), .val (.ref b7), .val (.ref b9), .val (.int (if kq = s0 then own_eqI (own_mk lt ca0 ca1 ca2) (own_mk ln cb0 cb1 cb2) else 0)), .unset, .unset] [(.int (1 : Int32))])) (fun kk => XS.goto X14.here hx rfl (pc0 := 195) (pc' := 199) rfl (hb hby at_195) (by decide) (by decide) kk) ?_
            have qj_ev : ev = (1 : Int32) := hj_ev.trans (by rw [if_pos hc16, if_pos hc17, if_pos hc18, if_pos hc19])
            rw [qj_ev] at kj
            exact kj
          · refine via (S' := T14.setTop (mkF m 187 #[.val (.int p0), .val (.int p1), .val (.int p2), .val (.int p3), .val (.int p4), .val (.int cm), .val (.int lt), .val (.int ln), .val (.int ca0), .val (.int ca1), .val (.int ca2), .val (.int cb0), .val (.int cb1), .val (.int cb2), .val (.ref b5), .val (.ref b7), .val (.ref b9), .val (.int (if kq = s0 then own_eqI (own_mk lt ca0 ca1 ca2) (own_mk ln cb0 cb1 cb2) else 0)), .unset, .unset] [])) (fun kk => XS.icmpNo X14.here hx rfl (hb hby at_184) rfl (flt hc19).1 kk) ?_
            refine via (S' := T14.setTop (mkF m 189 #[.val (.int p0), .val (.int p1), .val (.int p2), .val (.int p3), .val (.int p4), .val (.int cm), .val (.int lt), .val (.int ln), .val (.int ca0), .val (.int ca1), .val (.int ca2), .val (.int cb0), .val (.int cb1), .val (.int cb2), .val (.ref b5), .val (.ref b7), .val (.ref b9), .val (.int (if kq = s0 then own_eqI (own_mk lt ca0 ca1 ca2) (own_mk ln cb0 cb1 cb2) else 0)), .unset, .unset] [(.int ca2)])) (fun kk => XS.iload X14.here hx rfl (hb hby at_187) rfl kk) ?_
            refine via (S' := T14.setTop (mkF m 191 #[.val (.int p0), .val (.int p1), .val (.int p2), .val (.int p3), .val (.int p4), .val (.int cm), .val (.int lt), .val (.int ln), .val (.int ca0), .val (.int ca1), .val (.int ca2), .val (.int cb0), .val (.int cb1), .val (.int cb2), .val (.ref b5), .val (.ref b7), .val (.ref b9), .val (.int (if kq = s0 then own_eqI (own_mk lt ca0 ca1 ca2) (own_mk ln cb0 cb1 cb2) else 0)), .unset, .unset] [(.int cb2), (.int ca2)])) (fun kk => XS.iload X14.here hx rfl (hb hby at_189) rfl kk) ?_
            by_cases hc20 : ca2 = cb2
            · refine via (S' := T14.setTop (mkF m 194 #[.val (.int p0), .val (.int p1), .val (.int p2), .val (.int p3), .val (.int p4), .val (.int cm), .val (.int lt), .val (.int ln), .val (.int ca0), .val (.int ca1), .val (.int ca2), .val (.int cb0), .val (.int cb1), .val (.int cb2), .val (.ref b5), .val (.ref b7), .val (.ref b9), .val (.int (if kq = s0 then own_eqI (own_mk lt ca0 ca1 ca2) (own_mk ln cb0 cb1 cb2) else 0)), .unset, .unset] [])) (fun kk => XS.icmpNo X14.here hx rfl (hb hby at_191) rfl (teq hc20).2 kk) ?_
              refine via (S' := T14.setTop (mkF m 195 #[.val (.int p0), .val (.int p1), .val (.int p2), .val (.int p3), .val (.int p4), .val (.int cm), .val (.int lt), .val (.int ln), .val (.int ca0), .val (.int ca1), .val (.int ca2), .val (.int cb0), .val (.int cb1), .val (.int cb2), .val (.ref b5), .val (.ref b7), .val (.ref b9), .val (.int (if kq = s0 then own_eqI (own_mk lt ca0 ca1 ca2) (own_mk ln cb0 cb1 cb2) else 0)), .unset, .unset] [(.int (1 : Int32))])) (fun kk => XS.iconst X14.here hx rfl (hb hby at_194) kk) ?_
              refine via (S' := T14.setTop (mkF m 199 #[.val (.int p0), .val (.int p1), .val (.int p2), .val (.int p3), .val (.int p4), .val (.int cm), .val (.int lt), .val (.int ln), .val (.int ca0), .val (.int ca1), .val (.int ca2), .val (.int cb0), .val (.int cb1), .val (.int cb2), .val (.ref b5), .val (.ref b7), .val (.ref b9), .val (.int (if kq = s0 then own_eqI (own_mk lt ca0 ca1 ca2) (own_mk ln cb0 cb1 cb2) else 0)), .unset, .unset] [(.int (1 : Int32))])) (fun kk => XS.goto X14.here hx rfl (pc0 := 195) (pc' := 199) rfl (hb hby at_195) (by decide) (by decide) kk) ?_
              have qj_ev : ev = (1 : Int32) := hj_ev.trans (by rw [if_pos hc16, if_pos hc17, if_pos hc18, if_neg hc19, if_pos hc20])
              rw [qj_ev] at kj
              exact kj
            · refine via (S' := T14.setTop (mkF m 198 #[.val (.int p0), .val (.int p1), .val (.int p2), .val (.int p3), .val (.int p4), .val (.int cm), .val (.int lt), .val (.int ln), .val (.int ca0), .val (.int ca1), .val (.int ca2), .val (.int cb0), .val (.int cb1), .val (.int cb2), .val (.ref b5), .val (.ref b7), .val (.ref b9), .val (.int (if kq = s0 then own_eqI (own_mk lt ca0 ca1 ca2) (own_mk ln cb0 cb1 cb2) else 0)), .unset, .unset] [])) (fun kk => XS.icmpYes X14.here hx rfl (pc0 := 191) (pc' := 198) rfl (hb hby at_191) rfl (feq hc20).2 (by decide) (by decide) kk) ?_
              refine via (S' := T14.setTop (mkF m 199 #[.val (.int p0), .val (.int p1), .val (.int p2), .val (.int p3), .val (.int p4), .val (.int cm), .val (.int lt), .val (.int ln), .val (.int ca0), .val (.int ca1), .val (.int ca2), .val (.int cb0), .val (.int cb1), .val (.int cb2), .val (.ref b5), .val (.ref b7), .val (.ref b9), .val (.int (if kq = s0 then own_eqI (own_mk lt ca0 ca1 ca2) (own_mk ln cb0 cb1 cb2) else 0)), .unset, .unset] [(.int (0 : Int32))])) (fun kk => XS.iconst X14.here hx rfl (hb hby at_198) kk) ?_
              have qj_ev : ev = (0 : Int32) := hj_ev.trans (by rw [if_pos hc16, if_pos hc17, if_pos hc18, if_neg hc19, if_neg hc20])
              rw [qj_ev] at kj
              exact kj
        · refine via (S' := T14.setTop (mkF m 174 #[.val (.int p0), .val (.int p1), .val (.int p2), .val (.int p3), .val (.int p4), .val (.int cm), .val (.int lt), .val (.int ln), .val (.int ca0), .val (.int ca1), .val (.int ca2), .val (.int cb0), .val (.int cb1), .val (.int cb2), .val (.ref b5), .val (.ref b7), .val (.ref b9), .val (.int (if kq = s0 then own_eqI (own_mk lt ca0 ca1 ca2) (own_mk ln cb0 cb1 cb2) else 0)), .unset, .unset] [])) (fun kk => XS.icmpNo X14.here hx rfl (hb hby at_171) rfl (flt hc18).1 kk) ?_
          refine via (S' := T14.setTop (mkF m 176 #[.val (.int p0), .val (.int p1), .val (.int p2), .val (.int p3), .val (.int p4), .val (.int cm), .val (.int lt), .val (.int ln), .val (.int ca0), .val (.int ca1), .val (.int ca2), .val (.int cb0), .val (.int cb1), .val (.int cb2), .val (.ref b5), .val (.ref b7), .val (.ref b9), .val (.int (if kq = s0 then own_eqI (own_mk lt ca0 ca1 ca2) (own_mk ln cb0 cb1 cb2) else 0)), .unset, .unset] [(.int ca1)])) (fun kk => XS.iload X14.here hx rfl (hb hby at_174) rfl kk) ?_
          refine via (S' := T14.setTop (mkF m 178 #[.val (.int p0), .val (.int p1), .val (.int p2), .val (.int p3), .val (.int p4), .val (.int cm), .val (.int lt), .val (.int ln), .val (.int ca0), .val (.int ca1), .val (.int ca2), .val (.int cb0), .val (.int cb1), .val (.int cb2), .val (.ref b5), .val (.ref b7), .val (.ref b9), .val (.int (if kq = s0 then own_eqI (own_mk lt ca0 ca1 ca2) (own_mk ln cb0 cb1 cb2) else 0)), .unset, .unset] [(.int cb1), (.int ca1)])) (fun kk => XS.iload X14.here hx rfl (hb hby at_176) rfl kk) ?_
          by_cases hc21 : ca1 = cb1
          · refine via (S' := T14.setTop (mkF m 181 #[.val (.int p0), .val (.int p1), .val (.int p2), .val (.int p3), .val (.int p4), .val (.int cm), .val (.int lt), .val (.int ln), .val (.int ca0), .val (.int ca1), .val (.int ca2), .val (.int cb0), .val (.int cb1), .val (.int cb2), .val (.ref b5), .val (.ref b7), .val (.ref b9), .val (.int (if kq = s0 then own_eqI (own_mk lt ca0 ca1 ca2) (own_mk ln cb0 cb1 cb2) else 0)), .unset, .unset] [])) (fun kk => XS.icmpNo X14.here hx rfl (hb hby at_178) rfl (teq hc21).2 kk) ?_
            refine via (S' := T14.setTop (mkF m 183 #[.val (.int p0), .val (.int p1), .val (.int p2), .val (.int p3), .val (.int p4), .val (.int cm), .val (.int lt), .val (.int ln), .val (.int ca0), .val (.int ca1), .val (.int ca2), .val (.int cb0), .val (.int cb1), .val (.int cb2), .val (.ref b5), .val (.ref b7), .val (.ref b9), .val (.int (if kq = s0 then own_eqI (own_mk lt ca0 ca1 ca2) (own_mk ln cb0 cb1 cb2) else 0)), .unset, .unset] [(.int lt)])) (fun kk => XS.iload X14.here hx rfl (hb hby at_181) rfl kk) ?_
            refine via (S' := T14.setTop (mkF m 184 #[.val (.int p0), .val (.int p1), .val (.int p2), .val (.int p3), .val (.int p4), .val (.int cm), .val (.int lt), .val (.int ln), .val (.int ca0), .val (.int ca1), .val (.int ca2), .val (.int cb0), .val (.int cb1), .val (.int cb2), .val (.ref b5), .val (.ref b7), .val (.ref b9), .val (.int (if kq = s0 then own_eqI (own_mk lt ca0 ca1 ca2) (own_mk ln cb0 cb1 cb2) else 0)), .unset, .unset] [(.int (3 : Int32)), (.int lt)])) (fun kk => XS.iconst X14.here hx rfl (hb hby at_183) kk) ?_
            by_cases hc22 : lt < (3 : Int32)
            · refine via (S' := T14.setTop (mkF m 194 #[.val (.int p0), .val (.int p1), .val (.int p2), .val (.int p3), .val (.int p4), .val (.int cm), .val (.int lt), .val (.int ln), .val (.int ca0), .val (.int ca1), .val (.int ca2), .val (.int cb0), .val (.int cb1), .val (.int cb2), .val (.ref b5), .val (.ref b7), .val (.ref b9), .val (.int (if kq = s0 then own_eqI (own_mk lt ca0 ca1 ca2) (own_mk ln cb0 cb1 cb2) else 0)), .unset, .unset] [])) (fun kk => XS.icmpYes X14.here hx rfl (pc0 := 184) (pc' := 194) rfl (hb hby at_184) rfl (tlt hc22).1 (by decide) (by decide) kk) ?_
              refine via (S' := T14.setTop (mkF m 195 #[.val (.int p0), .val (.int p1), .val (.int p2), .val (.int p3), .val (.int p4), .val (.int cm), .val (.int lt), .val (.int ln), .val (.int ca0), .val (.int ca1), .val (.int ca2), .val (.int cb0), .val (.int cb1), .val (.int cb2), .val (.ref b5), .val (.ref b7), .val (.ref b9), .val (.int (if kq = s0 then own_eqI (own_mk lt ca0 ca1 ca2) (own_mk ln cb0 cb1 cb2) else 0)), .unset, .unset] [(.int (1 : Int32))])) (fun kk => XS.iconst X14.here hx rfl (hb hby at_194) kk) ?_
              refine via (S' := T14.setTop (mkF m 199 #[.val (.int p0), .val (.int p1), .val (.int p2), .val (.int p3), .val (.int p4), .val (.int cm), .val (.int lt), .val (.int ln), .val (.int ca0), .val (.int ca1), .val (.int ca2), .val (.int cb0), .val (.int cb1), .val (.int cb2), .val (.ref b5), .val (.ref b7), .val (.ref b9), .val (.int (if kq = s0 then own_eqI (own_mk lt ca0 ca1 ca2) (own_mk ln cb0 cb1 cb2) else 0)), .unset, .unset] [(.int (1 : Int32))])) (fun kk => XS.goto X14.here hx rfl (pc0 := 195) (pc' := 199) rfl (hb hby at_195) (by decide) (by decide) kk) ?_
              have qj_ev : ev = (1 : Int32) := hj_ev.trans (by rw [if_pos hc16, if_pos hc17, if_neg hc18, if_pos hc21, if_pos hc22])
              rw [qj_ev] at kj
              exact kj
            · refine via (S' := T14.setTop (mkF m 187 #[.val (.int p0), .val (.int p1), .val (.int p2), .val (.int p3), .val (.int p4), .val (.int cm), .val (.int lt), .val (.int ln), .val (.int ca0), .val (.int ca1), .val (.int ca2), .val (.int cb0), .val (.int cb1), .val (.int cb2), .val (.ref b5), .val (.ref b7), .val (.ref b9), .val (.int (if kq = s0 then own_eqI (own_mk lt ca0 ca1 ca2) (own_mk ln cb0 cb1 cb2) else 0)), .unset, .unset] [])) (fun kk => XS.icmpNo X14.here hx rfl (hb hby at_184) rfl (flt hc22).1 kk) ?_
              refine via (S' := T14.setTop (mkF m 189 #[.val (.int p0), .val (.int p1), .val (.int p2), .val (.int p3), .val (.int p4), .val (.int cm), .val (.int lt), .val (.int ln), .val (.int ca0), .val (.int ca1), .val (.int ca2), .val (.int cb0), .val (.int cb1), .val (.int cb2), .val (.ref b5), .val (.ref b7), .val (.ref b9), .val (.int (if kq = s0 then own_eqI (own_mk lt ca0 ca1 ca2) (own_mk ln cb0 cb1 cb2) else 0)), .unset, .unset] [(.int ca2)])) (fun kk => XS.iload X14.here hx rfl (hb hby at_187) rfl kk) ?_
              refine via (S' := T14.setTop (mkF m 191 #[.val (.int p0), .val (.int p1), .val (.int p2), .val (.int p3), .val (.int p4), .val (.int cm), .val (.int lt), .val (.int ln), .val (.int ca0), .val (.int ca1), .val (.int ca2), .val (.int cb0), .val (.int cb1), .val (.int cb2), .val (.ref b5), .val (.ref b7), .val (.ref b9), .val (.int (if kq = s0 then own_eqI (own_mk lt ca0 ca1 ca2) (own_mk ln cb0 cb1 cb2) else 0)), .unset, .unset] [(.int cb2), (.int ca2)])) (fun kk => XS.iload X14.here hx rfl (hb hby at_189) rfl kk) ?_
              by_cases hc23 : ca2 = cb2
              · refine via (S' := T14.setTop (mkF m 194 #[.val (.int p0), .val (.int p1), .val (.int p2), .val (.int p3), .val (.int p4), .val (.int cm), .val (.int lt), .val (.int ln), .val (.int ca0), .val (.int ca1), .val (.int ca2), .val (.int cb0), .val (.int cb1), .val (.int cb2), .val (.ref b5), .val (.ref b7), .val (.ref b9), .val (.int (if kq = s0 then own_eqI (own_mk lt ca0 ca1 ca2) (own_mk ln cb0 cb1 cb2) else 0)), .unset, .unset] [])) (fun kk => XS.icmpNo X14.here hx rfl (hb hby at_191) rfl (teq hc23).2 kk) ?_
                refine via (S' := T14.setTop (mkF m 195 #[.val (.int p0), .val (.int p1), .val (.int p2), .val (.int p3), .val (.int p4), .val (.int cm), .val (.int lt), .val (.int ln), .val (.int ca0), .val (.int ca1), .val (.int ca2), .val (.int cb0), .val (.int cb1), .val (.int cb2), .val (.ref b5), .val (.ref b7), .val (.ref b9), .val (.int (if kq = s0 then own_eqI (own_mk lt ca0 ca1 ca2) (own_mk ln cb0 cb1 cb2) else 0)), .unset, .unset] [(.int (1 : Int32))])) (fun kk => XS.iconst X14.here hx rfl (hb hby at_194) kk) ?_
                refine via (S' := T14.setTop (mkF m 199 #[.val (.int p0), .val (.int p1), .val (.int p2), .val (.int p3), .val (.int p4), .val (.int cm), .val (.int lt), .val (.int ln), .val (.int ca0), .val (.int ca1), .val (.int ca2), .val (.int cb0), .val (.int cb1), .val (.int cb2), .val (.ref b5), .val (.ref b7), .val (.ref b9), .val (.int (if kq = s0 then own_eqI (own_mk lt ca0 ca1 ca2) (own_mk ln cb0 cb1 cb2) else 0)), .unset, .unset] [(.int (1 : Int32))])) (fun kk => XS.goto X14.here hx rfl (pc0 := 195) (pc' := 199) rfl (hb hby at_195) (by decide) (by decide) kk) ?_
                have qj_ev : ev = (1 : Int32) := hj_ev.trans (by rw [if_pos hc16, if_pos hc17, if_neg hc18, if_pos hc21, if_neg hc22, if_pos hc23])
                rw [qj_ev] at kj
                exact kj
              · refine via (S' := T14.setTop (mkF m 198 #[.val (.int p0), .val (.int p1), .val (.int p2), .val (.int p3), .val (.int p4), .val (.int cm), .val (.int lt), .val (.int ln), .val (.int ca0), .val (.int ca1), .val (.int ca2), .val (.int cb0), .val (.int cb1), .val (.int cb2), .val (.ref b5), .val (.ref b7), .val (.ref b9), .val (.int (if kq = s0 then own_eqI (own_mk lt ca0 ca1 ca2) (own_mk ln cb0 cb1 cb2) else 0)), .unset, .unset] [])) (fun kk => XS.icmpYes X14.here hx rfl (pc0 := 191) (pc' := 198) rfl (hb hby at_191) rfl (feq hc23).2 (by decide) (by decide) kk) ?_
                refine via (S' := T14.setTop (mkF m 199 #[.val (.int p0), .val (.int p1), .val (.int p2), .val (.int p3), .val (.int p4), .val (.int cm), .val (.int lt), .val (.int ln), .val (.int ca0), .val (.int ca1), .val (.int ca2), .val (.int cb0), .val (.int cb1), .val (.int cb2), .val (.ref b5), .val (.ref b7), .val (.ref b9), .val (.int (if kq = s0 then own_eqI (own_mk lt ca0 ca1 ca2) (own_mk ln cb0 cb1 cb2) else 0)), .unset, .unset] [(.int (0 : Int32))])) (fun kk => XS.iconst X14.here hx rfl (hb hby at_198) kk) ?_
                have qj_ev : ev = (0 : Int32) := hj_ev.trans (by rw [if_pos hc16, if_pos hc17, if_neg hc18, if_pos hc21, if_neg hc22, if_neg hc23])
                rw [qj_ev] at kj
                exact kj
          · refine via (S' := T14.setTop (mkF m 198 #[.val (.int p0), .val (.int p1), .val (.int p2), .val (.int p3), .val (.int p4), .val (.int cm), .val (.int lt), .val (.int ln), .val (.int ca0), .val (.int ca1), .val (.int ca2), .val (.int cb0), .val (.int cb1), .val (.int cb2), .val (.ref b5), .val (.ref b7), .val (.ref b9), .val (.int (if kq = s0 then own_eqI (own_mk lt ca0 ca1 ca2) (own_mk ln cb0 cb1 cb2) else 0)), .unset, .unset] [])) (fun kk => XS.icmpYes X14.here hx rfl (pc0 := 178) (pc' := 198) rfl (hb hby at_178) rfl (feq hc21).2 (by decide) (by decide) kk) ?_
            refine via (S' := T14.setTop (mkF m 199 #[.val (.int p0), .val (.int p1), .val (.int p2), .val (.int p3), .val (.int p4), .val (.int cm), .val (.int lt), .val (.int ln), .val (.int ca0), .val (.int ca1), .val (.int ca2), .val (.int cb0), .val (.int cb1), .val (.int cb2), .val (.ref b5), .val (.ref b7), .val (.ref b9), .val (.int (if kq = s0 then own_eqI (own_mk lt ca0 ca1 ca2) (own_mk ln cb0 cb1 cb2) else 0)), .unset, .unset] [(.int (0 : Int32))])) (fun kk => XS.iconst X14.here hx rfl (hb hby at_198) kk) ?_
            have qj_ev : ev = (0 : Int32) := hj_ev.trans (by rw [if_pos hc16, if_pos hc17, if_neg hc18, if_neg hc21])
            rw [qj_ev] at kj
            exact kj
      · refine via (S' := T14.setTop (mkF m 161 #[.val (.int p0), .val (.int p1), .val (.int p2), .val (.int p3), .val (.int p4), .val (.int cm), .val (.int lt), .val (.int ln), .val (.int ca0), .val (.int ca1), .val (.int ca2), .val (.int cb0), .val (.int cb1), .val (.int cb2), .val (.ref b5), .val (.ref b7), .val (.ref b9), .val (.int (if kq = s0 then own_eqI (own_mk lt ca0 ca1 ca2) (own_mk ln cb0 cb1 cb2) else 0)), .unset, .unset] [])) (fun kk => XS.icmpNo X14.here hx rfl (hb hby at_158) rfl (flt hc17).1 kk) ?_
        refine via (S' := T14.setTop (mkF m 163 #[.val (.int p0), .val (.int p1), .val (.int p2), .val (.int p3), .val (.int p4), .val (.int cm), .val (.int lt), .val (.int ln), .val (.int ca0), .val (.int ca1), .val (.int ca2), .val (.int cb0), .val (.int cb1), .val (.int cb2), .val (.ref b5), .val (.ref b7), .val (.ref b9), .val (.int (if kq = s0 then own_eqI (own_mk lt ca0 ca1 ca2) (own_mk ln cb0 cb1 cb2) else 0)), .unset, .unset] [(.int ca0)])) (fun kk => XS.iload X14.here hx rfl (hb hby at_161) rfl kk) ?_
        refine via (S' := T14.setTop (mkF m 165 #[.val (.int p0), .val (.int p1), .val (.int p2), .val (.int p3), .val (.int p4), .val (.int cm), .val (.int lt), .val (.int ln), .val (.int ca0), .val (.int ca1), .val (.int ca2), .val (.int cb0), .val (.int cb1), .val (.int cb2), .val (.ref b5), .val (.ref b7), .val (.ref b9), .val (.int (if kq = s0 then own_eqI (own_mk lt ca0 ca1 ca2) (own_mk ln cb0 cb1 cb2) else 0)), .unset, .unset] [(.int cb0), (.int ca0)])) (fun kk => XS.iload X14.here hx rfl (hb hby at_163) rfl kk) ?_
        by_cases hc24 : ca0 = cb0
        · refine via (S' := T14.setTop (mkF m 168 #[.val (.int p0), .val (.int p1), .val (.int p2), .val (.int p3), .val (.int p4), .val (.int cm), .val (.int lt), .val (.int ln), .val (.int ca0), .val (.int ca1), .val (.int ca2), .val (.int cb0), .val (.int cb1), .val (.int cb2), .val (.ref b5), .val (.ref b7), .val (.ref b9), .val (.int (if kq = s0 then own_eqI (own_mk lt ca0 ca1 ca2) (own_mk ln cb0 cb1 cb2) else 0)), .unset, .unset] [])) (fun kk => XS.icmpNo X14.here hx rfl (hb hby at_165) rfl (teq hc24).2 kk) ?_
          refine via (S' := T14.setTop (mkF m 170 #[.val (.int p0), .val (.int p1), .val (.int p2), .val (.int p3), .val (.int p4), .val (.int cm), .val (.int lt), .val (.int ln), .val (.int ca0), .val (.int ca1), .val (.int ca2), .val (.int cb0), .val (.int cb1), .val (.int cb2), .val (.ref b5), .val (.ref b7), .val (.ref b9), .val (.int (if kq = s0 then own_eqI (own_mk lt ca0 ca1 ca2) (own_mk ln cb0 cb1 cb2) else 0)), .unset, .unset] [(.int lt)])) (fun kk => XS.iload X14.here hx rfl (hb hby at_168) rfl kk) ?_
          refine via (S' := T14.setTop (mkF m 171 #[.val (.int p0), .val (.int p1), .val (.int p2), .val (.int p3), .val (.int p4), .val (.int cm), .val (.int lt), .val (.int ln), .val (.int ca0), .val (.int ca1), .val (.int ca2), .val (.int cb0), .val (.int cb1), .val (.int cb2), .val (.ref b5), .val (.ref b7), .val (.ref b9), .val (.int (if kq = s0 then own_eqI (own_mk lt ca0 ca1 ca2) (own_mk ln cb0 cb1 cb2) else 0)), .unset, .unset] [(.int (2 : Int32)), (.int lt)])) (fun kk => XS.iconst X14.here hx rfl (hb hby at_170) kk) ?_
          by_cases hc25 : lt < (2 : Int32)
          · refine via (S' := T14.setTop (mkF m 181 #[.val (.int p0), .val (.int p1), .val (.int p2), .val (.int p3), .val (.int p4), .val (.int cm), .val (.int lt), .val (.int ln), .val (.int ca0), .val (.int ca1), .val (.int ca2), .val (.int cb0), .val (.int cb1), .val (.int cb2), .val (.ref b5), .val (.ref b7), .val (.ref b9), .val (.int (if kq = s0 then own_eqI (own_mk lt ca0 ca1 ca2) (own_mk ln cb0 cb1 cb2) else 0)), .unset, .unset] [])) (fun kk => XS.icmpYes X14.here hx rfl (pc0 := 171) (pc' := 181) rfl (hb hby at_171) rfl (tlt hc25).1 (by decide) (by decide) kk) ?_
            refine via (S' := T14.setTop (mkF m 183 #[.val (.int p0), .val (.int p1), .val (.int p2), .val (.int p3), .val (.int p4), .val (.int cm), .val (.int lt), .val (.int ln), .val (.int ca0), .val (.int ca1), .val (.int ca2), .val (.int cb0), .val (.int cb1), .val (.int cb2), .val (.ref b5), .val (.ref b7), .val (.ref b9), .val (.int (if kq = s0 then own_eqI (own_mk lt ca0 ca1 ca2) (own_mk ln cb0 cb1 cb2) else 0)), .unset, .unset] [(.int lt)])) (fun kk => XS.iload X14.here hx rfl (hb hby at_181) rfl kk) ?_
            refine via (S' := T14.setTop (mkF m 184 #[.val (.int p0), .val (.int p1), .val (.int p2), .val (.int p3), .val (.int p4), .val (.int cm), .val (.int lt), .val (.int ln), .val (.int ca0), .val (.int ca1), .val (.int ca2), .val (.int cb0), .val (.int cb1), .val (.int cb2), .val (.ref b5), .val (.ref b7), .val (.ref b9), .val (.int (if kq = s0 then own_eqI (own_mk lt ca0 ca1 ca2) (own_mk ln cb0 cb1 cb2) else 0)), .unset, .unset] [(.int (3 : Int32)), (.int lt)])) (fun kk => XS.iconst X14.here hx rfl (hb hby at_183) kk) ?_
            by_cases hc26 : lt < (3 : Int32)
            · refine via (S' := T14.setTop (mkF m 194 #[.val (.int p0), .val (.int p1), .val (.int p2), .val (.int p3), .val (.int p4), .val (.int cm), .val (.int lt), .val (.int ln), .val (.int ca0), .val (.int ca1), .val (.int ca2), .val (.int cb0), .val (.int cb1), .val (.int cb2), .val (.ref b5), .val (.ref b7), .val (.ref b9), .val (.int (if kq = s0 then own_eqI (own_mk lt ca0 ca1 ca2) (own_mk ln cb0 cb1 cb2) else 0)), .unset, .unset] [])) (fun kk => XS.icmpYes X14.here hx rfl (pc0 := 184) (pc' := 194) rfl (hb hby at_184) rfl (tlt hc26).1 (by decide) (by decide) kk) ?_
              refine via (S' := T14.setTop (mkF m 195 #[.val (.int p0), .val (.int p1), .val (.int p2), .val (.int p3), .val (.int p4), .val (.int cm), .val (.int lt), .val (.int ln), .val (.int ca0), .val (.int ca1), .val (.int ca2), .val (.int cb0), .val (.int cb1), .val (.int cb2), .val (.ref b5), .val (.ref b7), .val (.ref b9), .val (.int (if kq = s0 then own_eqI (own_mk lt ca0 ca1 ca2) (own_mk ln cb0 cb1 cb2) else 0)), .unset, .unset] [(.int (1 : Int32))])) (fun kk => XS.iconst X14.here hx rfl (hb hby at_194) kk) ?_
              refine via (S' := T14.setTop (mkF m 199 #[.val (.int p0), .val (.int p1), .val (.int p2), .val (.int p3), .val (.int p4), .val (.int cm), .val (.int lt), .val (.int ln), .val (.int ca0), .val (.int ca1), .val (.int ca2), .val (.int cb0), .val (.int cb1), .val (.int cb2), .val (.ref b5), .val (.ref b7), .val (.ref b9), .val (.int (if kq = s0 then own_eqI (own_mk lt ca0 ca1 ca2) (own_mk ln cb0 cb1 cb2) else 0)), .unset, .unset] [(.int (1 : Int32))])) (fun kk => XS.goto X14.here hx rfl (pc0 := 195) (pc' := 199) rfl (hb hby at_195) (by decide) (by decide) kk) ?_
              have qj_ev : ev = (1 : Int32) := hj_ev.trans (by rw [if_pos hc16, if_neg hc17, if_pos hc24, if_pos hc25, if_pos hc26])
              rw [qj_ev] at kj
              exact kj
            · refine via (S' := T14.setTop (mkF m 187 #[.val (.int p0), .val (.int p1), .val (.int p2), .val (.int p3), .val (.int p4), .val (.int cm), .val (.int lt), .val (.int ln), .val (.int ca0), .val (.int ca1), .val (.int ca2), .val (.int cb0), .val (.int cb1), .val (.int cb2), .val (.ref b5), .val (.ref b7), .val (.ref b9), .val (.int (if kq = s0 then own_eqI (own_mk lt ca0 ca1 ca2) (own_mk ln cb0 cb1 cb2) else 0)), .unset, .unset] [])) (fun kk => XS.icmpNo X14.here hx rfl (hb hby at_184) rfl (flt hc26).1 kk) ?_
              refine via (S' := T14.setTop (mkF m 189 #[.val (.int p0), .val (.int p1), .val (.int p2), .val (.int p3), .val (.int p4), .val (.int cm), .val (.int lt), .val (.int ln), .val (.int ca0), .val (.int ca1), .val (.int ca2), .val (.int cb0), .val (.int cb1), .val (.int cb2), .val (.ref b5), .val (.ref b7), .val (.ref b9), .val (.int (if kq = s0 then own_eqI (own_mk lt ca0 ca1 ca2) (own_mk ln cb0 cb1 cb2) else 0)), .unset, .unset] [(.int ca2)])) (fun kk => XS.iload X14.here hx rfl (hb hby at_187) rfl kk) ?_
              refine via (S' := T14.setTop (mkF m 191 #[.val (.int p0), .val (.int p1), .val (.int p2), .val (.int p3), .val (.int p4), .val (.int cm), .val (.int lt), .val (.int ln), .val (.int ca0), .val (.int ca1), .val (.int ca2), .val (.int cb0), .val (.int cb1), .val (.int cb2), .val (.ref b5), .val (.ref b7), .val (.ref b9), .val (.int (if kq = s0 then own_eqI (own_mk lt ca0 ca1 ca2) (own_mk ln cb0 cb1 cb2) else 0)), .unset, .unset] [(.int cb2), (.int ca2)])) (fun kk => XS.iload X14.here hx rfl (hb hby at_189) rfl kk) ?_
              by_cases hc27 : ca2 = cb2
              · refine via (S' := T14.setTop (mkF m 194 #[.val (.int p0), .val (.int p1), .val (.int p2), .val (.int p3), .val (.int p4), .val (.int cm), .val (.int lt), .val (.int ln), .val (.int ca0), .val (.int ca1), .val (.int ca2), .val (.int cb0), .val (.int cb1), .val (.int cb2), .val (.ref b5), .val (.ref b7), .val (.ref b9), .val (.int (if kq = s0 then own_eqI (own_mk lt ca0 ca1 ca2) (own_mk ln cb0 cb1 cb2) else 0)), .unset, .unset] [])) (fun kk => XS.icmpNo X14.here hx rfl (hb hby at_191) rfl (teq hc27).2 kk) ?_
                refine via (S' := T14.setTop (mkF m 195 #[.val (.int p0), .val (.int p1), .val (.int p2), .val (.int p3), .val (.int p4), .val (.int cm), .val (.int lt), .val (.int ln), .val (.int ca0), .val (.int ca1), .val (.int ca2), .val (.int cb0), .val (.int cb1), .val (.int cb2), .val (.ref b5), .val (.ref b7), .val (.ref b9), .val (.int (if kq = s0 then own_eqI (own_mk lt ca0 ca1 ca2) (own_mk ln cb0 cb1 cb2) else 0)), .unset, .unset] [(.int (1 : Int32))])) (fun kk => XS.iconst X14.here hx rfl (hb hby at_194) kk) ?_
                refine via (S' := T14.setTop (mkF m 199 #[.val (.int p0), .val (.int p1), .val (.int p2), .val (.int p3), .val (.int p4), .val (.int cm), .val (.int lt), .val (.int ln), .val (.int ca0), .val (.int ca1), .val (.int ca2), .val (.int cb0), .val (.int cb1), .val (.int cb2), .val (.ref b5), .val (.ref b7), .val (.ref b9), .val (.int (if kq = s0 then own_eqI (own_mk lt ca0 ca1 ca2) (own_mk ln cb0 cb1 cb2) else 0)), .unset, .unset] [(.int (1 : Int32))])) (fun kk => XS.goto X14.here hx rfl (pc0 := 195) (pc' := 199) rfl (hb hby at_195) (by decide) (by decide) kk) ?_
                have qj_ev : ev = (1 : Int32) := hj_ev.trans (by rw [if_pos hc16, if_neg hc17, if_pos hc24, if_pos hc25, if_neg hc26, if_pos hc27])
                rw [qj_ev] at kj
                exact kj
              · refine via (S' := T14.setTop (mkF m 198 #[.val (.int p0), .val (.int p1), .val (.int p2), .val (.int p3), .val (.int p4), .val (.int cm), .val (.int lt), .val (.int ln), .val (.int ca0), .val (.int ca1), .val (.int ca2), .val (.int cb0), .val (.int cb1), .val (.int cb2), .val (.ref b5), .val (.ref b7), .val (.ref b9), .val (.int (if kq = s0 then own_eqI (own_mk lt ca0 ca1 ca2) (own_mk ln cb0 cb1 cb2) else 0)), .unset, .unset] [])) (fun kk => XS.icmpYes X14.here hx rfl (pc0 := 191) (pc' := 198) rfl (hb hby at_191) rfl (feq hc27).2 (by decide) (by decide) kk) ?_
                refine via (S' := T14.setTop (mkF m 199 #[.val (.int p0), .val (.int p1), .val (.int p2), .val (.int p3), .val (.int p4), .val (.int cm), .val (.int lt), .val (.int ln), .val (.int ca0), .val (.int ca1), .val (.int ca2), .val (.int cb0), .val (.int cb1), .val (.int cb2), .val (.ref b5), .val (.ref b7), .val (.ref b9), .val (.int (if kq = s0 then own_eqI (own_mk lt ca0 ca1 ca2) (own_mk ln cb0 cb1 cb2) else 0)), .unset, .unset] [(.int (0 : Int32))])) (fun kk => XS.iconst X14.here hx rfl (hb hby at_198) kk) ?_
                have qj_ev : ev = (0 : Int32) := hj_ev.trans (by rw [if_pos hc16, if_neg hc17, if_pos hc24, if_pos hc25, if_neg hc26, if_neg hc27])
                rw [qj_ev] at kj
                exact kj
          · refine via (S' := T14.setTop (mkF m 174 #[.val (.int p0), .val (.int p1), .val (.int p2), .val (.int p3), .val (.int p4), .val (.int cm), .val (.int lt), .val (.int ln), .val (.int ca0), .val (.int ca1), .val (.int ca2), .val (.int cb0), .val (.int cb1), .val (.int cb2), .val (.ref b5), .val (.ref b7), .val (.ref b9), .val (.int (if kq = s0 then own_eqI (own_mk lt ca0 ca1 ca2) (own_mk ln cb0 cb1 cb2) else 0)), .unset, .unset] [])) (fun kk => XS.icmpNo X14.here hx rfl (hb hby at_171) rfl (flt hc25).1 kk) ?_
            refine via (S' := T14.setTop (mkF m 176 #[.val (.int p0), .val (.int p1), .val (.int p2), .val (.int p3), .val (.int p4), .val (.int cm), .val (.int lt), .val (.int ln), .val (.int ca0), .val (.int ca1), .val (.int ca2), .val (.int cb0), .val (.int cb1), .val (.int cb2), .val (.ref b5), .val (.ref b7), .val (.ref b9), .val (.int (if kq = s0 then own_eqI (own_mk lt ca0 ca1 ca2) (own_mk ln cb0 cb1 cb2) else 0)), .unset, .unset] [(.int ca1)])) (fun kk => XS.iload X14.here hx rfl (hb hby at_174) rfl kk) ?_
            refine via (S' := T14.setTop (mkF m 178 #[.val (.int p0), .val (.int p1), .val (.int p2), .val (.int p3), .val (.int p4), .val (.int cm), .val (.int lt), .val (.int ln), .val (.int ca0), .val (.int ca1), .val (.int ca2), .val (.int cb0), .val (.int cb1), .val (.int cb2), .val (.ref b5), .val (.ref b7), .val (.ref b9), .val (.int (if kq = s0 then own_eqI (own_mk lt ca0 ca1 ca2) (own_mk ln cb0 cb1 cb2) else 0)), .unset, .unset] [(.int cb1), (.int ca1)])) (fun kk => XS.iload X14.here hx rfl (hb hby at_176) rfl kk) ?_
            by_cases hc28 : ca1 = cb1
            · refine via (S' := T14.setTop (mkF m 181 #[.val (.int p0), .val (.int p1), .val (.int p2), .val (.int p3), .val (.int p4), .val (.int cm), .val (.int lt), .val (.int ln), .val (.int ca0), .val (.int ca1), .val (.int ca2), .val (.int cb0), .val (.int cb1), .val (.int cb2), .val (.ref b5), .val (.ref b7), .val (.ref b9), .val (.int (if kq = s0 then own_eqI (own_mk lt ca0 ca1 ca2) (own_mk ln cb0 cb1 cb2) else 0)), .unset, .unset] [])) (fun kk => XS.icmpNo X14.here hx rfl (hb hby at_178) rfl (teq hc28).2 kk) ?_
              refine via (S' := T14.setTop (mkF m 183 #[.val (.int p0), .val (.int p1), .val (.int p2), .val (.int p3), .val (.int p4), .val (.int cm), .val (.int lt), .val (.int ln), .val (.int ca0), .val (.int ca1), .val (.int ca2), .val (.int cb0), .val (.int cb1), .val (.int cb2), .val (.ref b5), .val (.ref b7), .val (.ref b9), .val (.int (if kq = s0 then own_eqI (own_mk lt ca0 ca1 ca2) (own_mk ln cb0 cb1 cb2) else 0)), .unset, .unset] [(.int lt)])) (fun kk => XS.iload X14.here hx rfl (hb hby at_181) rfl kk) ?_
              refine via (S' := T14.setTop (mkF m 184 #[.val (.int p0), .val (.int p1), .val (.int p2), .val (.int p3), .val (.int p4), .val (.int cm), .val (.int lt), .val (.int ln), .val (.int ca0), .val (.int ca1), .val (.int ca2), .val (.int cb0), .val (.int cb1), .val (.int cb2), .val (.ref b5), .val (.ref b7), .val (.ref b9), .val (.int (if kq = s0 then own_eqI (own_mk lt ca0 ca1 ca2) (own_mk ln cb0 cb1 cb2) else 0)), .unset, .unset] [(.int (3 : Int32)), (.int lt)])) (fun kk => XS.iconst X14.here hx rfl (hb hby at_183) kk) ?_
              by_cases hc29 : lt < (3 : Int32)
              · refine via (S' := T14.setTop (mkF m 194 #[.val (.int p0), .val (.int p1), .val (.int p2), .val (.int p3), .val (.int p4), .val (.int cm), .val (.int lt), .val (.int ln), .val (.int ca0), .val (.int ca1), .val (.int ca2), .val (.int cb0), .val (.int cb1), .val (.int cb2), .val (.ref b5), .val (.ref b7), .val (.ref b9), .val (.int (if kq = s0 then own_eqI (own_mk lt ca0 ca1 ca2) (own_mk ln cb0 cb1 cb2) else 0)), .unset, .unset] [])) (fun kk => XS.icmpYes X14.here hx rfl (pc0 := 184) (pc' := 194) rfl (hb hby at_184) rfl (tlt hc29).1 (by decide) (by decide) kk) ?_
                refine via (S' := T14.setTop (mkF m 195 #[.val (.int p0), .val (.int p1), .val (.int p2), .val (.int p3), .val (.int p4), .val (.int cm), .val (.int lt), .val (.int ln), .val (.int ca0), .val (.int ca1), .val (.int ca2), .val (.int cb0), .val (.int cb1), .val (.int cb2), .val (.ref b5), .val (.ref b7), .val (.ref b9), .val (.int (if kq = s0 then own_eqI (own_mk lt ca0 ca1 ca2) (own_mk ln cb0 cb1 cb2) else 0)), .unset, .unset] [(.int (1 : Int32))])) (fun kk => XS.iconst X14.here hx rfl (hb hby at_194) kk) ?_
                refine via (S' := T14.setTop (mkF m 199 #[.val (.int p0), .val (.int p1), .val (.int p2), .val (.int p3), .val (.int p4), .val (.int cm), .val (.int lt), .val (.int ln), .val (.int ca0), .val (.int ca1), .val (.int ca2), .val (.int cb0), .val (.int cb1), .val (.int cb2), .val (.ref b5), .val (.ref b7), .val (.ref b9), .val (.int (if kq = s0 then own_eqI (own_mk lt ca0 ca1 ca2) (own_mk ln cb0 cb1 cb2) else 0)), .unset, .unset] [(.int (1 : Int32))])) (fun kk => XS.goto X14.here hx rfl (pc0 := 195) (pc' := 199) rfl (hb hby at_195) (by decide) (by decide) kk) ?_
                have qj_ev : ev = (1 : Int32) := hj_ev.trans (by rw [if_pos hc16, if_neg hc17, if_pos hc24, if_neg hc25, if_pos hc28, if_pos hc29])
                rw [qj_ev] at kj
                exact kj
              · refine via (S' := T14.setTop (mkF m 187 #[.val (.int p0), .val (.int p1), .val (.int p2), .val (.int p3), .val (.int p4), .val (.int cm), .val (.int lt), .val (.int ln), .val (.int ca0), .val (.int ca1), .val (.int ca2), .val (.int cb0), .val (.int cb1), .val (.int cb2), .val (.ref b5), .val (.ref b7), .val (.ref b9), .val (.int (if kq = s0 then own_eqI (own_mk lt ca0 ca1 ca2) (own_mk ln cb0 cb1 cb2) else 0)), .unset, .unset] [])) (fun kk => XS.icmpNo X14.here hx rfl (hb hby at_184) rfl (flt hc29).1 kk) ?_
                refine via (S' := T14.setTop (mkF m 189 #[.val (.int p0), .val (.int p1), .val (.int p2), .val (.int p3), .val (.int p4), .val (.int cm), .val (.int lt), .val (.int ln), .val (.int ca0), .val (.int ca1), .val (.int ca2), .val (.int cb0), .val (.int cb1), .val (.int cb2), .val (.ref b5), .val (.ref b7), .val (.ref b9), .val (.int (if kq = s0 then own_eqI (own_mk lt ca0 ca1 ca2) (own_mk ln cb0 cb1 cb2) else 0)), .unset, .unset] [(.int ca2)])) (fun kk => XS.iload X14.here hx rfl (hb hby at_187) rfl kk) ?_
                refine via (S' := T14.setTop (mkF m 191 #[.val (.int p0), .val (.int p1), .val (.int p2), .val (.int p3), .val (.int p4), .val (.int cm), .val (.int lt), .val (.int ln), .val (.int ca0), .val (.int ca1), .val (.int ca2), .val (.int cb0), .val (.int cb1), .val (.int cb2), .val (.ref b5), .val (.ref b7), .val (.ref b9), .val (.int (if kq = s0 then own_eqI (own_mk lt ca0 ca1 ca2) (own_mk ln cb0 cb1 cb2) else 0)), .unset, .unset] [(.int cb2), (.int ca2)])) (fun kk => XS.iload X14.here hx rfl (hb hby at_189) rfl kk) ?_
                by_cases hc30 : ca2 = cb2
                · refine via (S' := T14.setTop (mkF m 194 #[.val (.int p0), .val (.int p1), .val (.int p2), .val (.int p3), .val (.int p4), .val (.int cm), .val (.int lt), .val (.int ln), .val (.int ca0), .val (.int ca1), .val (.int ca2), .val (.int cb0), .val (.int cb1), .val (.int cb2), .val (.ref b5), .val (.ref b7), .val (.ref b9), .val (.int (if kq = s0 then own_eqI (own_mk lt ca0 ca1 ca2) (own_mk ln cb0 cb1 cb2) else 0)), .unset, .unset] [])) (fun kk => XS.icmpNo X14.here hx rfl (hb hby at_191) rfl (teq hc30).2 kk) ?_
                  refine via (S' := T14.setTop (mkF m 195 #[.val (.int p0), .val (.int p1), .val (.int p2), .val (.int p3), .val (.int p4), .val (.int cm), .val (.int lt), .val (.int ln), .val (.int ca0), .val (.int ca1), .val (.int ca2), .val (.int cb0), .val (.int cb1), .val (.int cb2), .val (.ref b5), .val (.ref b7), .val (.ref b9), .val (.int (if kq = s0 then own_eqI (own_mk lt ca0 ca1 ca2) (own_mk ln cb0 cb1 cb2) else 0)), .unset, .unset] [(.int (1 : Int32))])) (fun kk => XS.iconst X14.here hx rfl (hb hby at_194) kk) ?_
                  refine via (S' := T14.setTop (mkF m 199 #[.val (.int p0), .val (.int p1), .val (.int p2), .val (.int p3), .val (.int p4), .val (.int cm), .val (.int lt), .val (.int ln), .val (.int ca0), .val (.int ca1), .val (.int ca2), .val (.int cb0), .val (.int cb1), .val (.int cb2), .val (.ref b5), .val (.ref b7), .val (.ref b9), .val (.int (if kq = s0 then own_eqI (own_mk lt ca0 ca1 ca2) (own_mk ln cb0 cb1 cb2) else 0)), .unset, .unset] [(.int (1 : Int32))])) (fun kk => XS.goto X14.here hx rfl (pc0 := 195) (pc' := 199) rfl (hb hby at_195) (by decide) (by decide) kk) ?_
                  have qj_ev : ev = (1 : Int32) := hj_ev.trans (by rw [if_pos hc16, if_neg hc17, if_pos hc24, if_neg hc25, if_pos hc28, if_neg hc29, if_pos hc30])
                  rw [qj_ev] at kj
                  exact kj
                · refine via (S' := T14.setTop (mkF m 198 #[.val (.int p0), .val (.int p1), .val (.int p2), .val (.int p3), .val (.int p4), .val (.int cm), .val (.int lt), .val (.int ln), .val (.int ca0), .val (.int ca1), .val (.int ca2), .val (.int cb0), .val (.int cb1), .val (.int cb2), .val (.ref b5), .val (.ref b7), .val (.ref b9), .val (.int (if kq = s0 then own_eqI (own_mk lt ca0 ca1 ca2) (own_mk ln cb0 cb1 cb2) else 0)), .unset, .unset] [])) (fun kk => XS.icmpYes X14.here hx rfl (pc0 := 191) (pc' := 198) rfl (hb hby at_191) rfl (feq hc30).2 (by decide) (by decide) kk) ?_
                  refine via (S' := T14.setTop (mkF m 199 #[.val (.int p0), .val (.int p1), .val (.int p2), .val (.int p3), .val (.int p4), .val (.int cm), .val (.int lt), .val (.int ln), .val (.int ca0), .val (.int ca1), .val (.int ca2), .val (.int cb0), .val (.int cb1), .val (.int cb2), .val (.ref b5), .val (.ref b7), .val (.ref b9), .val (.int (if kq = s0 then own_eqI (own_mk lt ca0 ca1 ca2) (own_mk ln cb0 cb1 cb2) else 0)), .unset, .unset] [(.int (0 : Int32))])) (fun kk => XS.iconst X14.here hx rfl (hb hby at_198) kk) ?_
                  have qj_ev : ev = (0 : Int32) := hj_ev.trans (by rw [if_pos hc16, if_neg hc17, if_pos hc24, if_neg hc25, if_pos hc28, if_neg hc29, if_neg hc30])
                  rw [qj_ev] at kj
                  exact kj
            · refine via (S' := T14.setTop (mkF m 198 #[.val (.int p0), .val (.int p1), .val (.int p2), .val (.int p3), .val (.int p4), .val (.int cm), .val (.int lt), .val (.int ln), .val (.int ca0), .val (.int ca1), .val (.int ca2), .val (.int cb0), .val (.int cb1), .val (.int cb2), .val (.ref b5), .val (.ref b7), .val (.ref b9), .val (.int (if kq = s0 then own_eqI (own_mk lt ca0 ca1 ca2) (own_mk ln cb0 cb1 cb2) else 0)), .unset, .unset] [])) (fun kk => XS.icmpYes X14.here hx rfl (pc0 := 178) (pc' := 198) rfl (hb hby at_178) rfl (feq hc28).2 (by decide) (by decide) kk) ?_
              refine via (S' := T14.setTop (mkF m 199 #[.val (.int p0), .val (.int p1), .val (.int p2), .val (.int p3), .val (.int p4), .val (.int cm), .val (.int lt), .val (.int ln), .val (.int ca0), .val (.int ca1), .val (.int ca2), .val (.int cb0), .val (.int cb1), .val (.int cb2), .val (.ref b5), .val (.ref b7), .val (.ref b9), .val (.int (if kq = s0 then own_eqI (own_mk lt ca0 ca1 ca2) (own_mk ln cb0 cb1 cb2) else 0)), .unset, .unset] [(.int (0 : Int32))])) (fun kk => XS.iconst X14.here hx rfl (hb hby at_198) kk) ?_
              have qj_ev : ev = (0 : Int32) := hj_ev.trans (by rw [if_pos hc16, if_neg hc17, if_pos hc24, if_neg hc25, if_neg hc28])
              rw [qj_ev] at kj
              exact kj
        · refine via (S' := T14.setTop (mkF m 198 #[.val (.int p0), .val (.int p1), .val (.int p2), .val (.int p3), .val (.int p4), .val (.int cm), .val (.int lt), .val (.int ln), .val (.int ca0), .val (.int ca1), .val (.int ca2), .val (.int cb0), .val (.int cb1), .val (.int cb2), .val (.ref b5), .val (.ref b7), .val (.ref b9), .val (.int (if kq = s0 then own_eqI (own_mk lt ca0 ca1 ca2) (own_mk ln cb0 cb1 cb2) else 0)), .unset, .unset] [])) (fun kk => XS.icmpYes X14.here hx rfl (pc0 := 165) (pc' := 198) rfl (hb hby at_165) rfl (feq hc24).2 (by decide) (by decide) kk) ?_
          refine via (S' := T14.setTop (mkF m 199 #[.val (.int p0), .val (.int p1), .val (.int p2), .val (.int p3), .val (.int p4), .val (.int cm), .val (.int lt), .val (.int ln), .val (.int ca0), .val (.int ca1), .val (.int ca2), .val (.int cb0), .val (.int cb1), .val (.int cb2), .val (.ref b5), .val (.ref b7), .val (.ref b9), .val (.int (if kq = s0 then own_eqI (own_mk lt ca0 ca1 ca2) (own_mk ln cb0 cb1 cb2) else 0)), .unset, .unset] [(.int (0 : Int32))])) (fun kk => XS.iconst X14.here hx rfl (hb hby at_198) kk) ?_
          have qj_ev : ev = (0 : Int32) := hj_ev.trans (by rw [if_pos hc16, if_neg hc17, if_neg hc24])
          rw [qj_ev] at kj
          exact kj
    · refine via (S' := T14.setTop (mkF m 198 #[.val (.int p0), .val (.int p1), .val (.int p2), .val (.int p3), .val (.int p4), .val (.int cm), .val (.int lt), .val (.int ln), .val (.int ca0), .val (.int ca1), .val (.int ca2), .val (.int cb0), .val (.int cb1), .val (.int cb2), .val (.ref b5), .val (.ref b7), .val (.ref b9), .val (.int (if kq = s0 then own_eqI (own_mk lt ca0 ca1 ca2) (own_mk ln cb0 cb1 cb2) else 0)), .unset, .unset] [])) (fun kk => XS.icmpYes X14.here hx rfl (pc0 := 152) (pc' := 198) rfl (hb hby at_152) rfl (feq hc16).2 (by decide) (by decide) kk) ?_
      refine via (S' := T14.setTop (mkF m 199 #[.val (.int p0), .val (.int p1), .val (.int p2), .val (.int p3), .val (.int p4), .val (.int cm), .val (.int lt), .val (.int ln), .val (.int ca0), .val (.int ca1), .val (.int ca2), .val (.int cb0), .val (.int cb1), .val (.int cb2), .val (.ref b5), .val (.ref b7), .val (.ref b9), .val (.int (if kq = s0 then own_eqI (own_mk lt ca0 ca1 ca2) (own_mk ln cb0 cb1 cb2) else 0)), .unset, .unset] [(.int (0 : Int32))])) (fun kk => XS.iconst X14.here hx rfl (hb hby at_198) kk) ?_
      have qj_ev : ev = (0 : Int32) := hj_ev.trans (by rw [if_neg hc16])
      rw [qj_ev] at kj
      exact kj
  refine GoW.st (S' := T14.setTop (mkF m 199 #[.val (.int p0), .val (.int p1), .val (.int p2), .val (.int p3), .val (.int p4), .val (.int cm), .val (.int lt), .val (.int ln), .val (.int ca0), .val (.int ca1), .val (.int ca2), .val (.int cb0), .val (.int cb1), .val (.int cb2), .val (.ref b5), .val (.ref b7), .val (.ref b9), .val (.int (if kq = s0 then own_eqI (own_mk lt ca0 ca1 ca2) (own_mk ln cb0 cb1 cb2) else 0)), .unset, .unset] [(.int ev)])) stj15 ?_
  refine GoW.st (S' := T14.setTop (mkF m 201 #[.val (.int p0), .val (.int p1), .val (.int p2), .val (.int p3), .val (.int p4), .val (.int cm), .val (.int lt), .val (.int ln), .val (.int ca0), .val (.int ca1), .val (.int ca2), .val (.int cb0), .val (.int cb1), .val (.int cb2), .val (.ref b5), .val (.ref b7), .val (.ref b9), .val (.int (if kq = s0 then own_eqI (own_mk lt ca0 ca1 ca2) (own_mk ln cb0 cb1 cb2) else 0)), .val (.int ev), .unset] [])) (fun _ kk => XS.istore X14.here hx rfl (hb hby at_199) rfl (l' := #[.val (.int p0), .val (.int p1), .val (.int p2), .val (.int p3), .val (.int p4), .val (.int cm), .val (.int lt), .val (.int ln), .val (.int ca0), .val (.int ca1), .val (.int ca2), .val (.int cb0), .val (.int cb1), .val (.int cb2), .val (.ref b5), .val (.ref b7), .val (.ref b9), .val (.int (if kq = s0 then own_eqI (own_mk lt ca0 ca1 ca2) (own_mk ln cb0 cb1 cb2) else 0)), .val (.int ev), .unset]) rfl kk) ?_
  obtain ⟨xv, hj_xv⟩ : ∃ z : Int32, z = (if (p0 &&& (3 : Int32)) = (0 : Int32) then (if ev = (0 : Int32) then (0 : Int32) else (1 : Int32)) else (0 : Int32)) := ⟨_, rfl⟩
  have stj31 : ∀ tq, Steps p.tables e below (T14.setTop (mkF m 217 #[.val (.int p0), .val (.int p1), .val (.int p2), .val (.int p3), .val (.int p4), .val (.int cm), .val (.int lt), .val (.int ln), .val (.int ca0), .val (.int ca1), .val (.int ca2), .val (.int cb0), .val (.int cb1), .val (.int cb2), .val (.ref b5), .val (.ref b7), .val (.ref b9), .val (.int (if kq = s0 then own_eqI (own_mk lt ca0 ca1 ca2) (own_mk ln cb0 cb1 cb2) else 0)), .val (.int ev), .unset] [(.int xv)])) tq → Steps p.tables e below (T14.setTop (mkF m 201 #[.val (.int p0), .val (.int p1), .val (.int p2), .val (.int p3), .val (.int p4), .val (.int cm), .val (.int lt), .val (.int ln), .val (.int ca0), .val (.int ca1), .val (.int ca2), .val (.int cb0), .val (.int cb1), .val (.int cb2), .val (.ref b5), .val (.ref b7), .val (.ref b9), .val (.int (if kq = s0 then own_eqI (own_mk lt ca0 ca1 ca2) (own_mk ln cb0 cb1 cb2) else 0)), .val (.int ev), .unset] [])) tq := by
    intro tq kj
    refine via (S' := T14.setTop (mkF m 202 #[.val (.int p0), .val (.int p1), .val (.int p2), .val (.int p3), .val (.int p4), .val (.int cm), .val (.int lt), .val (.int ln), .val (.int ca0), .val (.int ca1), .val (.int ca2), .val (.int cb0), .val (.int cb1), .val (.int cb2), .val (.ref b5), .val (.ref b7), .val (.ref b9), .val (.int (if kq = s0 then own_eqI (own_mk lt ca0 ca1 ca2) (own_mk ln cb0 cb1 cb2) else 0)), .val (.int ev), .unset] [(.int p0)])) (fun kk => XS.iloadN X14.here hx rfl (hb hby at_201) rfl kk) ?_
    refine via (S' := T14.setTop (mkF m 203 #[.val (.int p0), .val (.int p1), .val (.int p2), .val (.int p3), .val (.int p4), .val (.int cm), .val (.int lt), .val (.int ln), .val (.int ca0), .val (.int ca1), .val (.int ca2), .val (.int cb0), .val (.int cb1), .val (.int cb2), .val (.ref b5), .val (.ref b7), .val (.ref b9), .val (.int (if kq = s0 then own_eqI (own_mk lt ca0 ca1 ca2) (own_mk ln cb0 cb1 cb2) else 0)), .val (.int ev), .unset] [(.int (3 : Int32)), (.int p0)])) (fun kk => XS.iconst X14.here hx rfl (hb hby at_202) kk) ?_
    refine via (S' := T14.setTop (mkF m 204 #[.val (.int p0), .val (.int p1), .val (.int p2), .val (.int p3), .val (.int p4), .val (.int cm), .val (.int lt), .val (.int ln), .val (.int ca0), .val (.int ca1), .val (.int ca2), .val (.int cb0), .val (.int cb1), .val (.int cb2), .val (.ref b5), .val (.ref b7), .val (.ref b9), .val (.int (if kq = s0 then own_eqI (own_mk lt ca0 ca1 ca2) (own_mk ln cb0 cb1 cb2) else 0)), .val (.int ev), .unset] [(.int (p0 &&& (3 : Int32)))])) (fun kk => XS.iand X14.here hx rfl (hb hby at_203) rfl kk) ?_
    by_cases hc32 : (p0 &&& (3 : Int32)) = (0 : Int32)
    · refine via (S' := T14.setTop (mkF m 207 #[.val (.int p0), .val (.int p1), .val (.int p2), .val (.int p3), .val (.int p4), .val (.int cm), .val (.int lt), .val (.int ln), .val (.int ca0), .val (.int ca1), .val (.int ca2), .val (.int cb0), .val (.int cb1), .val (.int cb2), .val (.ref b5), .val (.ref b7), .val (.ref b9), .val (.int (if kq = s0 then own_eqI (own_mk lt ca0 ca1 ca2) (own_mk ln cb0 cb1 cb2) else 0)), .val (.int ev), .unset] [])) (fun kk => XS.ifNo X14.here hx rfl (hb hby at_204) rfl ((if0 _ _).trans (teq hc32).2) kk) ?_
      refine via (S' := T14.setTop (mkF m 209 #[.val (.int p0), .val (.int p1), .val (.int p2), .val (.int p3), .val (.int p4), .val (.int cm), .val (.int lt), .val (.int ln), .val (.int ca0), .val (.int ca1), .val (.int ca2), .val (.int cb0), .val (.int cb1), .val (.int cb2), .val (.ref b5), .val (.ref b7), .val (.ref b9), .val (.int (if kq = s0 then own_eqI (own_mk lt ca0 ca1 ca2) (own_mk ln cb0 cb1 cb2) else 0)), .val (.int ev), .unset] [(.int ev)])) (fun kk => XS.iload X14.here hx rfl (hb hby at_207) rfl kk) ?_
      by_cases hc33 : ev = (0 : Int32)
      · refine via (S' := T14.setTop (mkF m 216 #[.val (.int p0), .val (.int p1), .val (.int p2), .val (.int p3), .val (.int p4), .val (.int cm), .val (.int lt), .val (.int ln), .val (.int ca0), .val (.int ca1), .val (.int ca2), .val (.int cb0), .val (.int cb1), .val (.int cb2), .val (.ref b5), .val (.ref b7), .val (.ref b9), .val (.int (if kq = s0 then own_eqI (own_mk lt ca0 ca1 ca2) (own_mk ln cb0 cb1 cb2) else 0)), .val (.int ev), .unset] [])) (fun kk => XS.ifYes X14.here hx rfl (pc0 := 209) (pc' := 216) rfl (hb hby at_209) rfl ((if0 _ _).trans (teq hc33).1) (by decide) (by decide) kk) ?_
        refine via (S' := T14.setTop (mkF m 217 #[.val (.int p0), .val (.int p1), .val (.int p2), .val (.int p3), .val (.int p4), .val (.int cm), .val (.int lt), .val (.int ln), .val (.int ca0), .val (.int ca1), .val (.int ca2), .val (.int cb0), .val (.int cb1), .val (.int cb2), .val (.ref b5), .val (.ref b7), .val (.ref b9), .val (.int (if kq = s0 then own_eqI (own_mk lt ca0 ca1 ca2) (own_mk ln cb0 cb1 cb2) else 0)), .val (.int ev), .unset] [(.int (0 : Int32))])) (fun kk => XS.iconst X14.here hx rfl (hb hby at_216) kk) ?_
        have qj_xv : xv = (0 : Int32) := hj_xv.trans (by rw [if_pos hc32, if_pos hc33])
        rw [qj_xv] at kj
        exact kj
      · refine via (S' := T14.setTop (mkF m 212 #[.val (.int p0), .val (.int p1), .val (.int p2), .val (.int p3), .val (.int p4), .val (.int cm), .val (.int lt), .val (.int ln), .val (.int ca0), .val (.int ca1), .val (.int ca2), .val (.int cb0), .val (.int cb1), .val (.int cb2), .val (.ref b5), .val (.ref b7), .val (.ref b9), .val (.int (if kq = s0 then own_eqI (own_mk lt ca0 ca1 ca2) (own_mk ln cb0 cb1 cb2) else 0)), .val (.int ev), .unset] [])) (fun kk => XS.ifNo X14.here hx rfl (hb hby at_209) rfl ((if0 _ _).trans (feq hc33).1) kk) ?_
        refine via (S' := T14.setTop (mkF m 213 #[.val (.int p0), .val (.int p1), .val (.int p2), .val (.int p3), .val (.int p4), .val (.int cm), .val (.int lt), .val (.int ln), .val (.int ca0), .val (.int ca1), .val (.int ca2), .val (.int cb0), .val (.int cb1), .val (.int cb2), .val (.ref b5), .val (.ref b7), .val (.ref b9), .val (.int (if kq = s0 then own_eqI (own_mk lt ca0 ca1 ca2) (own_mk ln cb0 cb1 cb2) else 0)), .val (.int ev), .unset] [(.int (1 : Int32))])) (fun kk => XS.iconst X14.here hx rfl (hb hby at_212) kk) ?_
        refine via (S' := T14.setTop (mkF m 217 #[.val (.int p0), .val (.int p1), .val (.int p2), .val (.int p3), .val (.int p4), .val (.int cm), .val (.int lt), .val (.int ln), .val (.int ca0), .val (.int ca1), .val (.int ca2), .val (.int cb0), .val (.int cb1), .val (.int cb2), .val (.ref b5), .val (.ref b7), .val (.ref b9), .val (.int (if kq = s0 then own_eqI (own_mk lt ca0 ca1 ca2) (own_mk ln cb0 cb1 cb2) else 0)), .val (.int ev), .unset] [(.int (1 : Int32))])) (fun kk => XS.goto X14.here hx rfl (pc0 := 213) (pc' := 217) rfl (hb hby at_213) (by decide) (by decide) kk) ?_
        have qj_xv : xv = (1 : Int32) := hj_xv.trans (by rw [if_pos hc32, if_neg hc33])
        rw [qj_xv] at kj
        exact kj
    · refine via (S' := T14.setTop (mkF m 216 #[.val (.int p0), .val (.int p1), .val (.int p2), .val (.int p3), .val (.int p4), .val (.int cm), .val (.int lt), .val (.int ln), .val (.int ca0), .val (.int ca1), .val (.int ca2), .val (.int cb0), .val (.int cb1), .val (.int cb2), .val (.ref b5), .val (.ref b7), .val (.ref b9), .val (.int (if kq = s0 then own_eqI (own_mk lt ca0 ca1 ca2) (own_mk ln cb0 cb1 cb2) else 0)), .val (.int ev), .unset] [])) (fun kk => XS.ifYes X14.here hx rfl (pc0 := 204) (pc' := 216) rfl (hb hby at_204) rfl ((if0 _ _).trans (feq hc32).2) (by decide) (by decide) kk) ?_
      refine via (S' := T14.setTop (mkF m 217 #[.val (.int p0), .val (.int p1), .val (.int p2), .val (.int p3), .val (.int p4), .val (.int cm), .val (.int lt), .val (.int ln), .val (.int ca0), .val (.int ca1), .val (.int ca2), .val (.int cb0), .val (.int cb1), .val (.int cb2), .val (.ref b5), .val (.ref b7), .val (.ref b9), .val (.int (if kq = s0 then own_eqI (own_mk lt ca0 ca1 ca2) (own_mk ln cb0 cb1 cb2) else 0)), .val (.int ev), .unset] [(.int (0 : Int32))])) (fun kk => XS.iconst X14.here hx rfl (hb hby at_216) kk) ?_
      have qj_xv : xv = (0 : Int32) := hj_xv.trans (by rw [if_neg hc32])
      rw [qj_xv] at kj
      exact kj
  refine GoW.st (S' := T14.setTop (mkF m 217 #[.val (.int p0), .val (.int p1), .val (.int p2), .val (.int p3), .val (.int p4), .val (.int cm), .val (.int lt), .val (.int ln), .val (.int ca0), .val (.int ca1), .val (.int ca2), .val (.int cb0), .val (.int cb1), .val (.int cb2), .val (.ref b5), .val (.ref b7), .val (.ref b9), .val (.int (if kq = s0 then own_eqI (own_mk lt ca0 ca1 ca2) (own_mk ln cb0 cb1 cb2) else 0)), .val (.int ev), .unset] [(.int xv)])) stj31 ?_
  refine GoW.st (S' := T14.setTop (mkF m 219 #[.val (.int p0), .val (.int p1), .val (.int p2), .val (.int p3), .val (.int p4), .val (.int cm), .val (.int lt), .val (.int ln), .val (.int ca0), .val (.int ca1), .val (.int ca2), .val (.int cb0), .val (.int cb1), .val (.int cb2), .val (.ref b5), .val (.ref b7), .val (.ref b9), .val (.int (if kq = s0 then own_eqI (own_mk lt ca0 ca1 ca2) (own_mk ln cb0 cb1 cb2) else 0)), .val (.int ev), .val (.int xv)] [])) (fun _ kk => XS.istore X14.here hx rfl (hb hby at_217) rfl (l' := #[.val (.int p0), .val (.int p1), .val (.int p2), .val (.int p3), .val (.int p4), .val (.int cm), .val (.int lt), .val (.int ln), .val (.int ca0), .val (.int ca1), .val (.int ca2), .val (.int cb0), .val (.int cb1), .val (.int cb2), .val (.ref b5), .val (.ref b7), .val (.ref b9), .val (.int (if kq = s0 then own_eqI (own_mk lt ca0 ca1 ca2) (own_mk ln cb0 cb1 cb2) else 0)), .val (.int ev), .val (.int xv)]) rfl kk) ?_
  refine GoW.st (S' := T14.setTop (mkF m 221 #[.val (.int p0), .val (.int p1), .val (.int p2), .val (.int p3), .val (.int p4), .val (.int cm), .val (.int lt), .val (.int ln), .val (.int ca0), .val (.int ca1), .val (.int ca2), .val (.int cb0), .val (.int cb1), .val (.int cb2), .val (.ref b5), .val (.ref b7), .val (.ref b9), .val (.int (if kq = s0 then own_eqI (own_mk lt ca0 ca1 ca2) (own_mk ln cb0 cb1 cb2) else 0)), .val (.int ev), .val (.int xv)] [(.int (if kq = s0 then own_eqI (own_mk lt ca0 ca1 ca2) (own_mk ln cb0 cb1 cb2) else 0))])) (fun _ kk => XS.iload X14.here hx rfl (hb hby at_219) rfl kk) ?_
  refine GoW.st (S' := T14.setTop (mkF m 223 #[.val (.int p0), .val (.int p1), .val (.int p2), .val (.int p3), .val (.int p4), .val (.int cm), .val (.int lt), .val (.int ln), .val (.int ca0), .val (.int ca1), .val (.int ca2), .val (.int cb0), .val (.int cb1), .val (.int cb2), .val (.ref b5), .val (.ref b7), .val (.ref b9), .val (.int (if kq = s0 then own_eqI (own_mk lt ca0 ca1 ca2) (own_mk ln cb0 cb1 cb2) else 0)), .val (.int ev), .val (.int xv)] [(.int xv), (.int (if kq = s0 then own_eqI (own_mk lt ca0 ca1 ca2) (own_mk ln cb0 cb1 cb2) else 0))])) (fun _ kk => XS.iload X14.here hx rfl (hb hby at_221) rfl kk) ?_
  have hlt : 0 ≤ lt.toInt ∧ lt.toInt < 4 := by rw [h_lt]; exact own_m3 _
  have hln : 0 ≤ ln.toInt ∧ ln.toInt < 4 := by rw [hj_ln]; split; (first | exact hlt | exact own_m3 _); (first | exact hlt | exact own_m3 _)
  have hfin : (if kq = s0 then own_eqI (own_mk lt ca0 ca1 ca2) (own_mk ln cb0 cb1 cb2) else 0) = xv := own_fin (own_law hlt hln hb_ca0 hb_ca1 hb_ca2 hb_cb0 hb_cb1 hb_cb2) (own_eq01 _ _) hkq hj_ev hj_xv
  refine GoW.st (S' := T14.setTop (mkF m 226 #[.val (.int p0), .val (.int p1), .val (.int p2), .val (.int p3), .val (.int p4), .val (.int cm), .val (.int lt), .val (.int ln), .val (.int ca0), .val (.int ca1), .val (.int ca2), .val (.int cb0), .val (.int cb1), .val (.int cb2), .val (.ref b5), .val (.ref b7), .val (.ref b9), .val (.int (if kq = s0 then own_eqI (own_mk lt ca0 ca1 ca2) (own_mk ln cb0 cb1 cb2) else 0)), .val (.int ev), .val (.int xv)] [])) (fun _ kk => XS.icmpNo X14.here hx rfl (hb hby at_223) rfl (teq hfin).2 kk) ?_
  refine GoW.st (S' := T14.setTop (mkF m 227 #[.val (.int p0), .val (.int p1), .val (.int p2), .val (.int p3), .val (.int p4), .val (.int cm), .val (.int lt), .val (.int ln), .val (.int ca0), .val (.int ca1), .val (.int ca2), .val (.int cb0), .val (.int cb1), .val (.int cb2), .val (.ref b5), .val (.ref b7), .val (.ref b9), .val (.int (if kq = s0 then own_eqI (own_mk lt ca0 ca1 ca2) (own_mk ln cb0 cb1 cb2) else 0)), .val (.int ev), .val (.int xv)] [(.int (1 : Int32))])) (fun _ kk => XS.iconst X14.here hx rfl (hb hby at_226) kk) ?_
  refine GoW.st (S' := T14.setTop (mkF m 231 #[.val (.int p0), .val (.int p1), .val (.int p2), .val (.int p3), .val (.int p4), .val (.int cm), .val (.int lt), .val (.int ln), .val (.int ca0), .val (.int ca1), .val (.int ca2), .val (.int cb0), .val (.int cb1), .val (.int cb2), .val (.ref b5), .val (.ref b7), .val (.ref b9), .val (.int (if kq = s0 then own_eqI (own_mk lt ca0 ca1 ca2) (own_mk ln cb0 cb1 cb2) else 0)), .val (.int ev), .val (.int xv)] [(.int (1 : Int32))])) (fun _ kk => XS.goto X14.here hx rfl (pc0 := 227) (pc' := 231) rfl (hb hby at_227) (by decide) (by decide) kk) ?_
  exact GoW.retN X14 hx hlk hS (own_hk e14 hk) (t := .boolean) Bd.returns (by simp) (hb hby at_231) (⟨rfl, N14⟩) (by decide) (by decide)
theorem own_fld {args : Array Value} {s : State} {t : Term} {a : Addr} {C n d : String} {k : Int32} (ev : t.eval args s none [] s = some (.ref a)) (h : (Cond.eq (.field t C n d) (.int k)).value args s none s [] = some true) : Fld s s.heap a C n d (.int k) := by
  obtain ⟨x, y, e1, e2, k1, k2⟩ := cmp_v (Or.inl h)
  cases Option.some.inj ((Term.int_eval k).symm.trans e2)
  obtain ⟨z, rfl⟩ := k2
  have q : (Cond.eq (.field t C n d) (.int k)).value args s none s [] = some (decide (z = k)) := by simp [Cond.value, e1, e2]
  cases gotT q h
  exact Fld.start ((fld_at ev).symm.trans e1)
theorem own_not {args : Array Value} {s : State} {t : Term} {z : Int32} (ev : t.eval args s none [] s = some (.int z)) (h : (Cond.not (.eq t (.int 0))).value args s none s [] = some true) : ¬ z = 0 := fun q => by
  subst q
  have e : (Cond.eq t (.int 0)).value args s none s [] = some true := eq_i ev (Term.int_eval 0) rfl
  simp [Cond.value] at h e
  rw [e] at h
  simp at h
set_option maxRecDepth 65536 in
set_option maxHeartbeats 4000000 in
theorem comes_1 {Post : Tables → Env → Array Value → State → Outcome → State → Prop} (hpost : ∀ tb e args s v u, (limb_1_1.after args s (.returned v) u = true ∧ limb_1_2.after args s (.returned v) u = true ∧ True) → Jvm.D.FramedW s (.returned v) u (Jvm.fieldLocs frame_1_writes args s ++ Jvm.arrayLocs frame_1_arrays args s ++ Jvm.staticLocs frame_1_statics s) 24 1152 → Post tb e args s (.returned v) u) :
    ArmFor flags0 classFile x code maxLocals ret World_1 tables_1 room_1 Calls_1 rest_1 Pre_1 Post := by
  intro l hfl _ _ p e ha hc hk s m args below hf hA hF happ hP
  obtain ⟨hcalls, hrest, hpre⟩ := hP
  obtain ⟨-, -, -, hnamed, -, -, -, hat⟩ := (Spec.applies_iff hf).mp happ
  obtain ⟨hg, hn⟩ := and_e (Cond.before_iff.mp (show (Jvm.Cond.and given_1 narrow_1).before args s = true from hpre))
  obtain ⟨g0, gr0⟩ := and_e hg
  obtain ⟨ga0, gr1⟩ := and_e gr0
  obtain ⟨ga1, gr2⟩ := and_e gr1
  obtain ⟨ga2, gr3⟩ := and_e gr2
  obtain ⟨ga3, gr4⟩ := and_e gr3
  have ga4 := gr4
  obtain ⟨w0, w1, w2, w3, w4, rfl⟩ : ∃ w0 w1 w2 w3 w4 : Value, args = #[w0, w1, w2, w3, w4] := by
    have hs : args.size = 5 := by simpa [Cond.value, given_1] using g0
    obtain ⟨L⟩ := args
    match L, hs with
    | [w0, w1, w2, w3, w4], _ => exact ⟨w0, w1, w2, w3, w4, rfl⟩
  have hw := fun d (hd : d ∈ tables_1) => atoms_spec (ws := Jvm.Cond.code x code maxLocals ret :: tables_1) hat d (List.mem_cons_of_mem _ hd)
  have hfit : Fit s := fun {y c} hc i hi => by
    obtain ⟨ha, rfl⟩ := Array.getElem?_eq_some_iff.mp hc
    have q := List.all_eq_true.mp ((Array.all_eq_true_iff_forall_mem.mp hF) _ (Array.getElem_mem ha)) i (List.mem_range.mpr hi)
    simpa [Array.getElem?_eq_getElem hi] using q
  obtain ⟨i0, ei0⟩ := is_v ga0
  obtain rfl : w0 = (.int i0) := Option.some.inj ei0
  obtain ⟨i1, ei1⟩ := is_v ga1
  obtain rfl : w1 = (.int i1) := Option.some.inj ei1
  obtain ⟨i2, ei2⟩ := is_v ga2
  obtain rfl : w2 = (.int i2) := Option.some.inj ei2
  obtain ⟨i3, ei3⟩ := is_v ga3
  obtain rfl : w3 = (.int i3) := Option.some.inj ei3
  obtain ⟨i4, ei4⟩ := is_v ga4
  obtain rfl : w4 = (.int i4) := Option.some.inj ei4
  obtain ⟨m0, nr0⟩ := and_e hn
  obtain ⟨m1, nr1⟩ := and_e nr0
  obtain ⟨m2, nr2⟩ := and_e nr1
  obtain ⟨m3, nr3⟩ := and_e nr2
  obtain ⟨m4, nr4⟩ := and_e nr3
  obtain ⟨m5, nr5⟩ := and_e nr4
  obtain ⟨m6, nr6⟩ := and_e nr5
  have m7 := nr6
  have hsets := (atoms_of jdkStatics_1 (show (jdkStatics_1.foldr Jvm.Cond.and restOwn_1).before _ s = true from by rw [← rest_1_c_eq]; exact hrest)).1
  obtain ⟨zc, ezc⟩ := is_v (Cond.before_iff.mp (hsets _ (List.mem_of_getElem? (i := 1) rfl)))
  have S_C : Sta s s.heap "java/lang/String" "COMPACT_STRINGS" "Z" (.int zc) := Sta.start ezc (Or.inl (hsets _ (List.mem_of_getElem? (i := 0) rfl)))
  have hcw := (hsets _ (List.mem_of_getElem? (i := 2) rfl))
  have hzc : ¬ zc = 0 := own_not ezc (Cond.before_iff.mp hcw)
  obtain ⟨hC, -⟩ := hcalls
  have Hc : CHv s consts_1 s.vm s.heap := CHv.start (own_EW hw) hC hcw (hw _ (List.mem_of_getElem? (i := 23) rfl)) (hw _ (List.mem_of_getElem? (i := 5) rfl))
  obtain ⟨s0, es0⟩ := exa_v m0
  have S_0 := Sta.start es0 (Or.inr ⟨(hw _ (List.mem_of_getElem? (i := 44) rfl)), (hw _ (List.mem_of_getElem? (i := 45) rfl))⟩)
  have F_s0 := own_fld es0 m3
  obtain ⟨s1, es1⟩ := exa_v m6
  have S_1 := Sta.start es1 (Or.inr ⟨(hw _ (List.mem_of_getElem? (i := 44) rfl)), (hw _ (List.mem_of_getElem? (i := 82) rfl))⟩)
  have F_s1 := own_fld es1 m7
  obtain ⟨s2, es2⟩ := exa_v m4
  have S_2 := Sta.start es2 (Or.inr ⟨(hw _ (List.mem_of_getElem? (i := 44) rfl)), (hw _ (List.mem_of_getElem? (i := 80) rfl))⟩)
  have F_s2 := own_fld es2 m5
  obtain ⟨s3, es3⟩ := exa_v m1
  have S_3 := Sta.start es3 (Or.inr ⟨(hw _ (List.mem_of_getElem? (i := 44) rfl)), (hw _ (List.mem_of_getElem? (i := 78) rfl))⟩)
  have F_s3 := own_fld es3 m2
  have ne_1 : s1 ≠ s0 := Fld.ne F_s1 F_s0 (fun q => absurd (Value.int.inj q) (by decide))
  have ne_2 : s2 ≠ s0 := Fld.ne F_s2 F_s0 (fun q => absurd (Value.int.inj q) (by decide))
  have ne_3 : s3 ≠ s0 := Fld.ne F_s3 F_s0 (fun q => absurd (Value.int.inj q) (by decide))
  obtain ⟨n, o, h1, h2, h3, _, L, rfl, ⟨rfl, N⟩, hq⟩ := rm0 l s _ hw tables_1 i0 i1 i2 i3 i4 zc s0 s1 s2 s3 s.heap s.heap.size (Nat.le_refl _) S_C hzc S_0 S_1 S_2 S_3 ne_1 ne_2 ne_3 p e ha hc hk s m _ below hf ((Spec.applies_iff_loose hf).mp happ).1 ⟨rfl, State.Warmed39.refl s, rfl, Hc⟩ trivial
  refine ⟨n, _, h1, h2, h3, hpost _ _ _ _ _ _ ⟨Cond.after_iff.mpr rfl, Cond.after_iff.mpr (eq_i res_at (Term.int_eval (1)) rfl), trivial⟩ ⟨hq.1, hq.2.1, hq.2.2.1, (hq.2.2.2.sift fun y hy => Or.inr (N y hy)).mono (by decide) (by decide)⟩⟩
theorem main_1_1 : Claimed_1_1 := comes_1 fun _ _ _ _ _ _ h hF => ⟨h.1, hF⟩
theorem main_1_2 : Claimed_1_2 := comes_1 fun _ _ _ _ _ _ h hF => ⟨h.2.1, hF⟩
end Jvm.Pilot.@@N@@
namespace Jvm.Pilot.@@N@@
open Jvm Jvm.ClassFile Sem Op Lib Jvm.Free Jvm.Stand Jvm.Pilot.@@N@@.Jvm.D
/-! MADE BY PROGRAM (witnessworld.py) out of the Statement's table words and the real class files: 23 classes; the members and pool entries that the words name. The judged class is class 1, her method 3. -/
namespace start1
open Jvm.ClassFile
def u (s : String) : CpInfo := .utf8 (stringToUtf16 s)
/-- a pool by its gaps: so many unusable entries, then the entry; so many at the end -/
def gap : Nat → List CpInfo → List CpInfo
  | 0, r => r
  | n + 1, r => .unusable :: gap n r
def poolList (es : List (Nat × CpInfo)) (last : Nat) : List CpInfo := es.foldr (fun e r => gap e.1 (e.2 :: r)) (gap last [])
def pool (es : List (Nat × CpInfo)) (last : Nat) : Array CpInfo := ⟨poolList es last⟩
def fileOf (pool : Array CpInfo) (this : Nat) (attrs : Array Attribute := #[]) (ms : Array MethodInfo := #[]) (fl : Nat := 33) (sup : Nat := 0) (ifs : Array Nat := #[]) (fds : Array FieldInfo := #[]) : ClassFile where
  minorVersion := 0
  majorVersion := 65
  constantPool := pool
  accessFlags := fl
  thisClass := this
  superClass := sup
  interfaces := ifs
  fields := fds
  methods := ms
  attributes := attrs
def plain (name : String) (sup : Option ClassId) : Class where
  name := name
  kind := .ordinary
  loader := none
  accessFlags := 33
  super := sup
  interfaces := #[]
  cf := none
  fields := #[]
  methods := #[]
  instanceTypes := #[]
  staticTypes := #[]
  resolved := #[]
  callSites := []
  init := .initialized
  statics := none
  mirror := none

def pool0 : Array CpInfo := pool [(5, u "<init>"), (0, u "()V"), (1, .class_ 10), (1, u "java/lang/Object")] 113

def k0c0 : Code := { maxStack := 0, maxLocals := 1, code := object_method_1_code, exceptionTable := #[], attributes := #[] }
def k0m0 : Method := { name := "<init>", desc := "()V", sig := { parameters := [], returnType := none }, accessFlags := 1, code := some k0c0 }
/-- java/lang/Object -/
def k0 : Class := { plain "java/lang/Object" none with
  accessFlags := 33
  interfaces := #[]
  cf := some (fileOf pool0 8 #[] #[{ accessFlags := 1, nameIndex := 5, descriptorIndex := 6, attributes := #[] }] 33 0 #[] #[])
  fields := #[]
  methods := #[k0m0]
  instanceTypes := #[]
  staticTypes := #[]
  resolved := Array.replicate 124 none
  statics := none }

def pool1 : Array CpInfo := pool [(2, .class_ 4), (1, u "java/lang/Object"), (0, u "<init>"), (0, u "()V"), (0, .class_ 8), (0, u "java/lang/String"), (0, .methodref 7 10), (0, .nameAndType 5 11), (0, u "([C)V"), (0, .fieldref 13 14), (0, .class_ 15), (0, .nameAndType 16 17), (0, u "com/example/patient_snoop/patientsnoop/io/Token$Kind"), (0, u "NAME"), (0, u "Lcom/example/patient_snoop/patientsnoop/io/Token$Kind;"), (0, .fieldref 13 19), (0, .nameAndType 20 17), (0, u "NUMBER"), (0, .fieldref 13 22), (0, .nameAndType 23 17), (0, u "SYMBOL"), (0, .fieldref 13 25), (0, .nameAndType 26 17), (0, u "END"), (0, .methodref 28 29), (0, .class_ 30), (0, .nameAndType 31 32), (0, u "com/example/patient_snoop/patientsnoop/io/TokenIsNamePinLaw"), (0, u "mk"), (0, u "(ICCC)Ljava/lang/String;"), (0, .class_ 34), (0, u "com/example/patient_snoop/patientsnoop/io/Token"), (0, .methodref 28 36), (0, .nameAndType 37 38), (0, u "kindOf"), (0, u "(I)Lcom/example/patient_snoop/patientsnoop/io/Token$Kind;"), (0, .methodref 33 40), (0, .nameAndType 5 41), (0, u "(Lcom/example/patient_snoop/patientsnoop/io/Token$Kind;Ljava/lang/String;I)V"), (0, .methodref 33 43), (0, .nameAndType 44 45), (0, u "isName"), (0, u "(Ljava/lang/String;)Z"), (3, u "law"), (0, u "(IIIII)Z")] 4

def k1m0 : Method := { name := "<init>", desc := "()V", sig := { parameters := [], returnType := none }, accessFlags := 1, code := none }
def k1c1 : Code := { maxStack := 6, maxLocals := 4, code := method_2_code, exceptionTable := #[], attributes := #[] }
def k1m1 : Method := { name := "mk", desc := "(ICCC)Ljava/lang/String;", sig := { parameters := [.int, .char, .char, .char], returnType := some (.object "java/lang/String") }, accessFlags := 10, code := some k1c1 }
def k1c2 : Code := { maxStack := 2, maxLocals := 2, code := method_3_code, exceptionTable := #[], attributes := #[] }
def k1m2 : Method := { name := "kindOf", desc := "(I)Lcom/example/patient_snoop/patientsnoop/io/Token$Kind;", sig := { parameters := [.int], returnType := some (.object "com/example/patient_snoop/patientsnoop/io/Token$Kind") }, accessFlags := 10, code := some k1c2 }
def k1c3 : Code := { maxStack := 5, maxLocals := 20, code := code, exceptionTable := #[], attributes := #[] }
def k1m3 : Method := { name := "law", desc := "(IIIII)Z", sig := { parameters := [.int, .int, .int, .int, .int], returnType := some .boolean }, accessFlags := 9, code := some k1c3 }
/-- com/example/patient_snoop/patientsnoop/io/TokenIsNamePinLaw -/
def k1 : Class := { plain "com/example/patient_snoop/patientsnoop/io/TokenIsNamePinLaw" (some 0) with
  accessFlags := 49
  interfaces := #[]
  cf := some (fileOf pool1 28 #[] #[{ accessFlags := 1, nameIndex := 5, descriptorIndex := 6, attributes := #[] }, { accessFlags := 10, nameIndex := 31, descriptorIndex := 32, attributes := #[] }, { accessFlags := 10, nameIndex := 37, descriptorIndex := 38, attributes := #[] }, { accessFlags := 9, nameIndex := 49, descriptorIndex := 50, attributes := #[] }] 49 2 #[] #[])
  fields := #[]
  methods := #[k1m0, k1m1, k1m2, k1m3]
  instanceTypes := #[]
  staticTypes := #[]
  resolved := Array.replicate 55 none
  statics := none }

def pool2 : Array CpInfo := pool [(1, .class_ 2), (0, u "java/io/Serializable"), (0, .class_ 4), (0, u "java/lang/Object")] 2

/-- java/io/Serializable -/
def k2 : Class := { plain "java/io/Serializable" (some 0) with
  accessFlags := 1537
  interfaces := #[]
  cf := some (fileOf pool2 1 #[] #[] 1537 3 #[] #[])
  fields := #[]
  methods := #[]
  instanceTypes := #[]
  staticTypes := #[]
  resolved := Array.replicate 7 none
  statics := none }

def pool3 : Array CpInfo := pool [(1, .class_ 2), (0, u "java/lang/Comparable"), (0, .class_ 4), (0, u "java/lang/Object")] 7

/-- java/lang/Comparable -/
def k3 : Class := { plain "java/lang/Comparable" (some 0) with
  accessFlags := 1537
  interfaces := #[]
  cf := some (fileOf pool3 1 #[] #[] 1537 3 #[] #[])
  fields := #[]
  methods := #[]
  instanceTypes := #[]
  staticTypes := #[]
  resolved := Array.replicate 12 none
  statics := none }

def pool4 : Array CpInfo := pool [(2, .class_ 4), (1, u "java/lang/CharSequence"), (42, .class_ 48), (0, u "java/lang/CharSequence$1CodePointIterator"), (10, .class_ 60), (0, u "java/lang/CharSequence$1CharIterator"), (5, .class_ 67), (0, u "java/lang/Object")] 63

/-- java/lang/CharSequence -/
def k4 : Class := { plain "java/lang/CharSequence" (some 0) with
  accessFlags := 1537
  interfaces := #[]
  cf := some (fileOf pool4 2 #[.nestMembers #[47, 59]] #[] 1537 66 #[] #[])
  fields := #[]
  methods := #[]
  instanceTypes := #[]
  staticTypes := #[]
  resolved := Array.replicate 131 none
  statics := none }

def pool5 : Array CpInfo := pool [(1, .class_ 2), (0, u "java/lang/constant/Constable"), (0, .class_ 4), (0, u "java/lang/Object")] 6

/-- java/lang/constant/Constable -/
def k5 : Class := { plain "java/lang/constant/Constable" (some 0) with
  accessFlags := 1537
  interfaces := #[]
  cf := some (fileOf pool5 1 #[] #[] 1537 3 #[] #[])
  fields := #[]
  methods := #[]
  instanceTypes := #[]
  staticTypes := #[]
  resolved := Array.replicate 11 none
  statics := none }

def pool6 : Array CpInfo := pool [(1, .class_ 2), (0, u "java/lang/constant/ConstantDesc"), (0, .class_ 4), (0, u "java/lang/Object")] 32

/-- java/lang/constant/ConstantDesc -/
def k6 : Class := { plain "java/lang/constant/ConstantDesc" (some 0) with
  accessFlags := 1537
  interfaces := #[]
  cf := some (fileOf pool6 1 #[] #[] 1537 3 #[] #[])
  fields := #[]
  methods := #[]
  instanceTypes := #[]
  staticTypes := #[]
  resolved := Array.replicate 37 none
  statics := none }

def pool7 : Array CpInfo := pool [(1, .methodref 2 3), (0, .class_ 4), (0, .nameAndType 5 6), (0, u "java/lang/Object"), (0, u "<init>"), (0, u "()V"), (0, .string 8), (0, u ""), (0, .fieldref 10 11), (0, .class_ 12), (0, .nameAndType 13 14), (0, u "java/lang/String"), (0, u "value"), (0, u "[B"), (0, .fieldref 10 16), (0, .nameAndType 17 18), (0, u "coder"), (0, u "B"), (2, u "hash"), (0, u "I"), (2, u "hashIsZero"), (0, u "Z"), (0, .methodref 10 28), (0, .nameAndType 5 29), (0, u "([CIILjava/lang/Void;)V"), (8, .fieldref 10 39), (0, .nameAndType 40 26), (0, u "COMPACT_STRINGS"), (1, .class_ 44), (1, u "java/lang/StringUTF16"), (0, u "compress"), (1, .methodref 42 48), (0, .nameAndType 49 50), (0, u "coderFromArrayLen"), (0, u "([BI)B"), (56, .class_ 109), (1, u "java/lang/StringLatin1"), (67, .methodref 42 178), (0, .nameAndType 45 179), (0, u "([CII)[B"), (361, .methodref 107 542), (0, .nameAndType 543 544), (0, u "equals"), (0, u "([B[B)Z"), (28, u "(Ljava/lang/Object;)Z"), (1, .class_ 576), (0, u "java/lang/CharSequence"), (22, u "CASE_INSENSITIVE_ORDER"), (0, u "Ljava/util/Comparator;"), (409, u "([C)V"), (90, u "serialPersistentFields"), (0, u "[Ljava/io/ObjectStreamField;"), (0, .class_ 1104), (0, u "java/lang/String$CaseInsensitiveComparator"), (1, .class_ 1107), (0, u "java/io/Serializable"), (0, .class_ 1109), (0, u "java/lang/Comparable"), (0, .class_ 1111), (0, u "java/lang/constant/Constable"), (0, .class_ 1113), (0, u "java/lang/constant/ConstantDesc"), (2, u "serialVersionUID"), (0, u "J"), (3, u "REPL"), (0, u "C"), (2, u "LATIN1"), (1, u "UTF16")] 323

def k7m0 : Method := { name := "<init>", desc := "()V", sig := { parameters := [], returnType := none }, accessFlags := 1, code := none }
def k7c1 : Code := { maxStack := 5, maxLocals := 2, code := jdk_42_method_3_code, exceptionTable := #[], attributes := #[] }
def k7m1 : Method := { name := "<init>", desc := "([C)V", sig := { parameters := [(.array .char)], returnType := none }, accessFlags := 1, code := some k7c1 }
def k7c2 : Code := { maxStack := 2, maxLocals := 3, code := jdk_42_method_66_code, exceptionTable := #[], attributes := #[] }
def k7m2 : Method := { name := "equals", desc := "(Ljava/lang/Object;)Z", sig := { parameters := [(.object "java/lang/Object")], returnType := some .boolean }, accessFlags := 1, code := some k7c2 }
def k7c3 : Code := { maxStack := 4, maxLocals := 6, code := jdk_42_method_149_code, exceptionTable := #[], attributes := #[] }
def k7m3 : Method := { name := "<init>", desc := "([CIILjava/lang/Void;)V", sig := { parameters := [(.array .char), .int, .int, (.object "java/lang/Void")], returnType := none }, accessFlags := 2, code := some k7c3 }
/-- java/lang/String -/
def k7 : Class := { plain "java/lang/String" (some 0) with
  accessFlags := 49
  interfaces := #[2, 3, 4, 5, 6]
  cf := some (fileOf pool7 10 #[.nestMembers #[1103]] #[{ accessFlags := 1, nameIndex := 5, descriptorIndex := 6, attributes := #[] }, { accessFlags := 1, nameIndex := 5, descriptorIndex := 1010, attributes := #[] }, { accessFlags := 1, nameIndex := 543, descriptorIndex := 573, attributes := #[] }, { accessFlags := 2, nameIndex := 5, descriptorIndex := 29, attributes := #[] }] 49 2 #[1106, 1108, 575, 1110, 1112] #[{ accessFlags := 18, nameIndex := 13, descriptorIndex := 14, attributes := #[] }, { accessFlags := 18, nameIndex := 17, descriptorIndex := 18, attributes := #[] }, { accessFlags := 2, nameIndex := 21, descriptorIndex := 22, attributes := #[] }, { accessFlags := 2, nameIndex := 25, descriptorIndex := 26, attributes := #[] }, { accessFlags := 26, nameIndex := 1116, descriptorIndex := 1117, attributes := #[] }, { accessFlags := 24, nameIndex := 40, descriptorIndex := 26, attributes := #[] }, { accessFlags := 26, nameIndex := 1101, descriptorIndex := 1102, attributes := #[] }, { accessFlags := 26, nameIndex := 1121, descriptorIndex := 1122, attributes := #[] }, { accessFlags := 25, nameIndex := 599, descriptorIndex := 600, attributes := #[] }, { accessFlags := 24, nameIndex := 1125, descriptorIndex := 18, attributes := #[] }, { accessFlags := 24, nameIndex := 1127, descriptorIndex := 18, attributes := #[] }])
  fields := #[{ name := "value", type := (.array .byte), accessFlags := 18, slot := 0, constantValue := 0 }, { name := "coder", type := .byte, accessFlags := 18, slot := 1, constantValue := 0 }, { name := "hash", type := .int, accessFlags := 2, slot := 2, constantValue := 0 }, { name := "hashIsZero", type := .boolean, accessFlags := 2, slot := 3, constantValue := 0 }, { name := "serialVersionUID", type := .long, accessFlags := 26, slot := 0, constantValue := 0 }, { name := "COMPACT_STRINGS", type := .boolean, accessFlags := 24, slot := 1, constantValue := 0 }, { name := "serialPersistentFields", type := (.array (.object "java/io/ObjectStreamField")), accessFlags := 26, slot := 2, constantValue := 0 }, { name := "REPL", type := .char, accessFlags := 26, slot := 3, constantValue := 0 }, { name := "CASE_INSENSITIVE_ORDER", type := (.object "java/util/Comparator"), accessFlags := 25, slot := 4, constantValue := 0 }, { name := "LATIN1", type := .byte, accessFlags := 24, slot := 5, constantValue := 0 }, { name := "UTF16", type := .byte, accessFlags := 24, slot := 6, constantValue := 0 }]
  methods := #[k7m0, k7m1, k7m2, k7m3]
  instanceTypes := #[(.array .byte), .byte, .int, .boolean]
  staticTypes := #[.long, .boolean, (.array (.object "java/io/ObjectStreamField")), .char, (.object "java/util/Comparator"), .byte, .byte]
  resolved := Array.replicate 1451 none
  statics := some 0 }

def pool8 : Array CpInfo := pool [(6, .class_ 8), (1, u "java/lang/Object"), (0, u "<init>"), (0, u "()V"), (1, .class_ 14), (1, u "java/lang/StringUTF16"), (31, u "$assertionsDisabled"), (0, u "Z"), (13, u "HI_BYTE_SHIFT"), (0, u "I"), (2, u "LO_BYTE_SHIFT"), (49, .methodref 12 116), (0, .nameAndType 117 118), (0, u "compress"), (0, u "([CI[BII)I"), (3, u "([CII)[B"), (138, u "coderFromArrayLen"), (0, u "([BI)B"), (106, .class_ 371), (1, u "java/lang/StringUTF16$LinesSpliterator"), (58, u "MAX_LENGTH"), (196, .class_ 628), (0, u "java/lang/StringUTF16$CodePointsSpliterator"), (0, .class_ 630), (0, u "java/lang/StringUTF16$CharsSpliterator")] 4

def k8m0 : Method := { name := "<init>", desc := "()V", sig := { parameters := [], returnType := none }, accessFlags := 0, code := none }
def k8c1 : Code := { maxStack := 2, maxLocals := 2, code := jdk_52_method_15_code, exceptionTable := #[], attributes := #[] }
def k8m1 : Method := { name := "coderFromArrayLen", desc := "([BI)B", sig := { parameters := [(.array .byte), .int], returnType := some .byte }, accessFlags := 8, code := some k8c1 }
def k8c2 : Code := { maxStack := 5, maxLocals := 6, code := jdk_52_method_16_code, exceptionTable := #[], attributes := #[] }
def k8m2 : Method := { name := "compress", desc := "([CII)[B", sig := { parameters := [(.array .char), .int, .int], returnType := some (.array .byte) }, accessFlags := 9, code := some k8c2 }
def k8c3 : Code := { maxStack := 3, maxLocals := 7, code := jdk_52_method_21_code, exceptionTable := #[], attributes := #[] }
def k8m3 : Method := { name := "compress", desc := "([CI[BII)I", sig := { parameters := [(.array .char), .int, (.array .byte), .int, .int], returnType := some .int }, accessFlags := 9, code := some k8c3 }
/-- java/lang/StringUTF16 -/
def k8 : Class := { plain "java/lang/StringUTF16" (some 0) with
  accessFlags := 48
  interfaces := #[]
  cf := some (fileOf pool8 12 #[.nestMembers #[627, 629, 369]] #[{ accessFlags := 0, nameIndex := 9, descriptorIndex := 10, attributes := #[] }, { accessFlags := 8, nameIndex := 261, descriptorIndex := 262, attributes := #[] }, { accessFlags := 9, nameIndex := 117, descriptorIndex := 122, attributes := #[] }, { accessFlags := 9, nameIndex := 117, descriptorIndex := 118, attributes := #[] }] 48 6 #[] #[{ accessFlags := 26, nameIndex := 61, descriptorIndex := 62, attributes := #[] }, { accessFlags := 26, nameIndex := 65, descriptorIndex := 62, attributes := #[] }, { accessFlags := 24, nameIndex := 430, descriptorIndex := 62, attributes := #[] }, { accessFlags := 4120, nameIndex := 46, descriptorIndex := 47, attributes := #[] }])
  fields := #[{ name := "HI_BYTE_SHIFT", type := .int, accessFlags := 26, slot := 0, constantValue := 0 }, { name := "LO_BYTE_SHIFT", type := .int, accessFlags := 26, slot := 1, constantValue := 0 }, { name := "MAX_LENGTH", type := .int, accessFlags := 24, slot := 2, constantValue := 0 }, { name := "$assertionsDisabled", type := .boolean, accessFlags := 4120, slot := 3, constantValue := 0 }]
  methods := #[k8m0, k8m1, k8m2, k8m3]
  instanceTypes := #[]
  staticTypes := #[.int, .int, .int, .boolean]
  resolved := Array.replicate 635 none
  statics := none }

def pool9 : Array CpInfo := pool [(1, .methodref 2 3), (0, .class_ 4), (0, .nameAndType 5 6), (0, u "java/lang/Object"), (0, u "<init>"), (0, u "()V"), (0, .class_ 8), (0, u "java/lang/Record")] 13

def k9c0 : Code := { maxStack := 1, maxLocals := 1, code := jdk_30_method_1_code, exceptionTable := #[], attributes := #[] }
def k9m0 : Method := { name := "<init>", desc := "()V", sig := { parameters := [], returnType := none }, accessFlags := 4, code := some k9c0 }
/-- java/lang/Record -/
def k9 : Class := { plain "java/lang/Record" (some 0) with
  accessFlags := 1057
  interfaces := #[]
  cf := some (fileOf pool9 7 #[] #[{ accessFlags := 4, nameIndex := 5, descriptorIndex := 6, attributes := #[] }] 1057 2 #[] #[])
  fields := #[]
  methods := #[k9m0]
  instanceTypes := #[]
  staticTypes := #[]
  resolved := Array.replicate 22 none
  statics := none }

def pool10 : Array CpInfo := pool [(1, .methodref 2 3), (0, .class_ 4), (0, .nameAndType 5 6), (0, u "java/lang/Record"), (0, u "<init>"), (0, u "()V"), (0, .fieldref 8 9), (0, .class_ 10), (0, .nameAndType 11 12), (0, u "com/example/patient_snoop/patientsnoop/io/Token"), (0, u "kind"), (0, u "Lcom/example/patient_snoop/patientsnoop/io/Token$Kind;"), (0, .fieldref 8 14), (0, .nameAndType 15 16), (0, u "text"), (0, u "Ljava/lang/String;"), (0, .fieldref 8 18), (0, .nameAndType 19 20), (0, u "line"), (0, u "I"), (1, .class_ 24), (1, u "com/example/patient_snoop/patientsnoop/io/Token$Kind"), (1, .methodref 27 28), (0, .class_ 29), (0, .nameAndType 30 31), (0, u "java/lang/String"), (0, u "equals"), (0, u "(Ljava/lang/Object;)Z"), (0, .fieldref 22 33), (0, .nameAndType 34 12), (0, u "NAME"), (26, u "(Lcom/example/patient_snoop/patientsnoop/io/Token$Kind;Ljava/lang/String;I)V"), (4, u "(Ljava/lang/String;)Z"), (1, u "isName")] 35

def k10c0 : Code := { maxStack := 2, maxLocals := 4, code := prog_14_method_1_code, exceptionTable := #[], attributes := #[] }
def k10m0 : Method := { name := "<init>", desc := "(Lcom/example/patient_snoop/patientsnoop/io/Token$Kind;Ljava/lang/String;I)V", sig := { parameters := [(.object "com/example/patient_snoop/patientsnoop/io/Token$Kind"), (.object "java/lang/String"), .int], returnType := none }, accessFlags := 0, code := some k10c0 }
def k10c1 : Code := { maxStack := 2, maxLocals := 2, code := prog_14_method_3_code, exceptionTable := #[], attributes := #[] }
def k10m1 : Method := { name := "isName", desc := "(Ljava/lang/String;)Z", sig := { parameters := [(.object "java/lang/String")], returnType := some .boolean }, accessFlags := 0, code := some k10c1 }
/-- com/example/patient_snoop/patientsnoop/io/Token -/
def k10 : Class := { plain "com/example/patient_snoop/patientsnoop/io/Token" (some 9) with
  accessFlags := 48
  interfaces := #[]
  cf := some (fileOf pool10 8 #[.nestMembers #[22]] #[{ accessFlags := 0, nameIndex := 5, descriptorIndex := 61, attributes := #[] }, { accessFlags := 0, nameIndex := 68, descriptorIndex := 66, attributes := #[] }] 48 2 #[] #[{ accessFlags := 18, nameIndex := 11, descriptorIndex := 12, attributes := #[] }, { accessFlags := 18, nameIndex := 15, descriptorIndex := 16, attributes := #[] }, { accessFlags := 18, nameIndex := 19, descriptorIndex := 20, attributes := #[] }])
  fields := #[{ name := "kind", type := (.object "com/example/patient_snoop/patientsnoop/io/Token$Kind"), accessFlags := 18, slot := 0, constantValue := 0 }, { name := "text", type := (.object "java/lang/String"), accessFlags := 18, slot := 1, constantValue := 0 }, { name := "line", type := .int, accessFlags := 18, slot := 2, constantValue := 0 }]
  methods := #[k10m0, k10m1]
  instanceTypes := #[(.object "com/example/patient_snoop/patientsnoop/io/Token$Kind"), (.object "java/lang/String"), .int]
  staticTypes := #[]
  resolved := Array.replicate 104 none
  statics := none }

def pool11 : Array CpInfo := pool [(2, .class_ 4), (1, u "java/lang/Enum"), (0, u "name"), (0, u "Ljava/lang/String;"), (2, u "ordinal"), (0, u "I"), (1, .class_ 14), (1, u "java/lang/Object"), (4, u "hash"), (86, .class_ 108), (1, u "java/lang/Enum$EnumDesc"), (2, .class_ 112), (0, u "java/lang/constant/Constable"), (0, .class_ 114), (0, u "java/lang/Comparable"), (0, .class_ 116), (0, u "java/io/Serializable")] 87

/-- java/lang/Enum -/
def k11 : Class := { plain "java/lang/Enum" (some 0) with
  accessFlags := 1057
  interfaces := #[5, 3, 2]
  cf := some (fileOf pool11 2 #[.nestMembers #[106]] #[] 1057 12 #[111, 113, 115] #[{ accessFlags := 18, nameIndex := 5, descriptorIndex := 6, attributes := #[] }, { accessFlags := 18, nameIndex := 9, descriptorIndex := 10, attributes := #[] }, { accessFlags := 2, nameIndex := 19, descriptorIndex := 10, attributes := #[] }])
  fields := #[{ name := "name", type := (.object "java/lang/String"), accessFlags := 18, slot := 0, constantValue := 0 }, { name := "ordinal", type := .int, accessFlags := 18, slot := 1, constantValue := 0 }, { name := "hash", type := .int, accessFlags := 2, slot := 2, constantValue := 0 }]
  methods := #[]
  instanceTypes := #[(.object "java/lang/String"), .int, .int]
  staticTypes := #[]
  resolved := Array.replicate 204 none
  statics := none }

def pool12 : Array CpInfo := pool [(1, .class_ 2), (0, u "com/example/patient_snoop/patientsnoop/io/Token$Kind"), (2, u "NAME"), (0, u "Lcom/example/patient_snoop/patientsnoop/io/Token$Kind;"), (2, u "NUMBER"), (2, u "SYMBOL"), (2, u "END"), (2, u "$VALUES"), (0, u "[Lcom/example/patient_snoop/patientsnoop/io/Token$Kind;"), (6, .class_ 28), (1, u "java/lang/Enum"), (27, .class_ 57), (0, u "com/example/patient_snoop/patientsnoop/io/Token")] 2

/-- com/example/patient_snoop/patientsnoop/io/Token$Kind -/
def k12 : Class := { plain "com/example/patient_snoop/patientsnoop/io/Token$Kind" (some 11) with
  accessFlags := 16432
  interfaces := #[]
  cf := some (fileOf pool12 1 #[.nestHost 56] #[] 16432 26 #[] #[{ accessFlags := 16409, nameIndex := 5, descriptorIndex := 6, attributes := #[] }, { accessFlags := 16409, nameIndex := 9, descriptorIndex := 6, attributes := #[] }, { accessFlags := 16409, nameIndex := 12, descriptorIndex := 6, attributes := #[] }, { accessFlags := 16409, nameIndex := 15, descriptorIndex := 6, attributes := #[] }, { accessFlags := 4122, nameIndex := 18, descriptorIndex := 19, attributes := #[] }])
  fields := #[{ name := "NAME", type := (.object "com/example/patient_snoop/patientsnoop/io/Token$Kind"), accessFlags := 16409, slot := 0, constantValue := 0 }, { name := "NUMBER", type := (.object "com/example/patient_snoop/patientsnoop/io/Token$Kind"), accessFlags := 16409, slot := 1, constantValue := 0 }, { name := "SYMBOL", type := (.object "com/example/patient_snoop/patientsnoop/io/Token$Kind"), accessFlags := 16409, slot := 2, constantValue := 0 }, { name := "END", type := (.object "com/example/patient_snoop/patientsnoop/io/Token$Kind"), accessFlags := 16409, slot := 3, constantValue := 0 }, { name := "$VALUES", type := (.array (.object "com/example/patient_snoop/patientsnoop/io/Token$Kind")), accessFlags := 4122, slot := 4, constantValue := 0 }]
  methods := #[]
  instanceTypes := #[(.object "java/lang/String"), .int, .int]
  staticTypes := #[(.object "com/example/patient_snoop/patientsnoop/io/Token$Kind"), (.object "com/example/patient_snoop/patientsnoop/io/Token$Kind"), (.object "com/example/patient_snoop/patientsnoop/io/Token$Kind"), (.object "com/example/patient_snoop/patientsnoop/io/Token$Kind"), (.array (.object "com/example/patient_snoop/patientsnoop/io/Token$Kind"))]
  resolved := Array.replicate 60 none
  statics := some 1 }

def pool13 : Array CpInfo := pool [(4, .class_ 6), (1, u "java/lang/Object"), (0, u "<init>"), (0, u "()V"), (5, .class_ 16), (1, u "java/lang/StringLatin1"), (104, u "$assertionsDisabled"), (0, u "Z"), (98, .class_ 223), (1, u "java/lang/StringLatin1$LinesSpliterator"), (57, u "equals"), (0, u "([B[B)Z"), (107, .class_ 391), (0, u "java/lang/StringLatin1$CharsSpliterator")] 3

def k13m0 : Method := { name := "<init>", desc := "()V", sig := { parameters := [], returnType := none }, accessFlags := 0, code := none }
def k13c1 : Code := { maxStack := 3, maxLocals := 3, code := jdk_43_method_13_code, exceptionTable := #[], attributes := #[] }
def k13m1 : Method := { name := "equals", desc := "([B[B)Z", sig := { parameters := [(.array .byte), (.array .byte)], returnType := some .boolean }, accessFlags := 9, code := some k13c1 }
/-- java/lang/StringLatin1 -/
def k13 : Class := { plain "java/lang/StringLatin1" (some 0) with
  accessFlags := 48
  interfaces := #[]
  cf := some (fileOf pool13 14 #[.nestMembers #[390, 221]] #[{ accessFlags := 0, nameIndex := 7, descriptorIndex := 8, attributes := #[] }, { accessFlags := 9, nameIndex := 281, descriptorIndex := 282, attributes := #[] }] 48 4 #[] #[{ accessFlags := 4120, nameIndex := 121, descriptorIndex := 122, attributes := #[] }])
  fields := #[{ name := "$assertionsDisabled", type := .boolean, accessFlags := 4120, slot := 0, constantValue := 0 }]
  methods := #[k13m0, k13m1]
  instanceTypes := #[]
  staticTypes := #[.boolean]
  resolved := Array.replicate 395 none
  statics := none }

def pool14 : Array CpInfo := pool [(2, .class_ 4), (1, u "java/lang/Object"), (0, u "<init>"), (0, u "()V"), (17, .class_ 26), (1, u "jdk/internal/util/Preconditions"), (28, .class_ 56), (0, u "jdk/internal/util/Preconditions$4"), (57, .class_ 115), (0, u "jdk/internal/util/Preconditions$1"), (7, u "SIOOBE_FORMATTER"), (0, u "Ljava/util/function/BiFunction;"), (0, .class_ 126), (0, u "jdk/internal/util/Preconditions$2"), (3, u "AIOOBE_FORMATTER"), (0, .class_ 132), (0, u "jdk/internal/util/Preconditions$3"), (3, u "IOOBE_FORMATTER")] 57

def k14m0 : Method := { name := "<init>", desc := "()V", sig := { parameters := [], returnType := none }, accessFlags := 1, code := none }
/-- jdk/internal/util/Preconditions -/
def k14 : Class := { plain "jdk/internal/util/Preconditions" (some 0) with
  accessFlags := 33
  interfaces := #[]
  cf := some (fileOf pool14 24 #[.nestMembers #[55, 131, 125, 114]] #[{ accessFlags := 1, nameIndex := 5, descriptorIndex := 6, attributes := #[] }] 33 2 #[] #[{ accessFlags := 25, nameIndex := 123, descriptorIndex := 124, attributes := #[] }, { accessFlags := 25, nameIndex := 130, descriptorIndex := 124, attributes := #[] }, { accessFlags := 25, nameIndex := 136, descriptorIndex := 124, attributes := #[] }])
  fields := #[{ name := "SIOOBE_FORMATTER", type := (.object "java/util/function/BiFunction"), accessFlags := 25, slot := 0, constantValue := 0 }, { name := "AIOOBE_FORMATTER", type := (.object "java/util/function/BiFunction"), accessFlags := 25, slot := 1, constantValue := 0 }, { name := "IOOBE_FORMATTER", type := (.object "java/util/function/BiFunction"), accessFlags := 25, slot := 2, constantValue := 0 }]
  methods := #[k14m0]
  instanceTypes := #[]
  staticTypes := #[(.object "java/util/function/BiFunction"), (.object "java/util/function/BiFunction"), (.object "java/util/function/BiFunction")]
  resolved := Array.replicate 194 none
  statics := some 2 }

def pool15 : Array CpInfo := pool [(9, u "<init>"), (6, .class_ 18), (1, u "java/lang/Object"), (0, u "()V"), (1, .class_ 23), (1, u "jdk/internal/util/ArraysSupport"), (0, u "LOG2_ARRAY_LONG_INDEX_SCALE"), (0, u "I"), (2, u "U"), (0, u "Ljdk/internal/misc/Unsafe;"), (8, u "BIG_ENDIAN"), (0, u "Z"), (8, u "LOG2_BYTE_BIT_SIZE"), (4, u "LOG2_ARRAY_INT_INDEX_SCALE"), (54, u "JLA"), (0, u "Ljdk/internal/access/JavaLangAccess;"), (11, u "LOG2_ARRAY_BOOLEAN_INDEX_SCALE"), (9, u "LOG2_ARRAY_BYTE_INDEX_SCALE"), (5, u "LOG2_ARRAY_CHAR_INDEX_SCALE"), (5, u "LOG2_ARRAY_SHORT_INDEX_SCALE"), (18, u "LOG2_ARRAY_FLOAT_INDEX_SCALE"), (24, u "LOG2_ARRAY_DOUBLE_INDEX_SCALE"), (89, u "T_BOOLEAN"), (2, u "T_CHAR"), (1, u "T_FLOAT"), (1, u "T_DOUBLE"), (1, u "T_BYTE"), (1, u "T_SHORT"), (1, u "T_INT"), (1, u "T_LONG"), (1, u "SOFT_MAX_ARRAY_LENGTH")] 83

def k15m0 : Method := { name := "<init>", desc := "()V", sig := { parameters := [], returnType := none }, accessFlags := 2, code := none }
/-- jdk/internal/util/ArraysSupport -/
def k15 : Class := { plain "jdk/internal/util/ArraysSupport" (some 0) with
  accessFlags := 33
  interfaces := #[]
  cf := some (fileOf pool15 21 #[] #[{ accessFlags := 2, nameIndex := 9, descriptorIndex := 19, attributes := #[] }] 33 16 #[] #[{ accessFlags := 24, nameIndex := 28, descriptorIndex := 29, attributes := #[] }, { accessFlags := 26, nameIndex := 38, descriptorIndex := 39, attributes := #[] }, { accessFlags := 25, nameIndex := 121, descriptorIndex := 25, attributes := #[] }, { accessFlags := 25, nameIndex := 131, descriptorIndex := 25, attributes := #[] }, { accessFlags := 25, nameIndex := 137, descriptorIndex := 25, attributes := #[] }, { accessFlags := 25, nameIndex := 143, descriptorIndex := 25, attributes := #[] }, { accessFlags := 25, nameIndex := 53, descriptorIndex := 25, attributes := #[] }, { accessFlags := 25, nameIndex := 24, descriptorIndex := 25, attributes := #[] }, { accessFlags := 25, nameIndex := 162, descriptorIndex := 25, attributes := #[] }, { accessFlags := 25, nameIndex := 187, descriptorIndex := 25, attributes := #[] }, { accessFlags := 26, nameIndex := 48, descriptorIndex := 25, attributes := #[] }, { accessFlags := 25, nameIndex := 277, descriptorIndex := 25, attributes := #[] }, { accessFlags := 25, nameIndex := 280, descriptorIndex := 25, attributes := #[] }, { accessFlags := 25, nameIndex := 282, descriptorIndex := 25, attributes := #[] }, { accessFlags := 25, nameIndex := 284, descriptorIndex := 25, attributes := #[] }, { accessFlags := 25, nameIndex := 286, descriptorIndex := 25, attributes := #[] }, { accessFlags := 25, nameIndex := 288, descriptorIndex := 25, attributes := #[] }, { accessFlags := 25, nameIndex := 290, descriptorIndex := 25, attributes := #[] }, { accessFlags := 25, nameIndex := 292, descriptorIndex := 25, attributes := #[] }, { accessFlags := 26, nameIndex := 108, descriptorIndex := 109, attributes := #[] }, { accessFlags := 25, nameIndex := 294, descriptorIndex := 25, attributes := #[] }])
  fields := #[{ name := "U", type := (.object "jdk/internal/misc/Unsafe"), accessFlags := 24, slot := 0, constantValue := 0 }, { name := "BIG_ENDIAN", type := .boolean, accessFlags := 26, slot := 1, constantValue := 0 }, { name := "LOG2_ARRAY_BOOLEAN_INDEX_SCALE", type := .int, accessFlags := 25, slot := 2, constantValue := 0 }, { name := "LOG2_ARRAY_BYTE_INDEX_SCALE", type := .int, accessFlags := 25, slot := 3, constantValue := 0 }, { name := "LOG2_ARRAY_CHAR_INDEX_SCALE", type := .int, accessFlags := 25, slot := 4, constantValue := 0 }, { name := "LOG2_ARRAY_SHORT_INDEX_SCALE", type := .int, accessFlags := 25, slot := 5, constantValue := 0 }, { name := "LOG2_ARRAY_INT_INDEX_SCALE", type := .int, accessFlags := 25, slot := 6, constantValue := 0 }, { name := "LOG2_ARRAY_LONG_INDEX_SCALE", type := .int, accessFlags := 25, slot := 7, constantValue := 0 }, { name := "LOG2_ARRAY_FLOAT_INDEX_SCALE", type := .int, accessFlags := 25, slot := 8, constantValue := 0 }, { name := "LOG2_ARRAY_DOUBLE_INDEX_SCALE", type := .int, accessFlags := 25, slot := 9, constantValue := 0 }, { name := "LOG2_BYTE_BIT_SIZE", type := .int, accessFlags := 26, slot := 10, constantValue := 0 }, { name := "T_BOOLEAN", type := .int, accessFlags := 25, slot := 11, constantValue := 0 }, { name := "T_CHAR", type := .int, accessFlags := 25, slot := 12, constantValue := 0 }, { name := "T_FLOAT", type := .int, accessFlags := 25, slot := 13, constantValue := 0 }, { name := "T_DOUBLE", type := .int, accessFlags := 25, slot := 14, constantValue := 0 }, { name := "T_BYTE", type := .int, accessFlags := 25, slot := 15, constantValue := 0 }, { name := "T_SHORT", type := .int, accessFlags := 25, slot := 16, constantValue := 0 }, { name := "T_INT", type := .int, accessFlags := 25, slot := 17, constantValue := 0 }, { name := "T_LONG", type := .int, accessFlags := 25, slot := 18, constantValue := 0 }, { name := "JLA", type := (.object "jdk/internal/access/JavaLangAccess"), accessFlags := 26, slot := 19, constantValue := 0 }, { name := "SOFT_MAX_ARRAY_LENGTH", type := .int, accessFlags := 25, slot := 20, constantValue := 0 }]
  methods := #[k15m0]
  instanceTypes := #[]
  staticTypes := #[(.object "jdk/internal/misc/Unsafe"), .boolean, .int, .int, .int, .int, .int, .int, .int, .int, .int, .int, .int, .int, .int, .int, .int, .int, .int, (.object "jdk/internal/access/JavaLangAccess"), .int]
  resolved := Array.replicate 378 none
  statics := none }

def pool16 : Array CpInfo := pool [(1, u "java/lang/Cloneable"), (0, .class_ 1), (0, u "java/lang/Object"), (0, .class_ 3)] 3

/-- java/lang/Cloneable -/
def k16 : Class := { plain "java/lang/Cloneable" (some 0) with
  accessFlags := 1537
  interfaces := #[]
  cf := some (fileOf pool16 2 #[] #[] 1537 4 #[] #[])
  fields := #[]
  methods := #[]
  instanceTypes := #[]
  staticTypes := #[]
  resolved := Array.replicate 8 none
  statics := none }

/-- the primitive byte -/
def k17 : Class := { plain "byte" none with kind := .primitive 'B', accessFlags := 0x411 }
/-- [B -/
def k18 : Class := { plain "[B" (some 0) with kind := .array 17 .byte, interfaces := #[16, 2], accessFlags := 1041 }

/-- the primitive char -/
def k19 : Class := { plain "char" none with kind := .primitive 'C', accessFlags := 0x411 }
/-- [C -/
def k20 : Class := { plain "[C" (some 0) with kind := .array 19 .char, interfaces := #[16, 2], accessFlags := 1041 }

/-- the primitive int -/
def k21 : Class := { plain "int" none with kind := .primitive 'I', accessFlags := 0x411 }
/-- [I -/
def k22 : Class := { plain "[I" (some 0) with kind := .array 21 .int, interfaces := #[16, 2], accessFlags := 1041 }

def heap : Heap := #[{ cls := 7, slots := #[.long 0, .int 1, .null, .int 0, .null, .int 0, .int 0], vm := .statics 7 },
  { cls := 12, slots := #[.ref 3, .ref 4, .ref 5, .ref 6, .null], vm := .statics 12 },
  { cls := 14, slots := #[.null, .null, .null], vm := .statics 14 },
  { cls := 12, slots := #[.null, .int 0, .int 0], vm := .none },
  { cls := 12, slots := #[.null, .int 1, .int 0], vm := .none },
  { cls := 12, slots := #[.null, .int 2, .int 0], vm := .none },
  { cls := 12, slots := #[.null, .int 3, .int 0], vm := .none }]
def classes : Array Class := #[k0, k1, k2, k3, k4, k5, k6, k7, k8, k9, k10, k11, k12, k13, k14, k15, k16, k17, k18, k19, k20, k21, k22]
def interned : List (Array UInt16 × Addr) := []
def slotsUsed : Nat := 27
def theMethod : MethodId := ⟨1, 3⟩
def args0 : Array Value := #[.int 4, .int 5, .int 6, .int 7, .int 8]
def aboutOver (below : List Frame) : State where
  vm := { classes := classes, interned := interned.toArray }
  heap := heap
  slotsUsed := slotsUsed
  threads := #[{ frames := .invoking theMethod args0 :: below }]
def below0 : List Frame := [.native { method := ⟨0, 0⟩, args := #[] }]
def about1 : State := aboutOver below0
def p0 : Program := .bare "" "" ""
def e0 : Env := launch0.env 0 0 0
theorem w_frames : about1.frames = Frame.invoking theMethod args0 :: below0 := rfl
set_option maxRecDepth 65536 in
theorem w_args : argsFit about1.vm theMethod args0 = true := by decide +kernel
set_option maxRecDepth 65536 in
theorem w_heap : heapFits about1 = true := by decide +kernel
set_option maxRecDepth 65536 in
theorem w_runnable : about1.curStatus? = some .runnable := by decide +kernel
set_option maxRecDepth 65536 in
theorem w_alone : about1.alone = true := by decide +kernel
set_option maxRecDepth 65536 in
theorem w_named : about1.methodNamed? x = some theMethod := by decide +kernel
set_option maxRecDepth 65536 in
theorem w_hears : about1.hears theMethod below0 = true := by decide +kernel
set_option maxRecDepth 65536 in
theorem w_ripe : about1.ripe theMethod args0 below0 = true := by decide +kernel
theorem w_running : about1.status = .running := rfl
set_option maxRecDepth 65536 in
theorem w_room : about1.hasRoom e0.platform room_1 = true :=
  launch0.hasRoom_least _ room_1 (by decide +kernel) (by decide +kernel) (by decide +kernel) (by decide +kernel) (by decide +kernel) (by decide +kernel)
theorem allAtoms_all (ts : List Jvm.Cond) (a : Array Jvm.Value) (st : Jvm.State) : (allAtoms ts).before a st = ts.all (fun c => c.before a st) := by
  induction ts with
  | nil => rfl
  | cons c t ih =>
    show (Jvm.Cond.and c (allAtoms t)).before a st = _
    rw [Jvm.Cond.before_and, ih, List.all_cons]
def words1 : List Jvm.Cond := Jvm.Cond.code x code maxLocals ret :: tables_1
/-- a 'code' word, met by the world's own term for the bytes: nothing is compared byte by byte -/
theorem code_word {y : MethodName} {bytes : ByteArray} {mx : Nat} {rt : Option FieldType} {a : Array Value} {s : State} {m : MethodId} {meth : Method} {c : Code} (h1 : s.methodNamed? y = some m) (h2 : s.vm.method? m = some meth) (h3 : meth.code = some c) (h4 : c.code = bytes)
    (h5 : (c.maxLocals == mx && c.exceptionTable.isEmpty && decide (c.maxStack ≤ mostOperands) && decide (meth.sig.returnType = rt) && !meth.locks && decide (parseMethodDescriptor y.desc = some meth.sig)) = true) : (Jvm.Cond.code y bytes mx rt).before a s = true := by
  simp only [Bool.and_eq_true, beq_iff_eq, Bool.not_eq_true', decide_eq_true_eq] at h5
  obtain ⟨⟨⟨⟨⟨g1, g2⟩, g3⟩, g4⟩, g5⟩, g6⟩ := h5
  simp [Cond.before, Cond.holds, Cond.value, h1, h2, h3, h4, g1, g2, g3, g4, g5, g6]
def isCode : Jvm.Cond → Bool
  | .code _ _ _ _ => true
  | _ => false
theorem all_split {L : List Jvm.Cond} {P : Jvm.Cond → Bool} (h1 : L.all (fun c => isCode c || P c) = true) (h2 : ∀ c ∈ L.filter isCode, P c = true) : L.all P = true := by
  refine List.all_eq_true.mpr fun c hc => ?_
  have h := List.all_eq_true.mp h1 c hc
  rcases Bool.eq_false_or_eq_true (isCode c) with hi | hi
  · exact h2 c (List.mem_filter.mpr ⟨hc, hi⟩)
  · simpa [hi] using h
set_option maxRecDepth 65536 in
theorem w_c0 : (Jvm.Cond.code x code maxLocals ret).before args0 about1 = true := code_word (m := ⟨1, 3⟩) (meth := k1m3) (c := k1c3) (by decide +kernel) rfl rfl rfl (by decide +kernel)
set_option maxRecDepth 65536 in
theorem w_c1 : (Jvm.Cond.code ({ cls := "com/example/patient_snoop/patientsnoop/io/TokenIsNamePinLaw", name := "mk", desc := "(ICCC)Ljava/lang/String;" } : Jvm.MethodName) method_2_code (4 : Nat) (Option.some (Jvm.ClassFile.FieldType.object "java/lang/String"))).before args0 about1 = true := code_word (m := ⟨1, 1⟩) (meth := k1m1) (c := k1c1) (by decide +kernel) rfl rfl rfl (by decide +kernel)
set_option maxRecDepth 65536 in
theorem w_c2 : (Jvm.Cond.code ({ cls := "java/lang/String", name := "<init>", desc := "([C)V" } : Jvm.MethodName) jdk_42_method_3_code (2 : Nat) (Option.none : Option Jvm.ClassFile.FieldType)).before args0 about1 = true := code_word (m := ⟨7, 1⟩) (meth := k7m1) (c := k7c1) (by decide +kernel) rfl rfl rfl (by decide +kernel)
set_option maxRecDepth 65536 in
theorem w_c3 : (Jvm.Cond.code ({ cls := "java/lang/String", name := "<init>", desc := "([CIILjava/lang/Void;)V" } : Jvm.MethodName) jdk_42_method_149_code (6 : Nat) (Option.none : Option Jvm.ClassFile.FieldType)).before args0 about1 = true := code_word (m := ⟨7, 3⟩) (meth := k7m3) (c := k7c3) (by decide +kernel) rfl rfl rfl (by decide +kernel)
set_option maxRecDepth 65536 in
theorem w_c4 : (Jvm.Cond.code ({ cls := "java/lang/Object", name := "<init>", desc := "()V" } : Jvm.MethodName) object_method_1_code (1 : Nat) (Option.none : Option Jvm.ClassFile.FieldType)).before args0 about1 = true := code_word (m := ⟨0, 0⟩) (meth := k0m0) (c := k0c0) (by decide +kernel) rfl rfl rfl (by decide +kernel)
set_option maxRecDepth 65536 in
theorem w_c5 : (Jvm.Cond.code ({ cls := "java/lang/StringUTF16", name := "compress", desc := "([CII)[B" } : Jvm.MethodName) jdk_52_method_16_code (6 : Nat) (Option.some (Jvm.ClassFile.FieldType.array Jvm.ClassFile.FieldType.byte))).before args0 about1 = true := code_word (m := ⟨8, 2⟩) (meth := k8m2) (c := k8c2) (by decide +kernel) rfl rfl rfl (by decide +kernel)
set_option maxRecDepth 65536 in
theorem w_c6 : (Jvm.Cond.code ({ cls := "java/lang/StringUTF16", name := "compress", desc := "([CI[BII)I" } : Jvm.MethodName) jdk_52_method_21_code (7 : Nat) (Option.some Jvm.ClassFile.FieldType.int)).before args0 about1 = true := code_word (m := ⟨8, 3⟩) (meth := k8m3) (c := k8c3) (by decide +kernel) rfl rfl rfl (by decide +kernel)
set_option maxRecDepth 65536 in
theorem w_c7 : (Jvm.Cond.code ({ cls := "java/lang/StringUTF16", name := "coderFromArrayLen", desc := "([BI)B" } : Jvm.MethodName) jdk_52_method_15_code (2 : Nat) (Option.some Jvm.ClassFile.FieldType.byte)).before args0 about1 = true := code_word (m := ⟨8, 1⟩) (meth := k8m1) (c := k8c1) (by decide +kernel) rfl rfl rfl (by decide +kernel)
set_option maxRecDepth 65536 in
theorem w_c8 : (Jvm.Cond.code ({ cls := "com/example/patient_snoop/patientsnoop/io/TokenIsNamePinLaw", name := "kindOf", desc := "(I)Lcom/example/patient_snoop/patientsnoop/io/Token$Kind;" } : Jvm.MethodName) method_3_code (2 : Nat) (Option.some (Jvm.ClassFile.FieldType.object "com/example/patient_snoop/patientsnoop/io/Token$Kind"))).before args0 about1 = true := code_word (m := ⟨1, 2⟩) (meth := k1m2) (c := k1c2) (by decide +kernel) rfl rfl rfl (by decide +kernel)
set_option maxRecDepth 65536 in
theorem w_c9 : (Jvm.Cond.code ({ cls := "com/example/patient_snoop/patientsnoop/io/Token", name := "<init>", desc := "(Lcom/example/patient_snoop/patientsnoop/io/Token$Kind;Ljava/lang/String;I)V" } : Jvm.MethodName) prog_14_method_1_code (4 : Nat) (Option.none : Option Jvm.ClassFile.FieldType)).before args0 about1 = true := code_word (m := ⟨10, 0⟩) (meth := k10m0) (c := k10c0) (by decide +kernel) rfl rfl rfl (by decide +kernel)
set_option maxRecDepth 65536 in
theorem w_c10 : (Jvm.Cond.code ({ cls := "java/lang/Record", name := "<init>", desc := "()V" } : Jvm.MethodName) jdk_30_method_1_code (1 : Nat) (Option.none : Option Jvm.ClassFile.FieldType)).before args0 about1 = true := code_word (m := ⟨9, 0⟩) (meth := k9m0) (c := k9c0) (by decide +kernel) rfl rfl rfl (by decide +kernel)
set_option maxRecDepth 65536 in
theorem w_c11 : (Jvm.Cond.code ({ cls := "com/example/patient_snoop/patientsnoop/io/Token", name := "isName", desc := "(Ljava/lang/String;)Z" } : Jvm.MethodName) prog_14_method_3_code (2 : Nat) (Option.some Jvm.ClassFile.FieldType.boolean)).before args0 about1 = true := code_word (m := ⟨10, 1⟩) (meth := k10m1) (c := k10c1) (by decide +kernel) rfl rfl rfl (by decide +kernel)
set_option maxRecDepth 65536 in
theorem w_c12 : (Jvm.Cond.code ({ cls := "java/lang/String", name := "equals", desc := "(Ljava/lang/Object;)Z" } : Jvm.MethodName) jdk_42_method_66_code (3 : Nat) (Option.some Jvm.ClassFile.FieldType.boolean)).before args0 about1 = true := code_word (m := ⟨7, 2⟩) (meth := k7m2) (c := k7c2) (by decide +kernel) rfl rfl rfl (by decide +kernel)
set_option maxRecDepth 65536 in
theorem w_c13 : (Jvm.Cond.code ({ cls := "java/lang/StringLatin1", name := "equals", desc := "([B[B)Z" } : Jvm.MethodName) jdk_43_method_13_code (3 : Nat) (Option.some Jvm.ClassFile.FieldType.boolean)).before args0 about1 = true := code_word (m := ⟨13, 1⟩) (meth := k13m1) (c := k13c1) (by decide +kernel) rfl rfl rfl (by decide +kernel)
def codes1 : List Jvm.Cond := [Jvm.Cond.code x code maxLocals ret, Jvm.Cond.code ({ cls := "com/example/patient_snoop/patientsnoop/io/TokenIsNamePinLaw", name := "mk", desc := "(ICCC)Ljava/lang/String;" } : Jvm.MethodName) method_2_code (4 : Nat) (Option.some (Jvm.ClassFile.FieldType.object "java/lang/String")), Jvm.Cond.code ({ cls := "java/lang/String", name := "<init>", desc := "([C)V" } : Jvm.MethodName) jdk_42_method_3_code (2 : Nat) (Option.none : Option Jvm.ClassFile.FieldType), Jvm.Cond.code ({ cls := "java/lang/String", name := "<init>", desc := "([CIILjava/lang/Void;)V" } : Jvm.MethodName) jdk_42_method_149_code (6 : Nat) (Option.none : Option Jvm.ClassFile.FieldType), Jvm.Cond.code ({ cls := "java/lang/Object", name := "<init>", desc := "()V" } : Jvm.MethodName) object_method_1_code (1 : Nat) (Option.none : Option Jvm.ClassFile.FieldType), Jvm.Cond.code ({ cls := "java/lang/StringUTF16", name := "compress", desc := "([CII)[B" } : Jvm.MethodName) jdk_52_method_16_code (6 : Nat) (Option.some (Jvm.ClassFile.FieldType.array Jvm.ClassFile.FieldType.byte)), Jvm.Cond.code ({ cls := "java/lang/StringUTF16", name := "compress", desc := "([CI[BII)I" } : Jvm.MethodName) jdk_52_method_21_code (7 : Nat) (Option.some Jvm.ClassFile.FieldType.int), Jvm.Cond.code ({ cls := "java/lang/StringUTF16", name := "coderFromArrayLen", desc := "([BI)B" } : Jvm.MethodName) jdk_52_method_15_code (2 : Nat) (Option.some Jvm.ClassFile.FieldType.byte), Jvm.Cond.code ({ cls := "com/example/patient_snoop/patientsnoop/io/TokenIsNamePinLaw", name := "kindOf", desc := "(I)Lcom/example/patient_snoop/patientsnoop/io/Token$Kind;" } : Jvm.MethodName) method_3_code (2 : Nat) (Option.some (Jvm.ClassFile.FieldType.object "com/example/patient_snoop/patientsnoop/io/Token$Kind")), Jvm.Cond.code ({ cls := "com/example/patient_snoop/patientsnoop/io/Token", name := "<init>", desc := "(Lcom/example/patient_snoop/patientsnoop/io/Token$Kind;Ljava/lang/String;I)V" } : Jvm.MethodName) prog_14_method_1_code (4 : Nat) (Option.none : Option Jvm.ClassFile.FieldType), Jvm.Cond.code ({ cls := "java/lang/Record", name := "<init>", desc := "()V" } : Jvm.MethodName) jdk_30_method_1_code (1 : Nat) (Option.none : Option Jvm.ClassFile.FieldType), Jvm.Cond.code ({ cls := "com/example/patient_snoop/patientsnoop/io/Token", name := "isName", desc := "(Ljava/lang/String;)Z" } : Jvm.MethodName) prog_14_method_3_code (2 : Nat) (Option.some Jvm.ClassFile.FieldType.boolean), Jvm.Cond.code ({ cls := "java/lang/String", name := "equals", desc := "(Ljava/lang/Object;)Z" } : Jvm.MethodName) jdk_42_method_66_code (3 : Nat) (Option.some Jvm.ClassFile.FieldType.boolean), Jvm.Cond.code ({ cls := "java/lang/StringLatin1", name := "equals", desc := "([B[B)Z" } : Jvm.MethodName) jdk_43_method_13_code (3 : Nat) (Option.some Jvm.ClassFile.FieldType.boolean)]
set_option maxRecDepth 65536 in
theorem codes_eq : words1.filter isCode = codes1 := rfl
theorem w_codes : ∀ c ∈ words1.filter isCode, c.before args0 about1 = true := by
  rw [codes_eq]
  intro c hc
  simp only [codes1, List.mem_cons, List.not_mem_nil, or_false] at hc
  rcases hc with rfl | rfl | rfl | rfl | rfl | rfl | rfl | rfl | rfl | rfl | rfl | rfl | rfl | rfl
  · exact w_c0
  · exact w_c1
  · exact w_c2
  · exact w_c3
  · exact w_c4
  · exact w_c5
  · exact w_c6
  · exact w_c7
  · exact w_c8
  · exact w_c9
  · exact w_c10
  · exact w_c11
  · exact w_c12
  · exact w_c13
set_option maxRecDepth 65536 in
theorem w_t1 : (words1.take 24).all (fun c => isCode c || c.before args0 about1) = true := by decide +kernel
set_option maxRecDepth 65536 in
theorem w_t2 : ((words1.drop 24).take 24).all (fun c => isCode c || c.before args0 about1) = true := by decide +kernel
set_option maxRecDepth 65536 in
theorem w_t3 : (((words1.drop 24).drop 24).take 24).all (fun c => isCode c || c.before args0 about1) = true := by decide +kernel
set_option maxRecDepth 65536 in
theorem w_t4 : (((words1.drop 24).drop 24).drop 24).all (fun c => isCode c || c.before args0 about1) = true := by decide +kernel
theorem w_tables : (allAtoms (Jvm.Cond.code x code maxLocals ret :: tables_1)).before args0 about1 = true := by
  rw [allAtoms_all]
  show words1.all (fun c => c.before args0 about1) = true
  refine all_split ?_ w_codes
  rw [← List.take_append_drop 24 words1, List.all_append, w_t1, ← List.take_append_drop 24 (words1.drop 24), List.all_append, w_t2, ← List.take_append_drop 24 ((words1.drop 24).drop 24), List.all_append, w_t3, w_t4]
  rfl
set_option maxRecDepth 65536 in
theorem w_rest : rest_1_c.before args0 about1 = true := by decide +kernel
set_option maxRecDepth 65536 in
theorem w_case : (Jvm.Cond.and given_1 narrow_1).before args0 about1 = true := by decide +kernel
set_option maxRecDepth 65536 in
theorem w_consts : constsHeld consts_1 about1 := Jvm.Lit.constsHeldB_iff.mp (by decide +kernel)
theorem w_applies : (headSpec (Jvm.Cond.code x code maxLocals ret :: tables_1) room_1).applies x e0.platform about1 = true :=
  (Spec.applies_iff w_frames).mpr ⟨w_running, w_runnable, w_alone, w_named, w_hears, w_ripe, w_room, w_tables⟩
theorem atStart : AtStart classFile x code maxLocals ret World_1 tables_1 room_1 Calls_1 rest_1 Pre_1 launch0 p0 e0 about1 theMethod args0 below0 :=
  ⟨lists_1, trivial, launch0.admits_env _ _ _, launch0.least_env, fairChoices_fair.cas, fairChoices_fair.clock, w_frames, w_args, w_heap, w_applies, ⟨w_consts, trivial⟩, w_rest, w_case⟩
end start1
theorem witness_1 : WitnessClaimed_1 := ⟨start1.p0, start1.e0, start1.about1, start1.theMethod, start1.args0, start1.below0, start1.atStart⟩
end Jvm.Pilot.@@N@@
