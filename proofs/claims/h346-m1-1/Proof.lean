import JvmDerived
import JvmDerived.Pilot.@@N@@Statement
import JvmDerived.Pilot.@@N@@Code
set_option linter.unusedVariables false
set_option linter.unusedSimpArgs false
namespace Jvm.Pilot.@@N@@
open Jvm Jvm.ClassFile Sem Op Lib Jvm.Free Jvm.Stand Jvm.LawKit Jvm.RoadKit Bundle Jvm.Pilot.@@N@@.Jvm.D
theorem ow {Z : State} {az : Array Value} {tb : List Jvm.Cond} (hw : ∀ d ∈ tb, d.before az Z = true) (i : Nat) {d : Jvm.Cond} (h : tb[i]? = some d) : d.before az Z = true := hw _ (List.mem_of_getElem? h)
abbrev mN0 : MethodName := ⟨"com/example/grantbook/grantbook/licence/PlainAttributes", "<init>", "([BI)V"⟩
abbrev mN1 : MethodName := ⟨"com/example/grantbook/grantbook/licence/PlainAttributes", "add", "(IIIII)I"⟩
abbrev mN2 : MethodName := ⟨"com/example/grantbook/grantbook/licence/PlainAttributes", "clear", "()V"⟩
abbrev mN3 : MethodName := ⟨"com/example/grantbook/grantbook/licence/PlainAttributes", "getLocalName", "(I)Ljava/lang/String;"⟩
abbrev mN4 : MethodName := ⟨"com/example/grantbook/grantbook/licence/PlainAttributes", "getQName", "(I)Ljava/lang/String;"⟩
abbrev mN5 : MethodName := ⟨"com/example/grantbook/grantbook/licence/PlainAttributes", "getValue", "(I)Ljava/lang/String;"⟩
abbrev mN6 : MethodName := ⟨"com/example/grantbook/grantbook/licence/PlainAttributes", "isTold", "(I)Z"⟩
abbrev mN7 : MethodName := ⟨"com/example/grantbook/grantbook/licence/PlainAttributes", "localName", "(I)Ljava/lang/String;"⟩
abbrev mN8 : MethodName := ⟨"com/example/grantbook/grantbook/licence/PlainAttributes", "qName", "(I)Ljava/lang/String;"⟩
abbrev mN9 : MethodName := ⟨"com/example/grantbook/grantbook/licence/PlainAttributes", "tell", "(ILjava/lang/String;)V"⟩
abbrev mN10 : MethodName := ⟨"com/example/grantbook/grantbook/licence/PlainAttributes", "text", "(II)Ljava/lang/String;"⟩
abbrev mN11 : MethodName := ⟨"com/example/grantbook/grantbook/licence/PlainAttributes", "value", "(I)Ljava/lang/String;"⟩
abbrev mN12 : MethodName := ⟨"com/example/grantbook/grantbook/licence/PlainAttributesAddPinLaw", "at", "(Ljava/lang/String;[BIII)Z"⟩
abbrev mN13 : MethodName := ⟨"com/example/grantbook/grantbook/licence/PlainAttributesAddPinLaw", "attr", "(I)[I"⟩
abbrev mN14 : MethodName := ⟨"com/example/grantbook/grantbook/licence/PlainAttributesAddPinLaw", "field", "(II)I"⟩
abbrev mN15 : MethodName := ⟨"com/example/grantbook/grantbook/licence/PlainAttributesAddPinLaw", "same", "(Ljava/lang/String;[BII)Z"⟩
abbrev mN16 : MethodName := ⟨"java/lang/Math", "max", "(II)I"⟩
abbrev mN17 : MethodName := ⟨"java/lang/Math", "min", "(II)I"⟩
abbrev mN18 : MethodName := ⟨"java/lang/String", "<init>", "(Ljava/nio/charset/Charset;[BII)V"⟩
abbrev mN19 : MethodName := ⟨"java/lang/String", "<init>", "([BIILjava/nio/charset/Charset;)V"⟩
abbrev mN20 : MethodName := ⟨"java/lang/String", "charAt", "(I)C"⟩
abbrev mN21 : MethodName := ⟨"java/lang/String", "checkBoundsOffCount", "(III)I"⟩
abbrev mN22 : MethodName := ⟨"java/lang/String", "checkIndex", "(II)V"⟩
abbrev mN23 : MethodName := ⟨"java/lang/String", "coder", "()B"⟩
abbrev mN24 : MethodName := ⟨"java/lang/String", "isLatin1", "()Z"⟩
abbrev mN25 : MethodName := ⟨"java/lang/String", "length", "()I"⟩
abbrev mN26 : MethodName := ⟨"java/lang/StringCoding", "countPositives", "([BII)I"⟩
abbrev mN27 : MethodName := ⟨"java/lang/StringCoding", "hasNegatives", "([BII)Z"⟩
abbrev mN28 : MethodName := ⟨"java/lang/StringLatin1", "charAt", "([BI)C"⟩
abbrev mN29 : MethodName := ⟨"java/util/Arrays", "checkLength", "(II)V"⟩
abbrev mN30 : MethodName := ⟨"java/util/Arrays", "copyOfRange", "([BII)[B"⟩
abbrev mN31 : MethodName := ⟨"java/util/Arrays", "copyOfRangeByte", "([BII)[B"⟩
abbrev mN32 : MethodName := ⟨"java/util/Objects", "requireNonNull", "(Ljava/lang/Object;)Ljava/lang/Object;"⟩
abbrev mN33 : MethodName := ⟨"jdk/internal/util/Preconditions", "checkFromIndexSize", "(IIILjava/util/function/BiFunction;)I"⟩
abbrev mN34 : MethodName := ⟨"jdk/internal/util/Preconditions", "checkIndex", "(IILjava/util/function/BiFunction;)I"⟩
abbrev rO (a b c d : Nat) : Room := { frames := a, cells := b, slots := c, locals := d }
abbrev HW (az : Array Value) (Z : State) : Prop := ∀ d ∈ tables_1, d.before az Z = true
theorem oW {g : JFrame} {rest : List Value} {W : Nat} (h1 : g.monitorRoom = 0) (h2 : (rest.map fun v => v.category).sum = W) : 2 * g.monitorRoom + (rest.map fun v => v.category).sum ≤ W := by rw [h1, h2]; exact Nat.le_of_eq (Nat.zero_add W)
abbrev MF (l : Launch) (y : MethodName) (W : List Jvm.Cond) (R : Room) (A : Array Value) (Z : State) (h0 : Heap) (Q : Option Value → Heap → List Loc → Prop) : Prop := MetFree l y (head1 W R) (fun a U => a = A ∧ Z.Warmed39 U.vm ∧ U.heap = h0) (fun _ _ _ _ _ => True) (fun _ U o U' => ∃ v L, o = .returned v ∧ Q v U'.heap L ∧ FrameEnd U o U' L R.cells R.slots)
abbrev tS0 (Z : State) (h : Heap) (v : Value) : Prop := Sta Z h "java/lang/String" "COMPACT_STRINGS" "Z" v
abbrev tS1 (Z : State) (h : Heap) (v : Value) : Prop := Sta Z h "jdk/internal/util/Preconditions" "SIOOBE_FORMATTER" "Ljava/util/function/BiFunction;" v
abbrev tS2 (Z : State) (h : Heap) (v : Value) : Prop := Sta Z h "sun/nio/cs/UTF_8" "INSTANCE" "Lsun/nio/cs/UTF_8;" v
abbrev tS3 (Z : State) (h : Heap) (v : Value) : Prop := Sta Z h "sun/nio/cs/ISO_8859_1" "INSTANCE" "Lsun/nio/cs/ISO_8859_1;" v
abbrev tS4 (Z : State) (h : Heap) (v : Value) : Prop := Sta Z h "sun/nio/cs/US_ASCII" "INSTANCE" "Lsun/nio/cs/US_ASCII;" v
abbrev tS5 (Z : State) (h : Heap) (v : Value) : Prop := Sta Z h "java/nio/charset/StandardCharsets" "UTF_8" "Ljava/nio/charset/Charset;" v
abbrev tS6 (Z : State) (h : Heap) (v : Value) : Prop := Sta Z h "java/nio/charset/StandardCharsets" "US_ASCII" "Ljava/nio/charset/Charset;" v
abbrev tF0 (Z : State) (h : Heap) (a : Addr) (v : Value) : Prop := Fld Z h a "java/lang/String" "coder" "B" v
abbrev tF1 (Z : State) (h : Heap) (a : Addr) (v : Value) : Prop := Fld Z h a "java/lang/String" "value" "[B" v
set_option maxRecDepth 65536
set_option maxHeartbeats 4000000
abbrev vi (x : Int32) : Slot := .val (.int x)
abbrev vr (x : Addr) : Slot := .val (.ref x)
abbrev vj (x : Int64) : Slot := .val (.long x)
section OwnKit
variable {p : Program} {l : Launch} {e : Env} {R : Room} {s : State} {m : MethodId} {args : Array Value} {below : List Frame} {meth : Method} {c : Code} {T : State} {locs : List Loc} {cells slots ck sk : Nat} {S S' t : State} {Q : Option Value → Heap → List Loc → Prop}
/-- from S the run comes to a return of which Q is said -/
def Go (p : Program) (e : Env) (below : List Frame) (s : State) (Q : Option Value → Heap → List Loc → Prop) (ck sk : Nat) (S : State) : Prop :=
  ∃ s₂ o, Steps p.tables e below S s₂ ∧ s₂.status = .running ∧ Ended s₂ below o ∧ ∃ v L, o = .returned v ∧ Q v s₂.heap L ∧ FrameEnd s o s₂ L ck sk
theorem Go.st (h : ∀ t, Steps p.tables e below S' t → Steps p.tables e below S t) (k : Go p e below s Q ck sk S') : Go p e below s Q ck sk S := by
  obtain ⟨s₂, o, h1, r⟩ := k
  exact ⟨s₂, o, h _ h1, r⟩
theorem Go.tr (h : Steps p.tables e below S S') (k : Go p e below s Q ck sk S') : Go p e below s Q ck sk S := Go.st (fun _ q => h.trans q) k
theorem via (h : Steps p.tables e below S' t → Steps p.tables e below S t) (k : Steps p.tables e below S' t) : Steps p.tables e below S t := h k
theorem Go.retW (X : Stand p l e R s m args below meth c T locs cells slots) (hx : p.tables.exec = Jvm.exec) (hlk : meth.locks = false) {pc : Nat} {Ls : Array Slot} {w : Value} {ty : FieldType} {i : Instr} {rest : List Value} (hret : meth.sig.returnType = some ty) (hn : narrow ty w = w)
    (hi : (i = .ireturn ∧ (ty = .int ∨ ty = .boolean ∨ ty = .byte ∨ ty = .char ∨ ty = .short) ∧ ∃ z, w = .int z) ∨ (i = .lreturn ∧ ty = .long ∧ ∃ z, w = .long z) ∨ (i = .dreturn ∧ ty = .double ∧ ∃ z, w = .double z) ∨ (i = .freturn ∧ ty = .float ∧ ∃ z, w = .float z) ∨ (i = .areturn ∧ ty.isReference = true ∧ w.isRef = true))
    (hd : decode c.code pc = .ok (i, 1)) (hQ : Q (some w) T.heap locs) (hc : cells ≤ ck) (hs : slots ≤ sk) : Go p e below s Q ck sk (T.setTop (mkF m pc Ls (w :: rest))) := by
  obtain ⟨fs, hr, hrun, hended, hW, hsame⟩ := X.leave (v := some w) (fun h => by rw [hret] at h; cases h)
  exact ⟨_, _, retOut X hx hret hn hi hd hr, hrun, hended, _, _, rfl, hQ, ⟨_, rfl⟩, hW, hsame.mono hc hs⟩
theorem Go.retI (X : Stand p l e R s m args below meth c T locs cells slots) (hx : p.tables.exec = Jvm.exec) (hlk : meth.locks = false) {pc : Nat} {Ls : Array Slot} {z : Int32} {rest : List Value} (hret : meth.sig.returnType = some .int) (hd : decode c.code pc = .ok (.ireturn, 1)) (hQ : Q (some (.int z)) T.heap locs) (hc : cells ≤ ck) (hs : slots ≤ sk) : Go p e below s Q ck sk (T.setTop (mkF m pc Ls (.int z :: rest))) :=
  Go.retW X hx hlk hret rfl (Or.inl ⟨rfl, Or.inl rfl, _, rfl⟩) hd hQ hc hs
theorem Go.retJ (X : Stand p l e R s m args below meth c T locs cells slots) (hx : p.tables.exec = Jvm.exec) (hlk : meth.locks = false) {pc : Nat} {Ls : Array Slot} {z : Int64} {rest : List Value} (hret : meth.sig.returnType = some .long) (hd : decode c.code pc = .ok (.lreturn, 1)) (hQ : Q (some (.long z)) T.heap locs) (hc : cells ≤ ck) (hs : slots ≤ sk) : Go p e below s Q ck sk (T.setTop (mkF m pc Ls (.long z :: rest))) :=
  Go.retW X hx hlk hret rfl (Or.inr (Or.inl ⟨rfl, rfl, _, rfl⟩)) hd hQ hc hs
theorem Go.retA (X : Stand p l e R s m args below meth c T locs cells slots) (hx : p.tables.exec = Jvm.exec) (hlk : meth.locks = false) {pc : Nat} {Ls : Array Slot} {w : Value} {ty : FieldType} {rest : List Value} (hret : meth.sig.returnType = some ty) (ht : ty.isReference = true) (hw : w.isRef = true) (hd : decode c.code pc = .ok (.areturn, 1)) (hQ : Q (some w) T.heap locs) (hc : cells ≤ ck) (hs : slots ≤ sk) : Go p e below s Q ck sk (T.setTop (mkF m pc Ls (w :: rest))) :=
  Go.retW X hx hlk hret (by cases ty <;> first | (cases ht; done) | (cases w <;> first | rfl | cases hw)) (Or.inr (Or.inr (Or.inr (Or.inr ⟨rfl, ht, hw⟩)))) hd hQ hc hs
theorem Go.retN (X : Stand p l e R s m args below meth c T locs cells slots) (hx : p.tables.exec = Jvm.exec) (hlk : meth.locks = false) {pc : Nat} {Ls : Array Slot} {z : Int32} {t : FieldType} {rest : List Value} (hret : meth.sig.returnType = some t) (ht : t = .boolean ∨ t = .byte ∨ t = .char ∨ t = .short) (hd : decode c.code pc = .ok (.ireturn, 1)) (hQ : Q (some (.int (nar t z))) T.heap locs) (hc : cells ≤ ck) (hs : slots ≤ sk) : Go p e below s Q ck sk (T.setTop (mkF m pc Ls (.int z :: rest))) := by
  obtain ⟨fs, hr, hrun, hended, hW, hsame⟩ := X.leave (v := some (.int (nar t z))) (fun h => by rw [hret] at h; cases h)
  exact ⟨_, _, Jvm.RoadKit.retN X hx hret ht hd hr, hrun, hended, _, _, rfl, hQ, ⟨_, rfl⟩, hW, hsame.mono hc hs⟩
theorem Go.ret0 (X : Stand p l e R s m args below meth c T locs cells slots) (hx : p.tables.exec = Jvm.exec) (hlk : meth.locks = false) {pc : Nat} {Ls : Array Slot} (hret : meth.sig.returnType = none) (hd : decode c.code pc = .ok (.return_, 1)) (hQ : Q none T.heap locs) (hc : cells ≤ ck) (hs : slots ≤ sk) : Go p e below s Q ck sk (T.setTop (mkF m pc Ls [])) := by
  obtain ⟨fs, hr, hrun, hended, hW, hsame⟩ := X.leave (v := none) (fun _ => rfl)
  exact ⟨_, _, X.returnOut hx hret hd hr, hrun, hended, _, _, rfl, hQ, ⟨_, rfl⟩, hW, hsame.mono hc hs⟩
/-- what a body leaves that writes nothing -/
def PQ (w : Value) (n0 : Nat) (h0 : Heap) (v : Option Value) (h : Heap) (L : List Loc) : Prop := v = some w ∧ Fr n0 L ∧ h = h0
/-- what the law leaves -/
def LQ (n0 : Nat) (v : Option Value) (h : Heap) (L : List Loc) : Prop := v = some (.int 1) ∧ Fr n0 L
/-- the j-th of a list of ints -/
def bt (bs : List Int32) (j : Int32) : Int32 := bs.getD j.toNatClampNeg 0
theorem own_at {bs : List Int32} {c : Cell} {j : Int32} (H : Has c (bs.map .int) (.int 0)) (hin : ¬ (j < 0 ∨ c.slots.size ≤ j.toNatClampNeg)) : c.slots[j.toNatClampNeg]? = some (.int (bt bs j)) :=
  Has.at H hin (by unfold bt; simp only [List.getD, List.getElem?_map]; cases bs[j.toNatClampNeg]? <;> rfl)
/-- the j-th of a list of longs -/
def bl (bs : List Int64) (j : Int32) : Int64 := bs.getD j.toNatClampNeg 0
theorem own_atL {bs : List Int64} {c : Cell} {j : Int32} (H : Has c (bs.map .long) (.long 0)) (hin : ¬ (j < 0 ∨ c.slots.size ≤ j.toNatClampNeg)) : c.slots[j.toNatClampNeg]? = some (.long (bl bs j)) :=
  Has.at H hin (by unfold bl; simp only [List.getD, List.getElem?_map]; cases bs[j.toNatClampNeg]? <;> rfl)
theorem own_len {t : Term} {a : Addr} {cl : Cell} {n : Int32} (ev : t.eval args s none [] s = some (.ref a)) (ha : s.arrayAt? a = some cl) (h : (Cond.eq (.length t) (.int n)).value args s none s [] = some true) : cl.slots.size < 2 ^ 31 ∧ cl.slots.size.toInt32 = n := by
  by_cases q : cl.slots.size < 2 ^ 31
  · exact ⟨q, gotT (Cond.eq_ints (len_f ev ha q) (Term.int_eval n)) h⟩
  · exfalso
    simp [Cond.value, Term.eval, ev, ha, q] at h
theorem own_size {cl : Cell} {n : Int32} {k : Nat} (q : cl.slots.size < 2 ^ 31 ∧ cl.slots.size.toInt32 = n) (hk : n.toInt = k) : cl.slots.size = k := by
  have h := len_toInt q.1
  rw [q.2, hk] at h
  omega
theorem own_selp {Z : State} {az : Array Value} {y : MethodName} {n : Nat} (hZ : Z.Warmed39 s.vm) (wi : (Cond.instantiable y.cls n).before az Z = true) (wp : (Cond.privateMethod y).before az Z = true) (w : (Cond.instanceMethod y).before az Z = true) (hy : y.cls ≠ "java/lang/invoke/MethodHandle" ∧ y.cls ≠ "java/lang/invoke/VarHandle") : (Cond.selects y.cls y y).before args s = true := by
  obtain ⟨c, k, h1, h2, h3, h4, -⟩ := Cond.instantiable_spec (mvT hZ wi : (Cond.instantiable y.cls n).before args s = true)
  exact selects_self_of_private h1 h2 (Bool.or_eq_false_iff.mp h4).1 (Cond.privateMethod_at (mvP hZ wp (args := #[]))) (mvT hZ w) hy
theorem own_extK {h h' : Heap} (K : Keep h h' []) : Ext h h' := ⟨K.1, fun a c q => K.2.1 a c q (List.not_mem_nil)⟩
theorem own_stak {Z : State} {h h' : Heap} {ws : List Addr} {C n d : String} {v : Value} (K : Keep h h' ws) (hn : ∀ x ∈ ws, ∀ cell : Cell, h[x]? = some cell → cell.vm.isStatics = false) (F : Sta Z h C n d v) : Sta Z h' C n d v := by
  obtain ⟨cf, i, k, f, st, cell, h1, h2, h3, h4, h5, h6, h7⟩ := F
  exact ⟨cf, i, k, f, st, cell, h1, h2, h3, h4, K.2.1 _ _ h5 (fun hm => by have q := hn _ hm _ h5; rw [h6] at q; cases q), h6, h7⟩
end OwnKit

theorem pd_0 : parseMethodDescriptor "(I)[I" = some ⟨[.int], some (.array .int)⟩ := by decide +kernel
theorem pd_1 : parseMethodDescriptor "(II)I" = some ⟨[.int, .int], some .int⟩ := by decide +kernel
theorem pd_2 : parseMethodDescriptor "([BI)V" = some ⟨[(.array .byte), .int], none⟩ := by decide +kernel
theorem pd_3 : parseMethodDescriptor "()V" = some ⟨[], none⟩ := by decide +kernel
theorem pd_4 : parseMethodDescriptor "(IIIII)I" = some ⟨[.int, .int, .int, .int, .int], some .int⟩ := by decide +kernel
theorem pd_5 : parseMethodDescriptor "(ILjava/lang/String;)V" = some ⟨[.int, (.object "java/lang/String")], none⟩ := by decide +kernel
theorem pd_6 : parseMethodDescriptor "(I)Ljava/lang/String;" = some ⟨[.int], some (.object "java/lang/String")⟩ := by decide +kernel
theorem pd_7 : parseMethodDescriptor "(I)Z" = some ⟨[.int], some .boolean⟩ := by decide +kernel
theorem pd_8 : parseMethodDescriptor "(II)Ljava/lang/String;" = some ⟨[.int, .int], some (.object "java/lang/String")⟩ := by decide +kernel
theorem pd_9 : parseMethodDescriptor "([BIILjava/nio/charset/Charset;)V" = some ⟨[(.array .byte), .int, .int, (.object "java/nio/charset/Charset")], none⟩ := by decide +kernel
theorem pd_10 : parseMethodDescriptor "(Ljava/lang/Object;)Ljava/lang/Object;" = some ⟨[(.object "java/lang/Object")], some (.object "java/lang/Object")⟩ := by decide +kernel
theorem pd_11 : parseMethodDescriptor "(III)I" = some ⟨[.int, .int, .int], some .int⟩ := by decide +kernel
theorem pd_12 : parseMethodDescriptor "(IIILjava/util/function/BiFunction;)I" = some ⟨[.int, .int, .int, (.object "java/util/function/BiFunction")], some .int⟩ := by decide +kernel
theorem pd_13 : parseMethodDescriptor "(Ljava/nio/charset/Charset;[BII)V" = some ⟨[(.object "java/nio/charset/Charset"), (.array .byte), .int, .int], none⟩ := by decide +kernel
theorem pd_14 : parseMethodDescriptor "([BII)Z" = some ⟨[(.array .byte), .int, .int], some .boolean⟩ := by decide +kernel
theorem pd_15 : parseMethodDescriptor "([BII)I" = some ⟨[(.array .byte), .int, .int], some .int⟩ := by decide +kernel
theorem pd_16 : parseMethodDescriptor "([BII)[B" = some ⟨[(.array .byte), .int, .int], some (.array .byte)⟩ := by decide +kernel
theorem pd_17 : parseMethodDescriptor "(II)V" = some ⟨[.int, .int], none⟩ := by decide +kernel
theorem pd_18 : parseMethodDescriptor "(Ljava/lang/Object;ILjava/lang/Object;II)V" = some ⟨[(.object "java/lang/Object"), .int, (.object "java/lang/Object"), .int, .int], none⟩ := by decide +kernel
theorem pd_19 : parseMethodDescriptor "(Ljava/lang/String;[BII)Z" = some ⟨[(.object "java/lang/String"), (.array .byte), .int, .int], some .boolean⟩ := by decide +kernel
theorem pd_20 : parseMethodDescriptor "()I" = some ⟨[], some .int⟩ := by decide +kernel
theorem pd_21 : parseMethodDescriptor "()B" = some ⟨[], some .byte⟩ := by decide +kernel
theorem pd_22 : parseMethodDescriptor "(Ljava/lang/String;[BIII)Z" = some ⟨[(.object "java/lang/String"), (.array .byte), .int, .int, .int], some .boolean⟩ := by decide +kernel
theorem pd_23 : parseMethodDescriptor "(I)C" = some ⟨[.int], some .char⟩ := by decide +kernel
theorem pd_24 : parseMethodDescriptor "()Z" = some ⟨[], some .boolean⟩ := by decide +kernel
theorem pd_25 : parseMethodDescriptor "([BI)C" = some ⟨[(.array .byte), .int], some .char⟩ := by decide +kernel
theorem pd_26 : parseMethodDescriptor "(IILjava/util/function/BiFunction;)I" = some ⟨[.int, .int, (.object "java/util/function/BiFunction")], some .int⟩ := by decide +kernel
theorem pd_27 : parseMethodDescriptor "()Ljava/lang/Object;" = some ⟨[], some (.object "java/lang/Object")⟩ := by decide +kernel
/-- the two bytes of a char -/
def own_b0 (c : Int32) : Int32 := (((c >>> ((0 : Int32) &&& 31)).toInt8.toInt32).toInt8.toInt32)
def own_b1 (c : Int32) : Int32 := (((c >>> ((8 : Int32) &&& 31)).toInt8.toInt32).toInt8.toInt32)
def own_u16 : List Int32 → List Int32
  | [] => []
  | c :: r => own_b0 c :: own_b1 c :: own_u16 r
def own_lo8 (c : Int32) : Int32 := ((c.toInt8.toInt32).toInt8.toInt32)
def own_l8 (b : Int32) : Int32 := nar .char ((b &&& (255 : Int32)).toUInt32.toUInt16.toUInt32.toInt32)
def own_g16 (b0 b1 : Int32) : Int32 := nar .char (((((b0 &&& (255 : Int32)) <<< ((0 : Int32) &&& 31)) ||| ((b1 &&& (255 : Int32)) <<< ((8 : Int32) &&& 31))).toUInt32.toUInt16.toUInt32.toInt32))
def CSt (Z : State) (h : Heap) (a : Addr) (cs : List Int32) : Prop := Exa Z h a "java/lang/String" ∧ ∃ (cd : Int32) (d : Addr) (k : ClassId) (z : Int32) (xs : List Int32), tF0 Z h a (.int cd) ∧ tF1 Z h a (.ref d) ∧ Arv Z h d k .byte z (xs.map .int) (.int 0) ∧ (cd = 0 ∧ z.toInt = cs.length ∧ xs = cs.map own_lo8 ∧ ∀ c ∈ cs, 0 ≤ c.toInt ∧ c.toInt ≤ 255)
theorem CSt.ext {Z : State} {h h' : Heap} {a : Addr} {cs : List Int32} (F : CSt Z h a cs) (E : Ext h h') : CSt Z h' a cs := by
  obtain ⟨e, cd, d, k, z, xs, f1, f2, f3, f4⟩ := F
  exact ⟨e.ext E, cd, d, k, z, xs, f1.ext E, f2.ext E, f3.ext E, f4⟩
theorem own_narc (x : Int32) : nar .char x = x.toUInt32.toUInt16.toUInt32.toInt32 := rfl
theorem own_cc16 {c : Int32} (h : 0 ≤ c.toInt ∧ c.toInt ≤ 65535) : c.toUInt32.toUInt16.toUInt32.toInt32 = c := by
  have q := c_i2c c
  exact Int32.toInt_inj.mp (by omega)
theorem own_rt8 {c : Int32} (h : 0 ≤ c.toInt ∧ c.toInt ≤ 255) : nar .char (own_l8 (own_lo8 c)) = c := by
  unfold own_l8 own_lo8
  rw [own_narc, own_narc]
  have q1 := c_i2b c
  have q2 := c_i2b c.toInt8.toInt32
  have q3 : ((c.toInt8.toInt32).toInt8.toInt32 &&& (255 : Int32)).toInt = (c.toInt8.toInt32).toInt8.toInt32.toInt % 256 := c_mask _ 255 8 (by decide) (by decide)
  have e : ((c.toInt8.toInt32).toInt8.toInt32 &&& (255 : Int32)) = c := Int32.toInt_inj.mp (by omega)
  have k := own_cc16 (c := c) (by omega)
  simp only [e, k]
theorem own_rtg {c : Int32} (h : 0 ≤ c.toInt ∧ c.toInt ≤ 65535) : own_g16 (own_b0 c) (own_b1 c) = c := by
  unfold own_g16 own_b0 own_b1
  rw [own_narc]
  have s0 : (c >>> ((0 : Int32) &&& 31)).toInt = c.toInt / 1 := c_ishr c 0 0 (by decide)
  have s1 : (c >>> ((8 : Int32) &&& 31)).toInt = c.toInt / 256 := c_ishr c 8 8 (by decide)
  generalize (c >>> ((0 : Int32) &&& 31)) = a at *
  generalize (c >>> ((8 : Int32) &&& 31)) = b at *
  have a1 := c_i2b a
  have a2 := c_i2b a.toInt8.toInt32
  have b1 := c_i2b b
  have b2 := c_i2b b.toInt8.toInt32
  have a3 : ((a.toInt8.toInt32).toInt8.toInt32 &&& (255 : Int32)).toInt = (a.toInt8.toInt32).toInt8.toInt32.toInt % 256 := c_mask _ 255 8 (by decide) (by decide)
  have b3 : ((b.toInt8.toInt32).toInt8.toInt32 &&& (255 : Int32)).toInt = (b.toInt8.toInt32).toInt8.toInt32.toInt % 256 := c_mask _ 255 8 (by decide) (by decide)
  generalize ((a.toInt8.toInt32).toInt8.toInt32 &&& (255 : Int32)) = x at *
  generalize ((b.toInt8.toInt32).toInt8.toInt32 &&& (255 : Int32)) = y at *
  have hx : 0 ≤ x.toInt ∧ x.toInt < 256 := by omega
  have hy : 0 ≤ y.toInt ∧ y.toInt < 256 := by omega
  have xs : ((x <<< ((0 : Int32) &&& 31)).toInt - x.toInt * (2 ^ 0 : Nat)) % 4294967296 = 0 := c_ishl x 0 0 (by decide)
  have ys : ((y <<< ((8 : Int32) &&& 31)).toInt - y.toInt * (2 ^ 8 : Nat)) % 4294967296 = 0 := c_ishl y 8 8 (by decide)
  have bx := (x <<< ((0 : Int32) &&& 31)).le_toInt
  have bx' := (x <<< ((0 : Int32) &&& 31)).toInt_lt
  have bY := (y <<< ((8 : Int32) &&& 31)).le_toInt
  have bY' := (y <<< ((8 : Int32) &&& 31)).toInt_lt
  generalize (x <<< ((0 : Int32) &&& 31)) = u at *
  generalize (y <<< ((8 : Int32) &&& 31)) = v at *
  simp only [Int.reducePow, Int.reduceNeg, Nat.reducePow, Int.cast_ofNat_Int] at *
  have hu : u.toInt = x.toInt := by omega
  have hv : v.toInt = y.toInt * 256 := by omega
  have o := c_or' u v 8 (by decide) 256 rfl (by omega) (by omega) (by omega)
  have o1 := (u ||| v).le_toInt
  have o2 := (u ||| v).toInt_lt
  simp only [Int.reducePow, Int.reduceNeg] at o1 o2
  have e : (u ||| v) = c := Int32.toInt_inj.mp (by omega)
  have k := own_cc16 h
  simp only [e, k]
theorem own_rt16 {c : Int32} (h : 0 ≤ c.toInt ∧ c.toInt ≤ 65535) : nar .char (nar .char (own_g16 (own_b0 c) (own_b1 c))) = c := by
  rw [own_rtg h, own_narc, own_narc, own_cc16 h, own_cc16 h]
theorem own_sm {c : Int32} (h : 0 ≤ c.toInt ∧ c.toInt ≤ 65535) (u : ¬ (255 : Int32) < c) : 0 ≤ c.toInt ∧ c.toInt ≤ 255 := by
  rw [Int32.lt_iff_toInt_lt] at u
  simp only [Int32.reduceToInt] at u
  omega
theorem own_nat32 {p : Int32} (h : 0 ≤ p.toInt) : p.toNatClampNeg = p.toInt.toNat := by simp only [Int32.toNatClampNeg]
theorem own_btm {cs : List Int32} {p : Int32} (h : 0 ≤ p.toInt ∧ p.toInt < cs.length) (f : Int32 → Int32) : bt (cs.map f) p = f (bt cs p) := by
  unfold bt
  have hl : p.toNatClampNeg < cs.length := by rw [own_nat32 h.1]; omega
  simp [List.getD_eq_getElem?_getD, List.getElem?_map, List.getElem?_eq_getElem hl]
theorem own_btin {cs : List Int32} {p : Int32} (h : 0 ≤ p.toInt ∧ p.toInt < cs.length) : bt cs p ∈ cs := by
  unfold bt
  have hl : p.toNatClampNeg < cs.length := by rw [own_nat32 h.1]; omega
  simp [List.getD_eq_getElem?_getD, List.getElem?_eq_getElem hl]
theorem own_u16get : ∀ (cs : List Int32) (i : Nat), i < cs.length → (own_u16 cs).getD (2 * i) 0 = own_b0 (cs.getD i 0) ∧ (own_u16 cs).getD (2 * i + 1) 0 = own_b1 (cs.getD i 0)
  | [], i, h => absurd h (Nat.not_lt_zero _)
  | c :: r, 0, _ => ⟨rfl, rfl⟩
  | c :: r, i + 1, h => by
    have q := own_u16get r i (Nat.lt_of_succ_lt_succ h)
    rw [show 2 * (i + 1) = 2 * i + 1 + 1 from by omega]
    exact q
theorem own_ix {p z : Int32} {n : Nat} (h : 0 ≤ p.toInt ∧ p.toInt < n) (hz : z.toInt = 2 * n) : (p <<< ((1 : Int32) &&& 31)).toInt = 2 * p.toInt ∧ ((p <<< ((1 : Int32) &&& 31)) + (1 : Int32)).toInt = 2 * p.toInt + 1 := by
  have q : ((p <<< ((1 : Int32) &&& 31)).toInt - p.toInt * (2 ^ 1 : Nat)) % 4294967296 = 0 := c_ishl p 1 1 (by decide)
  have b1 := (p <<< ((1 : Int32) &&& 31)).le_toInt
  have b2 := (p <<< ((1 : Int32) &&& 31)).toInt_lt
  have a := c_iadd (p <<< ((1 : Int32) &&& 31)) 1
  have b3 := ((p <<< ((1 : Int32) &&& 31)) + (1 : Int32)).le_toInt
  have b4 := ((p <<< ((1 : Int32) &&& 31)) + (1 : Int32)).toInt_lt
  have z2 := z.toInt_lt
  simp only [Int.reducePow, Int.reduceNeg, Nat.reducePow, Int.cast_ofNat_Int, Int32.reduceToInt] at *
  generalize (p <<< ((1 : Int32) &&& 31)).toInt = u at *
  omega
theorem own_inz {w z : Int32} (h : 0 ≤ w.toInt) (q : w.toInt < z.toInt) : ¬ w < 0 ∧ w < z := by
  rw [Int32.lt_iff_toInt_lt, Int32.lt_iff_toInt_lt]; simp only [Int32.reduceToInt]; omega
theorem own_bt0 {cs : List Int32} {p w : Int32} (h : 0 ≤ p.toInt ∧ p.toInt < cs.length) (hw : w.toInt = 2 * p.toInt) : bt (own_u16 cs) w = own_b0 (bt cs p) := by
  unfold bt
  rw [own_nat32 (by omega), own_nat32 h.1, show w.toInt.toNat = 2 * p.toInt.toNat from by omega]
  exact (own_u16get cs _ (by omega)).1
theorem own_bt1 {cs : List Int32} {p w : Int32} (h : 0 ≤ p.toInt ∧ p.toInt < cs.length) (hw : w.toInt = 2 * p.toInt + 1) : bt (own_u16 cs) w = own_b1 (bt cs p) := by
  unfold bt
  rw [own_nat32 (by omega), own_nat32 h.1, show w.toInt.toNat = 2 * p.toInt.toNat + 1 from by omega]
  exact (own_u16get cs _ (by omega)).2
theorem own_len16 {z w : Int32} {n : Nat} (hz : z.toInt = 2 * n) (hw : w.toInt = n) : z >>> ((1 : Int32) &&& 31) = w := by
  have q : (z >>> ((1 : Int32) &&& 31)).toInt = z.toInt / (2 ^ 1 : Nat) := c_ishr z 1 1 (by decide)
  simp only [Nat.reducePow, Int.cast_ofNat_Int] at q
  exact Int32.toInt_inj.mp (by omega)
theorem own_hle {z : Int32} {n : Nat} (hz : z.toInt = 2 * n) : (z >>> ((1 : Int32) &&& 31)).toInt = n := by
  have q : (z >>> ((1 : Int32) &&& 31)).toInt = z.toInt / (2 ^ 1 : Nat) := c_ishr z 1 1 (by decide)
  simp only [Nat.reducePow, Int.cast_ofNat_Int] at q
  omega
theorem own_len8 {z w : Int32} {n : Nat} (hz : z.toInt = n) (hw : w.toInt = n) : z >>> ((0 : Int32) &&& 31) = w := by
  have q : (z >>> ((0 : Int32) &&& 31)).toInt = z.toInt / (2 ^ 0 : Nat) := c_ishr z 0 0 (by decide)
  simp only [Nat.reducePow, Int.cast_ofNat_Int] at q
  exact Int32.toInt_inj.mp (by omega)
theorem d35_0 : decode jdk_41_method_11_code 0 = .ok (.iload_n 0, 1) := by decide +kernel
theorem d35_1 : decode jdk_41_method_11_code 1 = .ok (.ifCond .lt 8, 3) := by decide +kernel
theorem d35_4 : decode jdk_41_method_11_code 4 = .ok (.iload_n 0, 1) := by decide +kernel
theorem d35_5 : decode jdk_41_method_11_code 5 = .ok (.iload_n 1, 1) := by decide +kernel
theorem d35_6 : decode jdk_41_method_11_code 6 = .ok (.if_icmp .lt 10, 3) := by decide +kernel
theorem d35_16 : decode jdk_41_method_11_code 16 = .ok (.iload_n 0, 1) := by decide +kernel
theorem d35_17 : decode jdk_41_method_11_code 17 = .ok (.ireturn, 1) := by decide +kernel
theorem pn_0 : plainName "jdk/internal/util/Preconditions" = true := by first | (simp [plainName, overriddenIn]; done) | decide +kernel
theorem ef_35v (m : MethodId) (p0 : Int32) (p1 : Int32) (v2 : Value) (hr_v2 : v2.isRef = true) : entryFrame m #[(.int p0), (.int p1), v2] 3 = mkF m 0 #[.val (.int p0), .val (.int p1), .val v2] [] := by
  rcases ref_cases hr_v2 with rfl | ⟨_, rfl⟩ <;> (first | (simp [entryFrame, mkF, argsToLocals, Value.category]; done) | rfl)
theorem rmPI (l : Launch) (Z : State) (az : Array Value) (hw : HW az Z) (ws : List Jvm.Cond) (p0 : Int32) (p1 : Int32) (v2 : Value)  (h0 : Heap) (n0 : Nat) (Z0 : n0 ≤ h0.size) (hr_v2 : v2.isRef = true) (h0' : ¬ p0 < (0 : Int32)) (h1' : p0 < p1) :
    MF l mN34 (Jvm.Cond.code mN34 jdk_41_method_11_code 3 (some .int) :: ws) (rO 0 0 0 0) #[(.int p0), (.int p1), v2] Z h0 (PQ (.int p0) n0 h0) := by
  refine MetFree.of_bodySF (plainFor_of_name pn_0) hisR ?_
  intro p e s m args below meth c s₁ Bd hml0 hP hK
  obtain ⟨rfl, hZ, hh⟩ := hP
  have hx := Bd.exec
  have hby := Bd.bytes
  have hlk : meth.locks = false := Bd.notSynchronized
  have hml : c.maxLocals = 3 := hml0
  have hown : s.vm.findClass "jdk/internal/util/Preconditions" = some m.cls := findClass_of_methodNamed Bd.named
  have X0 : Stand p l e (rO 0 0 0 0) s m #[(.int p0), (.int p1), v2] below meth c s₁ [] 0 0 := Stand.of_body Bd
  have e0 : s₁.heap = h0 := by rw [← hh, Bd.state]; rfl
  have N0 := Fr.nil n0
  show Go p e below s ((PQ (.int p0) n0 h0)) (rO 0 0 0 0).cells (rO 0 0 0 0).slots (s₁.setTop (entryFrame m #[(.int p0), (.int p1), v2] 3))
  rw [ef_35v m p0 p1 v2 hr_v2]
  refine Go.st (S' := s₁.setTop (mkF m 17 #[vi p0, vi p1, .val v2] [.int p0])) (fun _ kk => XS.iloadN X0.here hx rfl (hb hby d35_0) rfl (XS.ifNo X0.here hx rfl (hb hby d35_1) rfl ((if0 _ _).trans (flt h0').1) (XS.iloadN X0.here hx rfl (hb hby d35_4) rfl (XS.iloadN X0.here hx rfl (hb hby d35_5) rfl (XS.icmpYes X0.here hx rfl (pc0 := 6) (pc' := 16) rfl (hb hby d35_6) rfl (tlt h1').1 (by decide) (by decide) (XS.iloadN X0.here hx rfl (hb hby d35_16) rfl kk)))))) ?_
  exact Go.retI X0 hx hlk Bd.returns (hb hby d35_17) (⟨rfl, N0, e0⟩) (by decide) (by decide)
def Q_void (h0 : Heap) (n0 : Nat) (v : Option Value) (h : Heap) (L : List Loc) : Prop := v = none ∧ Fr n0 L ∧ h = h0
theorem d34_0 : decode jdk_42_method_155_code 0 = .ok (.iload_n 0, 1) := by decide +kernel
theorem d34_1 : decode jdk_42_method_155_code 1 = .ok (.iload_n 1, 1) := by decide +kernel
theorem d34_2 : decode jdk_42_method_155_code 2 = .ok (.getstatic 1053, 3) := by decide +kernel
theorem d34_5 : decode jdk_42_method_155_code 5 = .ok (.invokestatic 1059, 3) := by decide +kernel
theorem d34_8 : decode jdk_42_method_155_code 8 = .ok (.pop, 1) := by decide +kernel
theorem d34_9 : decode jdk_42_method_155_code 9 = .ok (.return_, 1) := by decide +kernel
theorem pn_1 : plainName "java/lang/String" = true := by first | (simp [plainName, overriddenIn]; done) | decide +kernel
theorem ef_34 (m : MethodId) (p0 : Int32) (p1 : Int32) : entryFrame m #[(.int p0), (.int p1)] 2 = mkF m 0 #[.val (.int p0), .val (.int p1)] [] := by first | (simp [entryFrame, mkF, argsToLocals, Value.category]; done) | rfl
theorem rmSI (l : Launch) (Z : State) (az : Array Value) (hw : HW az Z) (ws : List Jvm.Cond) (p0 : Int32) (p1 : Int32) (zc : Int32) (fm : Value) (h0 : Heap) (n0 : Nat) (Z0 : n0 ≤ h0.size) (S_C : tS0 Z h0 (.int zc)) (hzc : ¬ zc = 0) (S_F : tS1 Z h0 fm) (hfm : fm.isRef = true) (h0' : ¬ p0 < (0 : Int32)) (h1' : p0 < p1) :
    MF l mN22 (Jvm.Cond.code mN22 jdk_42_method_155_code 2 none :: ws) (rO 1 0 0 14) #[(.int p0), (.int p1)] Z h0 (Q_void h0 n0) := by
  refine MetFree.of_bodySF (plainFor_of_name pn_1) hisR ?_
  intro p e s m args below meth c s₁ Bd hml0 hP hK
  obtain ⟨rfl, hZ, hh⟩ := hP
  have hx := Bd.exec
  have hby := Bd.bytes
  have hlk : meth.locks = false := Bd.notSynchronized
  have hml : c.maxLocals = 2 := hml0
  have hown : s.vm.findClass "java/lang/String" = some m.cls := findClass_of_methodNamed Bd.named
  have X0 : Stand p l e (rO 1 0 0 14) s m #[(.int p0), (.int p1)] below meth c s₁ [] 0 0 := Stand.of_body Bd
  have e0 : s₁.heap = h0 := by rw [← hh, Bd.state]; rfl
  have N0 := Fr.nil n0
  show Go p e below s ((Q_void h0 n0)) (rO 1 0 0 14).cells (rO 1 0 0 14).slots (s₁.setTop (entryFrame m #[(.int p0), (.int p1)] 2))
  rw [ef_34 m p0 p1]
  refine Go.st (S' := s₁.setTop (mkF m 2 #[vi p0, vi p1] [.int p1, .int p0])) (fun _ kk => XS.iloadN X0.here hx rfl (hb hby d34_0) rfl (XS.iloadN X0.here hx rfl (hb hby d34_1) rfl kk)) ?_
  obtain ⟨T1, X1, e1, st1⟩ := getS2 X0 hx hZ hown (host := "") (Or.inl (ow hw 103 rfl)) Via.refl e0 S_F (g := (mkF m 2 #[vi p0, vi p1] [.int p1, .int p0])) rfl (hb hby d34_2)
  refine Go.st (S' := T1.setTop (mkF m 5 #[vi p0, vi p1] [fm, .int p1, .int p0])) st1 ?_
  obtain ⟨_, _, ⟨T2, L2, k2, n2⟩, -, X2, ⟨Lc2, hQ2, l2, y2, z2⟩, st2⟩ := Jvm.LawKit.callS X1 hx (y := mN34) hown (mvT hZ (ow hw 198 rfl)) (mvT hZ (ow hw 199 rfl)) (mvT hZ (ow hw 104 rfl)) (mvT hZ (ow hw 200 rfl)) (by decide) (backOf (W := 0) (rmPI l Z az hw [] p0 p1 fm h0 n0 Z0 hfm h0' h1') hZ (ow hw 200 rfl) (ow hw 104 rfl) (by decide) (by decide)) (g := (mkF m 5 #[vi p0, vi p1] [fm, .int p1, .int p0])) rfl (by rw [hml]; rfl) (argsL := [.int p0, .int p1, fm]) (rest := []) (lenOf pd_26 rfl) rfl (oW rfl rfl) (hb hby d34_5) (fun _ _ => ⟨rfl, e1, (by decide : 0 + 0 ≤ _), (by decide : 0 + 0 ≤ _)⟩)
  dsimp only [Pt.U, Pt.locs, Pt.cells, Pt.slots] at X2 l2 y2 z2 st2 hQ2
  rw [l2, y2, z2] at X2
  obtain ⟨hv2, N2q, e2⟩ := hQ2
  subst hv2
  have N2 := Fr.app N0 N2q
  refine Go.st (S' := T2.setTop (mkF m 9 #[vi p0, vi p1] [])) (fun _ kk => st2 _ (XS.pop X2.here hx rfl (hb hby d34_8) rfl rfl kk)) ?_
  exact Go.ret0 X2 hx hlk Bd.returns (hb hby d34_9) (⟨rfl, N2, e2⟩) (by decide) (by decide)
theorem d33_0 : decode jdk_43_method_2_code 0 = .ok (.iload_n 1, 1) := by decide +kernel
theorem d33_1 : decode jdk_43_method_2_code 1 = .ok (.aload_n 0, 1) := by decide +kernel
theorem d33_2 : decode jdk_43_method_2_code 2 = .ok (.arraylength, 1) := by decide +kernel
theorem d33_3 : decode jdk_43_method_2_code 3 = .ok (.invokestatic 9, 3) := by decide +kernel
theorem d33_6 : decode jdk_43_method_2_code 6 = .ok (.aload_n 0, 1) := by decide +kernel
theorem d33_7 : decode jdk_43_method_2_code 7 = .ok (.iload_n 1, 1) := by decide +kernel
theorem d33_8 : decode jdk_43_method_2_code 8 = .ok (.baload, 1) := by decide +kernel
theorem d33_9 : decode jdk_43_method_2_code 9 = .ok (.sipush 255, 3) := by decide +kernel
theorem d33_12 : decode jdk_43_method_2_code 12 = .ok (.iand, 1) := by decide +kernel
theorem d33_13 : decode jdk_43_method_2_code 13 = .ok (.i2c, 1) := by decide +kernel
theorem d33_14 : decode jdk_43_method_2_code 14 = .ok (.ireturn, 1) := by decide +kernel
theorem pn_2 : plainName "java/lang/StringLatin1" = true := by first | (simp [plainName, overriddenIn]; done) | decide +kernel
theorem ef_33 (m : MethodId) (a0 : Addr) (p1 : Int32) : entryFrame m #[(.ref a0), (.int p1)] 2 = mkF m 0 #[.val (.ref a0), .val (.int p1)] [] := by first | (simp [entryFrame, mkF, argsToLocals, Value.category]; done) | rfl
theorem rmL1 (l : Launch) (Z : State) (az : Array Value) (hw : HW az Z) (ws : List Jvm.Cond) (a0 : Addr) (p1 : Int32) (zc : Int32) (fm : Value) (k0 : ClassId) (z : Int32) (xs : List Int32) (h0 : Heap) (n0 : Nat) (Z0 : n0 ≤ h0.size) (S_C : tS0 Z h0 (.int zc)) (hzc : ¬ zc = 0) (S_F : tS1 Z h0 fm) (hfm : fm.isRef = true) (V_a0 : Arv Z h0 a0 k0 .byte z (xs.map .int) (.int 0)) (hi : ¬ p1 < 0 ∧ p1 < z) :
    MF l mN28 (Jvm.Cond.code mN28 jdk_43_method_2_code 2 (some .char) :: ws) (rO 2 0 0 27) #[(.ref a0), (.int p1)] Z h0 (PQ (.int (own_l8 (bt xs p1))) n0 h0) := by
  refine MetFree.of_bodySF (plainFor_of_name pn_2) hisR ?_
  intro p e s m args below meth c s₁ Bd hml0 hP hK
  obtain ⟨rfl, hZ, hh⟩ := hP
  have hx := Bd.exec
  have hby := Bd.bytes
  have hlk : meth.locks = false := Bd.notSynchronized
  have hml : c.maxLocals = 2 := hml0
  have hown : s.vm.findClass "java/lang/StringLatin1" = some m.cls := findClass_of_methodNamed Bd.named
  have X0 : Stand p l e (rO 2 0 0 27) s m #[(.ref a0), (.int p1)] below meth c s₁ [] 0 0 := Stand.of_body Bd
  have e0 : s₁.heap = h0 := by rw [← hh, Bd.state]; rfl
  have N0 := Fr.nil n0
  show Go p e below s ((PQ (.int (own_l8 (bt xs p1))) n0 h0)) (rO 2 0 0 27).cells (rO 2 0 0 27).slots (s₁.setTop (entryFrame m #[(.ref a0), (.int p1)] 2))
  rw [ef_33 m a0 p1]
  refine Go.st (S' := s₁.setTop (mkF m 2 #[vr a0, vi p1] [.ref a0, .int p1])) (fun _ kk => XS.iloadN X0.here hx rfl (hb hby d33_0) rfl (XS.aloadN X0.here hx rfl (hb hby d33_1) rfl rfl kk)) ?_
  obtain ⟨cl1, Ar1, -, S1, Ng1, -, -⟩ := (id V_a0)
  refine Go.st (S' := s₁.setTop (mkF m 3 #[vr a0, vi p1] [.int z, .int p1])) (fun _ kk => X0.arraylength hx (by rw [e0]; exact Ar1.1) (State.isArrayOf_alike hZ.alike Ar1.2.1) (g := (mkF m 2 #[vr a0, vi p1] [.ref a0, .int p1])) rfl rfl (hb hby d33_2) _ (by rw [len_of S1 Ng1]; exact kk)) ?_
  obtain ⟨_, _, ⟨T2, L2, k2, n2⟩, -, X2, ⟨Lc2, hQ2, l2, y2, z2⟩, st2⟩ := Jvm.LawKit.callS X0 hx (y := mN22) hown (mvT hZ (ow hw 195 rfl)) (mvT hZ (ow hw 196 rfl)) (mvT hZ (ow hw 58 rfl)) (mvT hZ (ow hw 197 rfl)) (by decide) (backOf (W := 0) (rmSI l Z az hw [] p1 z zc fm h0 n0 Z0 S_C hzc S_F hfm  hi.1 hi.2) hZ (ow hw 197 rfl) (ow hw 58 rfl) (by decide) (by decide)) (g := (mkF m 3 #[vr a0, vi p1] [.int z, .int p1])) rfl (by rw [hml]; rfl) (argsL := [.int p1, .int z]) (rest := []) (lenOf pd_17 rfl) rfl (oW rfl rfl) (hb hby d33_3) (fun _ _ => ⟨rfl, e0, (by decide : 0 + 0 ≤ _), (by decide : 0 + 0 ≤ _)⟩)
  dsimp only [Pt.U, Pt.locs, Pt.cells, Pt.slots] at X2 l2 y2 z2 st2 hQ2
  rw [l2, y2, z2] at X2
  obtain ⟨rfl, N2q, e2⟩ := hQ2
  have N2 := Fr.app N0 N2q
  refine Go.st (S' := T2.setTop (mkF m 8 #[vr a0, vi p1] [.int p1, .ref a0])) (fun _ kk => st2 _ (XS.aloadN X2.here hx rfl (hb hby d33_6) rfl rfl (XS.iloadN X2.here hx rfl (hb hby d33_7) rfl kk))) ?_
  obtain ⟨cl3, Ar3, qk3, S3, Ng3, H3, G3⟩ := (id V_a0)
  have hin3 : ¬ (p1 < 0 ∨ cl3.slots.size ≤ (p1).toNatClampNeg) := inb_of S3 hi
  have hat3 : cl3.slots[(p1).toNatClampNeg]? = some (.int (bt xs p1)) := own_at H3 hin3
  refine Go.st (S' := T2.setTop (mkF m 14 #[vr a0, vi p1] [.int (((bt xs p1) &&& (255 : Int32)).toUInt32.toUInt16.toUInt32.toInt32)])) (fun _ kk => X2.baloadBytes hx (j := p1) (v := (.int (bt xs p1))) (by rw [e2]; exact Ar3.1) (State.isArrayOf_alike hZ.alike Ar3.2.1) Ar3.2.2 hin3 hat3 (g := (mkF m 8 #[vr a0, vi p1] [.int p1, .ref a0])) rfl rfl (hb hby d33_8) _ (XS.sipush X2.here hx rfl (hb hby d33_9) (XS.iand X2.here hx rfl (hb hby d33_12) rfl (XS.i2c X2.here hx rfl (hb hby d33_13) rfl kk)))) ?_
  exact Go.retN X2 hx hlk (t := .char) Bd.returns (by simp) (hb hby d33_14) (⟨rfl, N2, e2⟩) (by decide) (by decide)
theorem d32_0 : decode jdk_42_method_154_code 0 = .ok (.getstatic 38, 3) := by decide +kernel
theorem d32_3 : decode jdk_42_method_154_code 3 = .ok (.ifCond .eq 14, 3) := by decide +kernel
theorem d32_6 : decode jdk_42_method_154_code 6 = .ok (.aload_n 0, 1) := by decide +kernel
theorem d32_7 : decode jdk_42_method_154_code 7 = .ok (.getfield 15, 3) := by decide +kernel
theorem d32_10 : decode jdk_42_method_154_code 10 = .ok (.ifCond .ne 7, 3) := by decide +kernel
theorem d32_13 : decode jdk_42_method_154_code 13 = .ok (.iconst 1, 1) := by decide +kernel
theorem d32_14 : decode jdk_42_method_154_code 14 = .ok (.goto 4, 3) := by decide +kernel
theorem d32_18 : decode jdk_42_method_154_code 18 = .ok (.ireturn, 1) := by decide +kernel
theorem ef_32 (m : MethodId) (a0 : Addr) : entryFrame m #[(.ref a0)] 1 = mkF m 0 #[.val (.ref a0)] [] := by first | (simp [entryFrame, mkF, argsToLocals, Value.category]; done) | rfl
theorem rmIL0 (l : Launch) (Z : State) (az : Array Value) (hw : HW az Z) (ws : List Jvm.Cond) (a0 : Addr) (zc : Int32) (fm : Value) (h0 : Heap) (n0 : Nat) (Z0 : n0 ≤ h0.size) (S_C : tS0 Z h0 (.int zc)) (hzc : ¬ zc = 0) (S_F : tS1 Z h0 fm) (hfm : fm.isRef = true) (F_c : tF0 Z h0 a0 (.int 0)) :
    MF l mN24 (Jvm.Cond.code mN24 jdk_42_method_154_code 1 (some .boolean) :: ws) (rO 0 0 0 0) #[(.ref a0)] Z h0 (PQ (.int 1) n0 h0) := by
  refine MetFree.of_bodySF (plainFor_of_name pn_1) hisR ?_
  intro p e s m args below meth c s₁ Bd hml0 hP hK
  obtain ⟨rfl, hZ, hh⟩ := hP
  have hx := Bd.exec
  have hby := Bd.bytes
  have hlk : meth.locks = false := Bd.notSynchronized
  have hml : c.maxLocals = 1 := hml0
  have hown : s.vm.findClass "java/lang/String" = some m.cls := findClass_of_methodNamed Bd.named
  have X0 : Stand p l e (rO 0 0 0 0) s m #[(.ref a0)] below meth c s₁ [] 0 0 := Stand.of_body Bd
  have e0 : s₁.heap = h0 := by rw [← hh, Bd.state]; rfl
  have N0 := Fr.nil n0
  show Go p e below s ((PQ (.int 1) n0 h0)) (rO 0 0 0 0).cells (rO 0 0 0 0).slots (s₁.setTop (entryFrame m #[(.ref a0)] 1))
  rw [ef_32 m a0]
  obtain ⟨T1, X1, e1, st1⟩ := getS2 X0 hx hZ hown (host := "") (Or.inl (ow hw 118 rfl)) Via.refl e0 S_C (g := (mkF m 0 #[vr a0] [])) rfl (hb hby d32_0)
  refine Go.st (S' := T1.setTop (mkF m 7 #[vr a0] [.ref a0])) (fun _ kk => st1 _ (XS.ifNo X1.here hx rfl (hb hby d32_3) rfl ((if0 _ _).trans (feq hzc).1) (XS.aloadN X1.here hx rfl (hb hby d32_6) rfl rfl kk))) ?_
  obtain ⟨T2, X2, e2, st2⟩ := getF X1 hx hZ hown (host := "") (Or.inl (ow hw 142 rfl)) Via.refl e1 F_c (g := (mkF m 7 #[vr a0] [.ref a0])) rfl rfl (hb hby d32_7)
  refine Go.st (S' := T2.setTop (mkF m 18 #[vr a0] [.int 1])) (fun _ kk => st2 _ (XS.ifNo X2.here hx rfl (hb hby d32_10) rfl ((if0 _ _).trans (teq (by decide : (0 : Int32) = (0 : Int32))).2) (XS.iconst X2.here hx rfl (hb hby d32_13) (XS.goto X2.here hx rfl (pc0 := 14) (pc' := 18) rfl (hb hby d32_14) (by decide) (by decide) kk)))) ?_
  exact Go.retN X2 hx hlk (t := .boolean) Bd.returns (by simp) (hb hby d32_18) (⟨rfl, N0, e2⟩) (by decide) (by decide)
theorem d29_0 : decode jdk_42_method_152_code 0 = .ok (.getstatic 38, 3) := by decide +kernel
theorem d29_3 : decode jdk_42_method_152_code 3 = .ok (.ifCond .eq 10, 3) := by decide +kernel
theorem d29_6 : decode jdk_42_method_152_code 6 = .ok (.aload_n 0, 1) := by decide +kernel
theorem d29_7 : decode jdk_42_method_152_code 7 = .ok (.getfield 15, 3) := by decide +kernel
theorem d29_10 : decode jdk_42_method_152_code 10 = .ok (.goto 4, 3) := by decide +kernel
theorem d29_14 : decode jdk_42_method_152_code 14 = .ok (.ireturn, 1) := by decide +kernel
theorem ef_29 (m : MethodId) (a0 : Addr) : entryFrame m #[(.ref a0)] 1 = mkF m 0 #[.val (.ref a0)] [] := by first | (simp [entryFrame, mkF, argsToLocals, Value.category]; done) | rfl
theorem rmCo0 (l : Launch) (Z : State) (az : Array Value) (hw : HW az Z) (ws : List Jvm.Cond) (a0 : Addr) (zc : Int32) (fm : Value) (h0 : Heap) (n0 : Nat) (Z0 : n0 ≤ h0.size) (S_C : tS0 Z h0 (.int zc)) (hzc : ¬ zc = 0) (S_F : tS1 Z h0 fm) (hfm : fm.isRef = true) (F_c : tF0 Z h0 a0 (.int 0)) :
    MF l mN23 (Jvm.Cond.code mN23 jdk_42_method_152_code 1 (some .byte) :: ws) (rO 0 0 0 0) #[(.ref a0)] Z h0 (PQ (.int 0) n0 h0) := by
  refine MetFree.of_bodySF (plainFor_of_name pn_1) hisR ?_
  intro p e s m args below meth c s₁ Bd hml0 hP hK
  obtain ⟨rfl, hZ, hh⟩ := hP
  have hx := Bd.exec
  have hby := Bd.bytes
  have hlk : meth.locks = false := Bd.notSynchronized
  have hml : c.maxLocals = 1 := hml0
  have hown : s.vm.findClass "java/lang/String" = some m.cls := findClass_of_methodNamed Bd.named
  have X0 : Stand p l e (rO 0 0 0 0) s m #[(.ref a0)] below meth c s₁ [] 0 0 := Stand.of_body Bd
  have e0 : s₁.heap = h0 := by rw [← hh, Bd.state]; rfl
  have N0 := Fr.nil n0
  show Go p e below s ((PQ (.int 0) n0 h0)) (rO 0 0 0 0).cells (rO 0 0 0 0).slots (s₁.setTop (entryFrame m #[(.ref a0)] 1))
  rw [ef_29 m a0]
  obtain ⟨T1, X1, e1, st1⟩ := getS2 X0 hx hZ hown (host := "") (Or.inl (ow hw 118 rfl)) Via.refl e0 S_C (g := (mkF m 0 #[vr a0] [])) rfl (hb hby d29_0)
  refine Go.st (S' := T1.setTop (mkF m 7 #[vr a0] [.ref a0])) (fun _ kk => st1 _ (XS.ifNo X1.here hx rfl (hb hby d29_3) rfl ((if0 _ _).trans (feq hzc).1) (XS.aloadN X1.here hx rfl (hb hby d29_6) rfl rfl kk))) ?_
  obtain ⟨T2, X2, e2, st2⟩ := getF X1 hx hZ hown (host := "") (Or.inl (ow hw 142 rfl)) Via.refl e1 F_c (g := (mkF m 7 #[vr a0] [.ref a0])) rfl rfl (hb hby d29_7)
  refine Go.st (S' := T2.setTop (mkF m 14 #[vr a0] [.int 0])) (fun _ kk => st2 _ (XS.goto X2.here hx rfl (pc0 := 10) (pc' := 14) rfl (hb hby d29_10) (by decide) (by decide) kk)) ?_
  exact Go.retN X2 hx hlk (t := .byte) Bd.returns (by simp) (hb hby d29_14) (⟨rfl, N0, e2⟩) (by decide) (by decide)
theorem d28_0 : decode jdk_42_method_54_code 0 = .ok (.aload_n 0, 1) := by decide +kernel
theorem d28_1 : decode jdk_42_method_54_code 1 = .ok (.getfield 9, 3) := by decide +kernel
theorem d28_4 : decode jdk_42_method_54_code 4 = .ok (.arraylength, 1) := by decide +kernel
theorem d28_5 : decode jdk_42_method_54_code 5 = .ok (.aload_n 0, 1) := by decide +kernel
theorem d28_6 : decode jdk_42_method_54_code 6 = .ok (.invokevirtual 335, 3) := by decide +kernel
theorem d28_9 : decode jdk_42_method_54_code 9 = .ok (.ishr, 1) := by decide +kernel
theorem d28_10 : decode jdk_42_method_54_code 10 = .ok (.ireturn, 1) := by decide +kernel
theorem ef_28 (m : MethodId) (a0 : Addr) : entryFrame m #[(.ref a0)] 1 = mkF m 0 #[.val (.ref a0)] [] := by first | (simp [entryFrame, mkF, argsToLocals, Value.category]; done) | rfl
theorem rmLn (l : Launch) (Z : State) (az : Array Value) (hw : HW az Z) (ws : List Jvm.Cond) (a0 : Addr) (zc : Int32) (fm : Value) (cs : List Int32) (ln : Int32) (h0 : Heap) (n0 : Nat) (Z0 : n0 ≤ h0.size) (S_C : tS0 Z h0 (.int zc)) (hzc : ¬ zc = 0) (S_F : tS1 Z h0 fm) (hfm : fm.isRef = true) (CS : CSt Z h0 a0 cs) (hln : ln.toInt = cs.length) :
    MF l mN25 (Jvm.Cond.code mN25 jdk_42_method_54_code 1 (some .int) :: ws) (rO 1 0 0 13) #[(.ref a0)] Z h0 (PQ (.int ln) n0 h0) := by
  refine MetFree.of_bodySF (plainFor_of_name pn_1) hisR ?_
  intro p e s m args below meth c s₁ Bd hml0 hP hK
  obtain ⟨rfl, hZ, hh⟩ := hP
  have hx := Bd.exec
  have hby := Bd.bytes
  have hlk : meth.locks = false := Bd.notSynchronized
  have hml : c.maxLocals = 1 := hml0
  have hown : s.vm.findClass "java/lang/String" = some m.cls := findClass_of_methodNamed Bd.named
  have X0 : Stand p l e (rO 1 0 0 13) s m #[(.ref a0)] below meth c s₁ [] 0 0 := Stand.of_body Bd
  have e0 : s₁.heap = h0 := by rw [← hh, Bd.state]; rfl
  have N0 := Fr.nil n0
  show Go p e below s ((PQ (.int ln) n0 h0)) (rO 1 0 0 13).cells (rO 1 0 0 13).slots (s₁.setTop (entryFrame m #[(.ref a0)] 1))
  rw [ef_28 m a0]
  obtain ⟨E_a0, cd, da, ka, za, xs, FC_a0, FV_a0, V_da, hcod⟩ := CS
  obtain ⟨rfl, hza, rfl, hbd⟩ := hcod
  refine Go.st (S' := s₁.setTop (mkF m 1 #[vr a0] [.ref a0])) (fun _ kk => XS.aloadN X0.here hx rfl (hb hby d28_0) rfl rfl kk) ?_
  obtain ⟨T1, X1, e1, st1⟩ := getF X0 hx hZ hown (host := "") (Or.inl (ow hw 141 rfl)) Via.refl e0 FV_a0 (g := (mkF m 1 #[vr a0] [.ref a0])) rfl rfl (hb hby d28_1)
  refine Go.st (S' := T1.setTop (mkF m 4 #[vr a0] [.ref da])) st1 ?_
  obtain ⟨cl2, Ar2, -, S2, Ng2, -, -⟩ := (id V_da)
  refine Go.st (S' := T1.setTop (mkF m 5 #[vr a0] [.int za])) (fun _ kk => X1.arraylength hx (by rw [e1]; exact Ar2.1) (State.isArrayOf_alike hZ.alike Ar2.2.1) (g := (mkF m 4 #[vr a0] [.ref da])) rfl rfl (hb hby d28_4) _ (by rw [len_of S2 Ng2]; exact kk)) ?_
  refine Go.st (S' := T1.setTop (mkF m 6 #[vr a0] [.ref a0, .int za])) (fun _ kk => XS.aloadN X1.here hx rfl (hb hby d28_5) rfl rfl kk) ?_
  obtain ⟨cq3, kq3, q3a, q3b, q3c⟩ := isOf hZ e1 E_a0
  obtain ⟨_, _, ⟨T3, L3, k3, n3⟩, -, X3, ⟨Lc3, hQ3, l3, y3, z3⟩, st3⟩ := X1.virtualBack hx (y := mN23) (z := mN23) hown (mvT hZ (ow hw 173 rfl)) (mvT hZ (ow hw 174 rfl)) (notFace_of_selects (args := #[]) (mvT hZ (ow hw 176 rfl))) (mvT hZ (ow hw 176 rfl)) (mvT hZ (ow hw 175 rfl)) (by decide) (backOf (W := 1) (rmCo0 l Z az hw [] a0 zc fm h0 n0 Z0 S_C hzc S_F hfm  FC_a0) hZ (ow hw 177 rfl) (ow hw 58 rfl) (by decide) (by decide)) q3a q3c (g := (mkF m 6 #[vr a0] [.ref a0, .int za])) rfl (by rw [hml]; rfl) (Steps.refl _) (argsL := []) (rest := [.int za]) (lenOf pd_21 rfl) rfl (oW rfl rfl) (hb hby d28_6) (fun _ _ => ⟨rfl, e1, (by decide : 0 + 0 ≤ _), (by decide : 0 + 0 ≤ _)⟩)
  dsimp only [Pt.U, Pt.locs, Pt.cells, Pt.slots] at X3 l3 y3 z3 st3 hQ3
  rw [l3, y3, z3] at X3
  obtain ⟨hv3, N3q, e3⟩ := hQ3
  subst hv3
  have N3 := Fr.app N0 N3q
  refine Go.st (S' := T3.setTop (mkF m 10 #[vr a0] [.int (za >>> ((0 : Int32) &&& 31))])) (fun _ kk => st3.trans (XS.ishr X3.here hx rfl (hb hby d28_9) rfl kk)) ?_
  exact Go.retI X3 hx hlk Bd.returns (hb hby d28_10) (⟨congrArg (fun q => some (Value.int q)) (own_len8 hza hln), N3, e3⟩) (by decide) (by decide)
theorem d31_0 : decode jdk_42_method_56_code 0 = .ok (.aload_n 0, 1) := by decide +kernel
theorem d31_1 : decode jdk_42_method_56_code 1 = .ok (.invokevirtual 492, 3) := by decide +kernel
theorem d31_4 : decode jdk_42_method_56_code 4 = .ok (.ifCond .eq 12, 3) := by decide +kernel
theorem d31_7 : decode jdk_42_method_56_code 7 = .ok (.aload_n 0, 1) := by decide +kernel
theorem d31_8 : decode jdk_42_method_56_code 8 = .ok (.getfield 9, 3) := by decide +kernel
theorem d31_11 : decode jdk_42_method_56_code 11 = .ok (.iload_n 1, 1) := by decide +kernel
theorem d31_12 : decode jdk_42_method_56_code 12 = .ok (.invokestatic 495, 3) := by decide +kernel
theorem d31_15 : decode jdk_42_method_56_code 15 = .ok (.ireturn, 1) := by decide +kernel
theorem ef_31 (m : MethodId) (a0 : Addr) (p1 : Int32) : entryFrame m #[(.ref a0), (.int p1)] 2 = mkF m 0 #[.val (.ref a0), .val (.int p1)] [] := by first | (simp [entryFrame, mkF, argsToLocals, Value.category]; done) | rfl
theorem rmCa (l : Launch) (Z : State) (az : Array Value) (hw : HW az Z) (ws : List Jvm.Cond) (a0 : Addr) (p1 : Int32) (zc : Int32) (fm : Value) (cs : List Int32) (h0 : Heap) (n0 : Nat) (Z0 : n0 ≤ h0.size) (S_C : tS0 Z h0 (.int zc)) (hzc : ¬ zc = 0) (S_F : tS1 Z h0 fm) (hfm : fm.isRef = true) (CS : CSt Z h0 a0 cs) (hi : 0 ≤ p1.toInt ∧ p1.toInt < cs.length) :
    MF l mN20 (Jvm.Cond.code mN20 jdk_42_method_56_code 2 (some .char) :: ws) (rO 4 0 0 53) #[(.ref a0), (.int p1)] Z h0 (PQ (.int (bt cs p1)) n0 h0) := by
  refine MetFree.of_bodySF (plainFor_of_name pn_1) hisR ?_
  intro p e s m args below meth c s₁ Bd hml0 hP hK
  obtain ⟨rfl, hZ, hh⟩ := hP
  have hx := Bd.exec
  have hby := Bd.bytes
  have hlk : meth.locks = false := Bd.notSynchronized
  have hml : c.maxLocals = 2 := hml0
  have hown : s.vm.findClass "java/lang/String" = some m.cls := findClass_of_methodNamed Bd.named
  have X0 : Stand p l e (rO 4 0 0 53) s m #[(.ref a0), (.int p1)] below meth c s₁ [] 0 0 := Stand.of_body Bd
  have e0 : s₁.heap = h0 := by rw [← hh, Bd.state]; rfl
  have N0 := Fr.nil n0
  show Go p e below s ((PQ (.int (bt cs p1)) n0 h0)) (rO 4 0 0 53).cells (rO 4 0 0 53).slots (s₁.setTop (entryFrame m #[(.ref a0), (.int p1)] 2))
  rw [ef_31 m a0 p1]
  obtain ⟨E_a0, cd, da, ka, za, xs, FC_a0, FV_a0, V_da, hcod⟩ := CS
  obtain ⟨rfl, hza, rfl, hbd⟩ := hcod
  have hix := own_inz hi.1 (show p1.toInt < za.toInt from by omega)
  have hv : nar .char (own_l8 (bt (cs.map own_lo8) p1)) = bt cs p1 := by rw [own_btm hi]; exact own_rt8 (hbd _ (own_btin hi))
  refine Go.st (S' := s₁.setTop (mkF m 1 #[vr a0, vi p1] [.ref a0])) (fun _ kk => XS.aloadN X0.here hx rfl (hb hby d31_0) rfl rfl kk) ?_
  obtain ⟨cq1, kq1, q1a, q1b, q1c⟩ := isOf hZ e0 E_a0
  obtain ⟨_, _, ⟨T1, L1, k1, n1⟩, -, X1, ⟨Lc1, hQ1, l1, y1, z1⟩, st1⟩ := X0.virtualBack hx (y := mN24) (z := mN24) hown (mvT hZ (ow hw 186 rfl)) (mvT hZ (ow hw 187 rfl)) (notFace_of_selects (args := #[]) (mvT hZ (ow hw 189 rfl))) (mvT hZ (ow hw 189 rfl)) (mvT hZ (ow hw 188 rfl)) (by decide) (backOf (W := 0) (rmIL0 l Z az hw [] a0 zc fm h0 n0 Z0 S_C hzc S_F hfm  FC_a0) hZ (ow hw 190 rfl) (ow hw 58 rfl) (by decide) (by decide)) q1a q1c (g := (mkF m 1 #[vr a0, vi p1] [.ref a0])) rfl (by rw [hml]; rfl) (Steps.refl _) (argsL := []) (rest := []) (lenOf pd_24 rfl) rfl (oW rfl rfl) (hb hby d31_1) (fun _ _ => ⟨rfl, e0, (by decide : 0 + 0 ≤ _), (by decide : 0 + 0 ≤ _)⟩)
  dsimp only [Pt.U, Pt.locs, Pt.cells, Pt.slots] at X1 l1 y1 z1 st1 hQ1
  rw [l1, y1, z1] at X1
  obtain ⟨hv1, N1q, e1⟩ := hQ1
  subst hv1
  have N1 := Fr.app N0 N1q
  refine Go.st (S' := T1.setTop (mkF m 8 #[vr a0, vi p1] [.ref a0])) (fun _ kk => st1.trans (XS.ifNo X1.here hx rfl (hb hby d31_4) rfl ((if0 _ _).trans (feq (by decide : ¬ ((1 : Int32) = (0 : Int32)))).1) (XS.aloadN X1.here hx rfl (hb hby d31_7) rfl rfl kk))) ?_
  obtain ⟨T2, X2, e2, st2⟩ := getF X1 hx hZ hown (host := "") (Or.inl (ow hw 141 rfl)) Via.refl e1 FV_a0 (g := (mkF m 8 #[vr a0, vi p1] [.ref a0])) rfl rfl (hb hby d31_8)
  refine Go.st (S' := T2.setTop (mkF m 12 #[vr a0, vi p1] [.int p1, .ref da])) (fun _ kk => st2 _ (XS.iloadN X2.here hx rfl (hb hby d31_11) rfl kk)) ?_
  obtain ⟨_, _, ⟨T3, L3, k3, n3⟩, -, X3, ⟨Lc3, hQ3, l3, y3, z3⟩, st3⟩ := Jvm.LawKit.callS X2 hx (y := mN28) hown (mvT hZ (ow hw 191 rfl)) (mvT hZ (ow hw 192 rfl)) (mvT hZ (ow hw 193 rfl)) (mvT hZ (ow hw 194 rfl)) (by decide) (backOf (W := 0) (rmL1 l Z az hw [] da p1 zc fm ka za (cs.map own_lo8) h0 n0 Z0 S_C hzc S_F hfm  V_da hix) hZ (ow hw 194 rfl) (ow hw 193 rfl) (by decide) (by decide)) (g := (mkF m 12 #[vr a0, vi p1] [.int p1, .ref da])) rfl (by rw [hml]; rfl) (argsL := [.ref da, .int p1]) (rest := []) (lenOf pd_25 rfl) rfl (oW rfl rfl) (hb hby d31_12) (fun _ _ => ⟨rfl, e2, (by decide : 0 + 0 ≤ _), (by decide : 0 + 0 ≤ _)⟩)
  dsimp only [Pt.U, Pt.locs, Pt.cells, Pt.slots] at X3 l3 y3 z3 st3 hQ3
  rw [l3, y3, z3] at X3
  obtain ⟨hv3, N3q, e3⟩ := hQ3
  subst hv3
  have N3 := Fr.app N1 N3q
  refine Go.st (S' := T3.setTop (mkF m 15 #[vr a0, vi p1] [.int (own_l8 (bt (cs.map own_lo8) p1))])) st3 ?_
  exact Go.retN X3 hx hlk (t := .char) Bd.returns (by simp) (hb hby d31_15) (⟨congrArg (fun q => some (Value.int q)) hv, N3, e3⟩) (by decide) (by decide)
def fMin (p0 : Int32) (p1 : Int32) : Int32 := (if p1 < p0 then p1 else p0)
theorem d3_0 : decode jdk_29_method_69_code 0 = .ok (.iload_n 0, 1) := by decide +kernel
theorem d3_1 : decode jdk_29_method_69_code 1 = .ok (.iload_n 1, 1) := by decide +kernel
theorem d3_2 : decode jdk_29_method_69_code 2 = .ok (.if_icmp .gt 7, 3) := by decide +kernel
theorem d3_5 : decode jdk_29_method_69_code 5 = .ok (.iload_n 0, 1) := by decide +kernel
theorem d3_6 : decode jdk_29_method_69_code 6 = .ok (.goto 4, 3) := by decide +kernel
theorem d3_9 : decode jdk_29_method_69_code 9 = .ok (.iload_n 1, 1) := by decide +kernel
theorem d3_10 : decode jdk_29_method_69_code 10 = .ok (.ireturn, 1) := by decide +kernel
theorem pf_3 : plainFor mN17 = true := by decide +kernel
theorem ef_3 (m : MethodId) (p0 : Int32) (p1 : Int32) : entryFrame m #[(.int p0), (.int p1)] 2 = mkF m 0 #[.val (.int p0), .val (.int p1)] [] := by first | (simp [entryFrame, mkF, argsToLocals, Value.category]; done) | rfl
theorem rmMin (l : Launch) (Z : State) (az : Array Value) (hw : HW az Z) (ws : List Jvm.Cond) (p0 : Int32) (p1 : Int32)  (h0 : Heap) (n0 : Nat) (Z0 : n0 ≤ h0.size)  :
    MF l mN17 (Jvm.Cond.code mN17 jdk_29_method_69_code 2 (some .int) :: ws) (rO 0 0 0 0) #[(.int p0), (.int p1)] Z h0 (PQ (.int (fMin p0 p1)) n0 h0) := by
  refine MetFree.of_bodySF pf_3 hisR ?_
  intro p e s m args below meth c s₁ Bd hml0 hP hK
  obtain ⟨rfl, hZ, hh⟩ := hP
  have hx := Bd.exec
  have hby := Bd.bytes
  have hlk : meth.locks = false := Bd.notSynchronized
  have hml : c.maxLocals = 2 := hml0
  have hown : s.vm.findClass "java/lang/Math" = some m.cls := findClass_of_methodNamed Bd.named
  have X0 : Stand p l e (rO 0 0 0 0) s m #[(.int p0), (.int p1)] below meth c s₁ [] 0 0 := Stand.of_body Bd
  have e0 : s₁.heap = h0 := by rw [← hh, Bd.state]; rfl
  have N0 := Fr.nil n0
  show Go p e below s ((PQ (.int (fMin p0 p1)) n0 h0)) (rO 0 0 0 0).cells (rO 0 0 0 0).slots (s₁.setTop (entryFrame m #[(.int p0), (.int p1)] 2))
  rw [ef_3 m p0 p1]
  refine Go.st (S' := s₁.setTop (mkF m 2 #[vi p0, vi p1] [.int p1, .int p0])) (fun _ kk => XS.iloadN X0.here hx rfl (hb hby d3_0) rfl (XS.iloadN X0.here hx rfl (hb hby d3_1) rfl kk)) ?_
  by_cases hc1 : p1 < p0
  · refine Go.st (S' := s₁.setTop (mkF m 10 #[vi p0, vi p1] [.int p1])) (fun _ kk => XS.icmpYes X0.here hx rfl (pc0 := 2) (pc' := 9) rfl (hb hby d3_2) rfl (tlt hc1).2.2.1 (by decide) (by decide) (XS.iloadN X0.here hx rfl (hb hby d3_9) rfl kk)) ?_
    exact Go.retI X0 hx hlk Bd.returns (hb hby d3_10) (⟨congrArg (fun q => some (Value.int q)) (Eq.symm (show fMin p0 p1 = p1 from by unfold fMin; rw [if_pos hc1])), N0, e0⟩) (by decide) (by decide)
  · refine Go.st (S' := s₁.setTop (mkF m 10 #[vi p0, vi p1] [.int p0])) (fun _ kk => XS.icmpNo X0.here hx rfl (hb hby d3_2) rfl (flt hc1).2.2.1 (XS.iloadN X0.here hx rfl (hb hby d3_5) rfl (XS.goto X0.here hx rfl (pc0 := 6) (pc' := 10) rfl (hb hby d3_6) (by decide) (by decide) kk))) ?_
    exact Go.retI X0 hx hlk Bd.returns (hb hby d3_10) (⟨congrArg (fun q => some (Value.int q)) (Eq.symm (show fMin p0 p1 = p0 from by unfold fMin; rw [if_neg hc1])), N0, e0⟩) (by decide) (by decide)
/-- the bytes from a up to b -/
def own_sl (bs : List Int32) (a b : Int32) : List Int32 := (bs.drop a.toInt.toNat).take (b.toInt - a.toInt).toNat
theorem own_lim {a b : Int32} {n : Nat} {z : Int32} (hz : z.toInt = n) (h : 0 ≤ a.toInt ∧ 0 ≤ b.toInt ∧ a.toInt + b.toInt ≤ n) : (a + b).toInt = a.toInt + b.toInt := by
  have q := c_iadd a b
  have z1 := z.toInt_lt
  have h1 := (a + b).le_toInt
  have h2 := (a + b).toInt_lt
  simp only [Int.reducePow, Int.reduceNeg] at *
  omega
theorem own_dif {a b : Int32} {n : Nat} {z : Int32} (hz : z.toInt = n) (h : 0 ≤ a.toInt ∧ a.toInt ≤ b.toInt ∧ b.toInt ≤ n) : (b - a).toInt = b.toInt - a.toInt := by
  have q := c_isub b a
  have z1 := z.toInt_lt
  have h1 := (b - a).le_toInt
  have h2 := (b - a).toInt_lt
  simp only [Int.reducePow, Int.reduceNeg] at *
  omega
theorem own_nn {x : Int32} (h : 0 ≤ x.toInt) : ¬ x < (0 : Int32) := by rw [Int32.lt_iff_toInt_lt]; simp only [Int32.reduceToInt]; omega
theorem own_btp {bs : List Int32} {w : Int32} (hb : ∀ b ∈ bs, 0 ≤ b.toInt ∧ b.toInt ≤ 127) (h : 0 ≤ w.toInt ∧ w.toInt < bs.length) : ¬ (bt bs w) < (0 : Int32) := own_nn (hb _ (own_btin h)).1
theorem own_wp {w : Int32} {n : Nat} {z : Int32} (hz : z.toInt = n) (h : 0 ≤ w.toInt ∧ w.toInt < n) : (w + (1 : Int32)).toInt = w.toInt + 1 := by
  have q := c_iadd w 1
  have z1 := z.toInt_lt
  have h1 := (w + (1 : Int32)).le_toInt
  have h2 := (w + (1 : Int32)).toInt_lt
  simp only [Int.reducePow, Int.reduceNeg, Int32.reduceToInt] at *
  omega
theorem own_sll {bs : List Int32} {a b : Int32} (h : 0 ≤ a.toInt ∧ a.toInt ≤ b.toInt ∧ b.toInt ≤ bs.length) : ((own_sl bs a b).length : Int) = b.toInt - a.toInt := by
  unfold own_sl
  rw [List.length_take, List.length_drop]
  omega
theorem own_slg {bs : List Int32} {a b : Int32} (h : 0 ≤ a.toInt ∧ a.toInt ≤ b.toInt ∧ b.toInt ≤ bs.length) {j : Nat} (hj : (j : Int) < b.toInt - a.toInt) : (own_sl bs a b).getD j 0 = bs.getD (a.toInt.toNat + j) 0 := by
  unfold own_sl
  simp only [List.getD_eq_getElem?_getD]
  rw [List.getElem?_take, if_pos (by omega), List.getElem?_drop]
theorem own_slm {bs : List Int32} {a b : Int32} {c : Int32} (h : c ∈ own_sl bs a b) : c ∈ bs := List.mem_of_mem_drop (List.mem_of_mem_take h)
theorem own_slw {bs : List Int32} {b : Int32} (h : b.toInt = bs.length) : own_sl bs 0 b = bs := by
  unfold own_sl
  simp only [Int32.reduceToInt, Int.toNat_zero, List.drop_zero, Int.sub_zero]
  exact List.take_of_length_le (by omega)
theorem own_mapd (xs : List Int32) (j : Nat) : (xs.map Value.int).getD j (.int 0) = .int (xs.getD j 0) := by
  simp only [List.getD_eq_getElem?_getD, List.getElem?_map]
  cases xs[j]? <;> rfl
theorem own_hu {bs : List Int32} {ys : List Value} {a b q : Int32} {n : Nat} (h : 0 ≤ a.toInt ∧ a.toInt ≤ b.toInt ∧ b.toInt ≤ bs.length) (hq : q.toInt = b.toInt - a.toInt) : ∀ j, j < q.toNatClampNeg → ((own_sl bs a b).map Value.int).getD j (.int 0) = if (0 : Int32).toNatClampNeg ≤ j ∧ j < (0 : Int32).toNatClampNeg + q.toNatClampNeg then (bs.map Value.int).getD (a.toNatClampNeg + (j - (0 : Int32).toNatClampNeg)) (.int 0) else ys.getD j (.int 0) := fun j hj => by
  have z : (0 : Int32).toNatClampNeg = 0 := by decide
  rw [z, if_pos ⟨Nat.zero_le _, by omega⟩, own_mapd, own_mapd, own_slg h (by rw [own_nat32 (by omega)] at hj; omega), own_nat32 h.1, Nat.sub_zero]
theorem own_min {a b : Int32} {z : Int32} {n : Nat} (hz : z.toInt = n) (h : 0 ≤ a.toInt ∧ a.toInt ≤ b.toInt ∧ b.toInt ≤ n) : fMin (z - a) (b - a) = b - a := by
  have h1 := own_dif hz h
  have h2 : (z - a).toInt = z.toInt - a.toInt := own_dif hz ⟨h.1, by omega, by omega⟩
  unfold fMin
  by_cases q : (b - a) < (z - a)
  · rw [if_pos q]
  · rw [if_neg q]
    rw [Int32.lt_iff_toInt_lt] at q
    exact Int32.toInt_inj.mp (by omega)
section OwnCopy
variable {p : Program} {l : Launch} {e : Env} {R : Room} {s : State} {m : MethodId} {args : Array Value} {below : List Frame} {meth : Method} {c : Code} {T : State} {locs : List Loc} {cells slots : Nat} {Z : State} {az : Array Value} {h : Heap}
theorem own_frc {n0 dst a b : Nat} (g : n0 ≤ dst) : Fr n0 (Stand.copyLocs dst a b) := fun y hy => by rw [Stand.copyLocs_base hy]; exact g
/-- System.arraycopy of bytes, over the walk's facts -/
theorem own_copy (X : Stand p l e R s m args below meth c T locs cells slots) (hx : p.tables.exec = Jvm.exec) (hZ : Z.Warmed39 s.vm) {own : String} {index : Nat} (hown : s.vm.findClass own = some m.cls)
    (w : (Cond.methodLink own index Stand.acN).before az Z = true) (wn : (Cond.native Stand.acN).before az Z = true) (ws : (Cond.static Stand.acN).before az Z = true) (wi : (Cond.initialized "java/lang/System").before az Z = true) (eT : T.heap = h)
    {src dst : Addr} {k1 k2 : ClassId} {z1 z2 o q n : Int32} {vs ys us : List Value} (A : Arv Z h src k1 .byte z1 vs (.int 0)) (B : Arv Z h dst k2 .byte z2 ys (.int 0)) (h1 : ¬ o < 0) (h2 : ¬ q < 0) (h3 : ¬ n < 0)
    (h4 : o.toNatClampNeg + n.toNatClampNeg ≤ z1.toNatClampNeg) (h5 : q.toNatClampNeg + n.toNatClampNeg ≤ z2.toNatClampNeg)
    (hu : ∀ j, j < z2.toNatClampNeg → us.getD j (.int 0) = if q.toNatClampNeg ≤ j ∧ j < q.toNatClampNeg + n.toNatClampNeg then vs.getD (o.toNatClampNeg + (j - q.toNatClampNeg)) (.int 0) else ys.getD j (.int 0))
    {g : JFrame} (hg : g.method = m) (hsize : g.locals.size = c.maxLocals) {rest : List Value} (hstack : g.stack = .int n :: .int q :: .ref dst :: .int o :: .ref src :: rest)
    (hdg : decode c.code g.pc = .ok (.invokestatic index, 3)) (hframes : 1 ≤ R.frames) (hlocals : 2 * g.monitorRoom + (rest.map fun v => v.category).sum + (nativeFrameWords "java/lang/System" "arraycopy" 5 + 11) ≤ R.locals) :
    ∃ (T' : State) (h' : Heap), Stand p l e R s m args below meth c T' (locs ++ Stand.copyLocs dst q.toNatClampNeg n.toNatClampNeg) cells slots ∧ T'.heap = h' ∧ Keep h h' [dst] ∧ Arv Z h' dst k2 .byte z2 us (.int 0) ∧
      ∀ target, Steps p.tables e below (T'.setTop { g with pc := g.pc + 3, stack := rest }) target → Steps p.tables e below (T.setTop g) target := by
  obtain ⟨cs, ⟨a1, ⟨a2, ka, a3, ca, a4⟩, a5⟩, a6, a7, a8, a9, a10⟩ := A
  obtain ⟨cd, ⟨b1, ⟨b2, kb, b3, cb, b4⟩, b5⟩, b6, b7, b8, b9, b10⟩ := B
  subst eT
  obtain ⟨ka', qa, ea⟩ := hZ.alike.2.2 _ _ a3
  obtain ⟨kb', qb, eb⟩ := hZ.alike.2.2 _ _ b3
  have nn : ∀ {x : Int32}, ¬ x < 0 → x.toInt = x.toNatClampNeg := fun {x} hx => by rw [Int32.lt_iff_toInt_lt] at hx; simp only [Int32.reduceToInt, Int32.toNatClampNeg] at hx ⊢; omega
  have no := nn h1
  have nq := nn h2
  have nl := nn h3
  have hv : ∀ i, i < n.toNatClampNeg → cs.slots.getD (o.toNatClampNeg + i) .null = vs.getD (o.toNatClampNeg + i) (.int 0) := fun i hi => by
    have q := a9 (o.toNatClampNeg + i) (by omega)
    simp [Array.getD_eq_getD_getElem?, q]
  have hfit : ∀ i, i < n.toNatClampNeg → fits .byte (vs.getD (o.toNatClampNeg + i) (.int 0)) = true := fun i hi => a10 _ (by omega)
  have hint : ∀ {x : Value}, fits .byte x = true → ∃ y, x = .int y := fun {x} hx => by cases x <;> simp [fits] at hx ⊢
  obtain ⟨vm₁, hW, X', st⟩ := X.arraycopyK hx hown (mvT hZ w) (mvT hZ wn) (mvT hZ ws) (mvT hZ wi) (srcPos := o) (destPos := q) (n := n) a1 b1 (fun k => a2 k) (fun k => b2 k) a5 b5 qa qb (by rw [ea]; exact a4) (by rw [eb]; exact b4) (by decide) h1 h2 h3 (by rw [no, nl]; omega) (by rw [nq, nl]; omega)
    (fun vm₁ _ i hi => by
      rw [hv i hi]
      obtain ⟨y, hy⟩ := hint (hfit i hi)
      exact ⟨hfit i hi, by rw [hy]; trivial⟩) (g := g) hg hsize hstack hdg hframes hlocals
  have hdst : dst < T.heap.size := (Array.getElem?_eq_some_iff.mp b1).1
  have hat : ∀ j, (copied cs cd o q n).slots[j]? = if q.toNatClampNeg ≤ j ∧ j < q.toNatClampNeg + n.toNatClampNeg then some (cs.slots.getD (o.toNatClampNeg + (j - q.toNatClampNeg)) .null) else cd.slots[j]? := fun j => by
    have z := Jvm.Free.Str.copied_at2 (cs := cs) (cd := cd) (o := o.toNatClampNeg) (p := q.toNatClampNeg) (n := n.toNatClampNeg) (by have := o.toInt_lt; omega) (by have := q.toInt_lt; omega) (by have := n.toInt_lt; omega) (by omega) j
    rw [show Int32.ofNat o.toNatClampNeg = o from (back32 h1).1, show Int32.ofNat q.toNatClampNeg = q from (back32 h2).1, show Int32.ofNat n.toNatClampNeg = n from (back32 h3).1] at z
    exact z
  obtain ⟨f1, f2, f3⟩ := Jvm.Free.SB.copied_facts cs cd o q n
  have hself : ((T.setVm vm₁).setCell dst (copied cs cd o q n)).heap[dst]? = some (copied cs cd o q n) := by
    show (T.heap.setIfInBounds dst _)[dst]? = _
    rw [Array.getElem?_setIfInBounds_self_of_lt hdst]
  have hother : ∀ x, x ≠ dst → ((T.setVm vm₁).setCell dst (copied cs cd o q n)).heap[x]? = T.heap[x]? := fun x hx => by
    show (T.heap.setIfInBounds dst _)[x]? = _
    rw [Array.getElem?_setIfInBounds_ne (Ne.symm hx)]
  refine ⟨_, _, X', rfl, ⟨?_, fun x cx hc hx => ?_, fun x cx hc => ?_⟩, ⟨_, ⟨hself, ⟨fun k => by rw [f2]; exact b2 k, kb, by rw [f1]; exact b3, cb, b4⟩, by rw [f2]; exact b5⟩, f1.trans b6, f3.trans b7, b8, fun j hj => ?_, fun j hj => ?_⟩, st⟩
  · show T.heap.size ≤ (T.heap.setIfInBounds dst _).size
    simp
  · rw [hother x (fun z => hx (by simp [z]))]; exact hc
  · by_cases z : x = dst
    · subst z
      cases b1.symm.trans hc
      exact ⟨_, hself, f1, f2, f3⟩
    · exact ⟨cx, by rw [hother x z]; exact hc, rfl, rfl, rfl⟩
  · rw [f3] at hj
    rw [hat j, hu j (by omega)]
    by_cases z : q.toNatClampNeg ≤ j ∧ j < q.toNatClampNeg + n.toNatClampNeg
    · rw [if_pos z, if_pos z, hv _ (by omega)]
    · rw [if_neg z, if_neg z]; exact b9 j hj
  · rw [f3] at hj
    rw [hu j (by omega)]
    by_cases z : q.toNatClampNeg ≤ j ∧ j < q.toNatClampNeg + n.toNatClampNeg
    · rw [if_pos z]; exact hfit _ (by omega)
    · rw [if_neg z]; exact b10 j (by omega)
end OwnCopy
theorem d19_0 : decode jdk_123_method_3_code 0 = .ok (.iload_n 1, 1) := by decide +kernel
theorem d19_1 : decode jdk_123_method_3_code 1 = .ok (.iload_n 2, 1) := by decide +kernel
theorem d19_2 : decode jdk_123_method_3_code 2 = .ok (.iadd, 1) := by decide +kernel
theorem d19_3 : decode jdk_123_method_3_code 3 = .ok (.istore_n 3, 1) := by decide +kernel
theorem d19_4 : decode jdk_123_method_3_code 4 = .ok (.iload_n 1, 1) := by decide +kernel
theorem d19_5 : decode jdk_123_method_3_code 5 = .ok (.istore 4, 2) := by decide +kernel
theorem d19_7 : decode jdk_123_method_3_code 7 = .ok (.iload 4, 2) := by decide +kernel
theorem d19_9 : decode jdk_123_method_3_code 9 = .ok (.iload_n 3, 1) := by decide +kernel
theorem d19_10 : decode jdk_123_method_3_code 10 = .ok (.if_icmp .ge 21, 3) := by decide +kernel
theorem d19_13 : decode jdk_123_method_3_code 13 = .ok (.aload_n 0, 1) := by decide +kernel
theorem d19_14 : decode jdk_123_method_3_code 14 = .ok (.iload 4, 2) := by decide +kernel
theorem d19_16 : decode jdk_123_method_3_code 16 = .ok (.baload, 1) := by decide +kernel
theorem d19_17 : decode jdk_123_method_3_code 17 = .ok (.ifCond .ge 8, 3) := by decide +kernel
theorem d19_25 : decode jdk_123_method_3_code 25 = .ok (.iinc 4 1, 3) := by decide +kernel
theorem d19_28 : decode jdk_123_method_3_code 28 = .ok (.goto (-21), 3) := by decide +kernel
theorem d19_31 : decode jdk_123_method_3_code 31 = .ok (.iload_n 2, 1) := by decide +kernel
theorem d19_32 : decode jdk_123_method_3_code 32 = .ok (.ireturn, 1) := by decide +kernel
theorem loopCP {l : Launch} {Z : State} {az : Array Value} (hw : HW az Z) {p : Program} {e : Env} {s : State} {m : MethodId} {args : Array Value} {below : List Frame} {meth : Method} {c : Code} {h0 : Heap} {n0 : Nat} (a0 : Addr) (p1 p2 : Int32) (k0 : ClassId) (z : Int32) (bs : List Int32) (hx : p.tables.exec = Jvm.exec) (hZ : Z.Warmed39 s.vm) (hby : c.code = jdk_123_method_3_code) (hml : c.maxLocals = 5) (hown : s.vm.findClass "java/lang/StringCoding" = some m.cls) (hlk : meth.locks = false) (hret : meth.sig.returnType = some .int) (Z0 : n0 ≤ h0.size) (V_a0 : Arv Z h0 a0 k0 .byte z (bs.map .int) (.int 0)) (hz : z.toInt = bs.length) (hbs : ∀ b ∈ bs, 0 ≤ b.toInt ∧ b.toInt ≤ 127) (ho : 0 ≤ p1.toInt ∧ 0 ≤ p2.toInt ∧ p1.toInt + p2.toInt ≤ bs.length) :
    ∀ (k : Nat) (T0 : State) (locs : List Loc) (wv : Int32), Stand p l e (rO 0 0 0 0) s m args below meth c T0 locs 0 0 → Fr n0 locs → T0.heap = h0 → (wv.toInt + k = (p1 + p2).toInt) → (p1.toInt ≤ wv.toInt) →  Go p e below s (PQ (.int p2) n0 h0) 0 0 (T0.setTop (mkF m 7 #[vr a0, vi p1, vi p2, vi (p1 + p2), vi wv] [])) := by
  intro k
  induction k with
  | zero =>
    intro T0 locs wv X0 N0 e0 hik hwv
    have hl := own_lim hz ho
    have hq : ¬ wv < (p1 + p2) := by rw [Int32.lt_iff_toInt_lt]; omega
    refine Go.st (S' := T0.setTop (mkF m 32 #[vr a0, vi p1, vi p2, vi (p1 + p2), vi wv] [.int p2])) (fun _ kk => XS.iload X0.here hx rfl (hb hby d19_7) rfl (XS.iloadN X0.here hx rfl (hb hby d19_9) rfl (XS.icmpYes X0.here hx rfl (pc0 := 10) (pc' := 31) rfl (hb hby d19_10) rfl (flt hq).2.1 (by decide) (by decide) (XS.iloadN X0.here hx rfl (hb hby d19_31) rfl kk)))) ?_
    exact Go.retI X0 hx hlk hret (hb hby d19_32) (⟨rfl, N0, e0⟩) (by decide) (by decide)
  | succ k ih =>
    intro T0 locs wv X0 N0 e0 hik hwv
    have hl := own_lim hz ho
    have hq : wv < (p1 + p2) := by rw [Int32.lt_iff_toInt_lt]; omega
    have hwi : 0 ≤ wv.toInt ∧ wv.toInt < bs.length := by omega
    have hin := own_inz hwi.1 (show wv.toInt < z.toInt from by omega)
    have hp := own_btp hbs hwi
    refine Go.st (S' := T0.setTop (mkF m 16 #[vr a0, vi p1, vi p2, vi (p1 + p2), vi wv] [.int wv, .ref a0])) (fun _ kk => XS.iload X0.here hx rfl (hb hby d19_7) rfl (XS.iloadN X0.here hx rfl (hb hby d19_9) rfl (XS.icmpNo X0.here hx rfl (hb hby d19_10) rfl (tlt hq).2.1 (XS.aloadN X0.here hx rfl (hb hby d19_13) rfl rfl (XS.iload X0.here hx rfl (hb hby d19_14) rfl kk))))) ?_
    obtain ⟨cl1, Ar1, qk1, S1, Ng1, H1, G1⟩ := (id V_a0)
    have hin1 : ¬ (wv < 0 ∨ cl1.slots.size ≤ (wv).toNatClampNeg) := inb_of S1 hin
    have hat1 : cl1.slots[(wv).toNatClampNeg]? = some (.int (bt bs wv)) := own_at H1 hin1
    refine Go.st (S' := T0.setTop (mkF m 7 #[vr a0, vi p1, vi p2, vi (p1 + p2), vi (wv + (1 : Int32))] [])) (fun _ kk => X0.baloadBytes hx (j := wv) (v := (.int (bt bs wv))) (by rw [e0]; exact Ar1.1) (State.isArrayOf_alike hZ.alike Ar1.2.1) Ar1.2.2 hin1 hat1 (g := (mkF m 16 #[vr a0, vi p1, vi p2, vi (p1 + p2), vi wv] [.int wv, .ref a0])) rfl rfl (hb hby d19_16) _ (XS.ifYes X0.here hx rfl (pc0 := 17) (pc' := 25) rfl (hb hby d19_17) rfl ((if0 _ _).trans (flt hp).2.1) (by decide) (by decide) (XS.iinc X0.here hx rfl (hb hby d19_25) rfl (l' := #[vr a0, vi p1, vi p2, vi (p1 + p2), vi (wv + (1 : Int32))]) rfl (XS.goto X0.here hx rfl (pc0 := 28) (pc' := 7) rfl (hb hby d19_28) (by decide) (by decide) kk)))) ?_
    exact ih T0 _ _ X0 N0 e0 (by have := own_wp hz hwi; omega) (by have := own_wp hz hwi; omega)
theorem pn_4 : plainName "java/lang/StringCoding" = true := by first | (simp [plainName, overriddenIn]; done) | decide +kernel
theorem ef_19 (m : MethodId) (a0 : Addr) (p1 : Int32) (p2 : Int32) : entryFrame m #[(.ref a0), (.int p1), (.int p2)] 5 = mkF m 0 #[.val (.ref a0), .val (.int p1), .val (.int p2), .unset, .unset] [] := by first | (simp [entryFrame, mkF, argsToLocals, Value.category]; done) | rfl
theorem rmCP (l : Launch) (Z : State) (az : Array Value) (hw : HW az Z) (ws : List Jvm.Cond) (a0 : Addr) (p1 : Int32) (p2 : Int32) (k0 : ClassId) (z : Int32) (bs : List Int32) (h0 : Heap) (n0 : Nat) (Z0 : n0 ≤ h0.size) (V_a0 : Arv Z h0 a0 k0 .byte z (bs.map .int) (.int 0)) (hz : z.toInt = bs.length) (hbs : ∀ b ∈ bs, 0 ≤ b.toInt ∧ b.toInt ≤ 127) (ho : 0 ≤ p1.toInt ∧ 0 ≤ p2.toInt ∧ p1.toInt + p2.toInt ≤ bs.length) :
    MF l mN26 (Jvm.Cond.code mN26 jdk_123_method_3_code 5 (some .int) :: ws) (rO 0 0 0 0) #[(.ref a0), (.int p1), (.int p2)] Z h0 (PQ (.int p2) n0 h0) := by
  refine MetFree.of_bodySF (plainFor_of_name pn_4) hisR ?_
  intro p e s m args below meth c s₁ Bd hml0 hP hK
  obtain ⟨rfl, hZ, hh⟩ := hP
  have hx := Bd.exec
  have hby := Bd.bytes
  have hlk : meth.locks = false := Bd.notSynchronized
  have hml : c.maxLocals = 5 := hml0
  have hown : s.vm.findClass "java/lang/StringCoding" = some m.cls := findClass_of_methodNamed Bd.named
  have X0 : Stand p l e (rO 0 0 0 0) s m #[(.ref a0), (.int p1), (.int p2)] below meth c s₁ [] 0 0 := Stand.of_body Bd
  have e0 : s₁.heap = h0 := by rw [← hh, Bd.state]; rfl
  have N0 := Fr.nil n0
  show Go p e below s ((PQ (.int p2) n0 h0)) (rO 0 0 0 0).cells (rO 0 0 0 0).slots (s₁.setTop (entryFrame m #[(.ref a0), (.int p1), (.int p2)] 5))
  rw [ef_19 m a0 p1 p2]
  refine Go.st (S' := s₁.setTop (mkF m 7 #[vr a0, vi p1, vi p2, vi (p1 + p2), vi p1] [])) (fun _ kk => XS.iloadN X0.here hx rfl (hb hby d19_0) rfl (XS.iloadN X0.here hx rfl (hb hby d19_1) rfl (XS.iadd X0.here hx rfl (hb hby d19_2) rfl (XS.istoreN X0.here hx rfl (hb hby d19_3) rfl (l' := #[vr a0, vi p1, vi p2, vi (p1 + p2), .unset]) rfl (XS.iloadN X0.here hx rfl (hb hby d19_4) rfl (XS.istore X0.here hx rfl (hb hby d19_5) rfl (l' := #[vr a0, vi p1, vi p2, vi (p1 + p2), vi p1]) rfl kk)))))) ?_
  exact loopCP hw a0 p1 p2 k0 z bs hx hZ hby hml hown hlk Bd.returns Z0 V_a0 hz hbs ho p2.toInt.toNat s₁ _ _ X0 N0 e0 (by have := own_lim hz ho; omega) (Int.le_refl _)
theorem d18_0 : decode jdk_123_method_2_code 0 = .ok (.aload_n 0, 1) := by decide +kernel
theorem d18_1 : decode jdk_123_method_2_code 1 = .ok (.iload_n 1, 1) := by decide +kernel
theorem d18_2 : decode jdk_123_method_2_code 2 = .ok (.iload_n 2, 1) := by decide +kernel
theorem d18_3 : decode jdk_123_method_2_code 3 = .ok (.invokestatic 7, 3) := by decide +kernel
theorem d18_6 : decode jdk_123_method_2_code 6 = .ok (.iload_n 2, 1) := by decide +kernel
theorem d18_7 : decode jdk_123_method_2_code 7 = .ok (.if_icmp .eq 7, 3) := by decide +kernel
theorem d18_14 : decode jdk_123_method_2_code 14 = .ok (.iconst 0, 1) := by decide +kernel
theorem d18_15 : decode jdk_123_method_2_code 15 = .ok (.ireturn, 1) := by decide +kernel
theorem ef_18 (m : MethodId) (a0 : Addr) (p1 : Int32) (p2 : Int32) : entryFrame m #[(.ref a0), (.int p1), (.int p2)] 3 = mkF m 0 #[.val (.ref a0), .val (.int p1), .val (.int p2)] [] := by first | (simp [entryFrame, mkF, argsToLocals, Value.category]; done) | rfl
theorem rmHN (l : Launch) (Z : State) (az : Array Value) (hw : HW az Z) (ws : List Jvm.Cond) (a0 : Addr) (p1 : Int32) (p2 : Int32) (k0 : ClassId) (z : Int32) (bs : List Int32) (h0 : Heap) (n0 : Nat) (Z0 : n0 ≤ h0.size) (V_a0 : Arv Z h0 a0 k0 .byte z (bs.map .int) (.int 0)) (hz : z.toInt = bs.length) (hbs : ∀ b ∈ bs, 0 ≤ b.toInt ∧ b.toInt ≤ 127) (ho : 0 ≤ p1.toInt ∧ 0 ≤ p2.toInt ∧ p1.toInt + p2.toInt ≤ bs.length) :
    MF l mN27 (Jvm.Cond.code mN27 jdk_123_method_2_code 3 (some .boolean) :: ws) (rO 1 0 0 16) #[(.ref a0), (.int p1), (.int p2)] Z h0 (PQ (.int 0) n0 h0) := by
  refine MetFree.of_bodySF (plainFor_of_name pn_4) hisR ?_
  intro p e s m args below meth c s₁ Bd hml0 hP hK
  obtain ⟨rfl, hZ, hh⟩ := hP
  have hx := Bd.exec
  have hby := Bd.bytes
  have hlk : meth.locks = false := Bd.notSynchronized
  have hml : c.maxLocals = 3 := hml0
  have hown : s.vm.findClass "java/lang/StringCoding" = some m.cls := findClass_of_methodNamed Bd.named
  have X0 : Stand p l e (rO 1 0 0 16) s m #[(.ref a0), (.int p1), (.int p2)] below meth c s₁ [] 0 0 := Stand.of_body Bd
  have e0 : s₁.heap = h0 := by rw [← hh, Bd.state]; rfl
  have N0 := Fr.nil n0
  show Go p e below s ((PQ (.int 0) n0 h0)) (rO 1 0 0 16).cells (rO 1 0 0 16).slots (s₁.setTop (entryFrame m #[(.ref a0), (.int p1), (.int p2)] 3))
  rw [ef_18 m a0 p1 p2]
  refine Go.st (S' := s₁.setTop (mkF m 3 #[vr a0, vi p1, vi p2] [.int p2, .int p1, .ref a0])) (fun _ kk => XS.aloadN X0.here hx rfl (hb hby d18_0) rfl rfl (XS.iloadN X0.here hx rfl (hb hby d18_1) rfl (XS.iloadN X0.here hx rfl (hb hby d18_2) rfl kk))) ?_
  obtain ⟨_, _, ⟨T1, L1, k1, n1⟩, -, X1, ⟨Lc1, hQ1, l1, y1, z1⟩, st1⟩ := Jvm.LawKit.callS X0 hx (y := mN26) hown (mvT hZ (ow hw 123 rfl)) (mvT hZ (ow hw 124 rfl)) (mvT hZ (ow hw 121 rfl)) (mvT hZ (ow hw 125 rfl)) (by decide) (backOf (W := 0) (rmCP l Z az hw [] a0 p1 p2 k0 z bs h0 n0 Z0 V_a0 hz hbs ho) hZ (ow hw 125 rfl) (ow hw 121 rfl) (by decide) (by decide)) (g := (mkF m 3 #[vr a0, vi p1, vi p2] [.int p2, .int p1, .ref a0])) rfl (by rw [hml]; rfl) (argsL := [.ref a0, .int p1, .int p2]) (rest := []) (lenOf pd_15 rfl) rfl (oW rfl rfl) (hb hby d18_3) (fun _ _ => ⟨rfl, e0, (by decide : 0 + 0 ≤ _), (by decide : 0 + 0 ≤ _)⟩)
  dsimp only [Pt.U, Pt.locs, Pt.cells, Pt.slots] at X1 l1 y1 z1 st1 hQ1
  rw [l1, y1, z1] at X1
  obtain ⟨hv1, N1q, e1⟩ := hQ1
  subst hv1
  have N1 := Fr.app N0 N1q
  refine Go.st (S' := T1.setTop (mkF m 15 #[vr a0, vi p1, vi p2] [.int 0])) (fun _ kk => st1 _ (XS.iloadN X1.here hx rfl (hb hby d18_6) rfl (XS.icmpYes X1.here hx rfl (pc0 := 7) (pc' := 14) rfl (hb hby d18_7) rfl (teq (rfl : p2 = p2)).1 (by decide) (by decide) (XS.iconst X1.here hx rfl (hb hby d18_14) kk)))) ?_
  exact Go.retN X1 hx hlk (t := .boolean) Bd.returns (by simp) (hb hby d18_15) (⟨rfl, N1, e1⟩) (by decide) (by decide)
theorem d22_0 : decode jdk_65_method_131_code 0 = .ok (.iload_n 1, 1) := by decide +kernel
theorem d22_1 : decode jdk_65_method_131_code 1 = .ok (.iload_n 0, 1) := by decide +kernel
theorem d22_2 : decode jdk_65_method_131_code 2 = .ok (.if_icmp .ge 35, 3) := by decide +kernel
theorem d22_37 : decode jdk_65_method_131_code 37 = .ok (.return_, 1) := by decide +kernel
theorem pn_5 : plainName "java/util/Arrays" = true := by first | (simp [plainName, overriddenIn]; done) | decide +kernel
theorem ef_22 (m : MethodId) (p0 : Int32) (p1 : Int32) : entryFrame m #[(.int p0), (.int p1)] 2 = mkF m 0 #[.val (.int p0), .val (.int p1)] [] := by first | (simp [entryFrame, mkF, argsToLocals, Value.category]; done) | rfl
theorem rmCL (l : Launch) (Z : State) (az : Array Value) (hw : HW az Z) (ws : List Jvm.Cond) (p0 : Int32) (p1 : Int32)  (h0 : Heap) (n0 : Nat) (Z0 : n0 ≤ h0.size) (h1 : ¬ p1 < p0) :
    MF l mN29 (Jvm.Cond.code mN29 jdk_65_method_131_code 2 none :: ws) (rO 0 0 0 0) #[(.int p0), (.int p1)] Z h0 (Q_void h0 n0) := by
  refine MetFree.of_bodySF (plainFor_of_name pn_5) hisR ?_
  intro p e s m args below meth c s₁ Bd hml0 hP hK
  obtain ⟨rfl, hZ, hh⟩ := hP
  have hx := Bd.exec
  have hby := Bd.bytes
  have hlk : meth.locks = false := Bd.notSynchronized
  have hml : c.maxLocals = 2 := hml0
  have hown : s.vm.findClass "java/util/Arrays" = some m.cls := findClass_of_methodNamed Bd.named
  have X0 : Stand p l e (rO 0 0 0 0) s m #[(.int p0), (.int p1)] below meth c s₁ [] 0 0 := Stand.of_body Bd
  have e0 : s₁.heap = h0 := by rw [← hh, Bd.state]; rfl
  have N0 := Fr.nil n0
  show Go p e below s ((Q_void h0 n0)) (rO 0 0 0 0).cells (rO 0 0 0 0).slots (s₁.setTop (entryFrame m #[(.int p0), (.int p1)] 2))
  rw [ef_22 m p0 p1]
  refine Go.st (S' := s₁.setTop (mkF m 37 #[vi p0, vi p1] [])) (fun _ kk => XS.iloadN X0.here hx rfl (hb hby d22_0) rfl (XS.iloadN X0.here hx rfl (hb hby d22_1) rfl (XS.icmpYes X0.here hx rfl (pc0 := 2) (pc' := 37) rfl (hb hby d22_2) rfl (flt h1).2.1 (by decide) (by decide) kk))) ?_
  exact Go.ret0 X0 hx hlk Bd.returns (hb hby d22_37) (⟨rfl, N0, e0⟩) (by decide) (by decide)
def Q_cr (Z : State) (bs : List Int32) (p1 p2 : Int32) (h0 : Heap) (n0 : Nat) (v : Option Value) (h : Heap) (L : List Loc) : Prop := ∃ (b : Addr) (k : ClassId) (q : Int32), v = some (.ref b) ∧ Fr n0 L ∧ Keep h0 h [] ∧ Arv Z h b k .byte q ((own_sl bs p1 p2).map .int) (.int 0) ∧ q.toInt = p2.toInt - p1.toInt ∧ Exa Z h b "[B" ∧ h0.size ≤ b
theorem d21_0 : decode jdk_65_method_133_code 0 = .ok (.iload_n 1, 1) := by decide +kernel
theorem d21_1 : decode jdk_65_method_133_code 1 = .ok (.iload_n 2, 1) := by decide +kernel
theorem d21_2 : decode jdk_65_method_133_code 2 = .ok (.invokestatic 343, 3) := by decide +kernel
theorem d21_5 : decode jdk_65_method_133_code 5 = .ok (.iload_n 2, 1) := by decide +kernel
theorem d21_6 : decode jdk_65_method_133_code 6 = .ok (.iload_n 1, 1) := by decide +kernel
theorem d21_7 : decode jdk_65_method_133_code 7 = .ok (.isub, 1) := by decide +kernel
theorem d21_8 : decode jdk_65_method_133_code 8 = .ok (.istore_n 3, 1) := by decide +kernel
theorem d21_9 : decode jdk_65_method_133_code 9 = .ok (.iload_n 3, 1) := by decide +kernel
theorem d21_10 : decode jdk_65_method_133_code 10 = .ok (.newarray .byte, 2) := by decide +kernel
theorem d21_12 : decode jdk_65_method_133_code 12 = .ok (.astore 4, 2) := by decide +kernel
theorem d21_14 : decode jdk_65_method_133_code 14 = .ok (.aload_n 0, 1) := by decide +kernel
theorem d21_15 : decode jdk_65_method_133_code 15 = .ok (.iload_n 1, 1) := by decide +kernel
theorem d21_16 : decode jdk_65_method_133_code 16 = .ok (.aload 4, 2) := by decide +kernel
theorem d21_18 : decode jdk_65_method_133_code 18 = .ok (.iconst 0, 1) := by decide +kernel
theorem d21_19 : decode jdk_65_method_133_code 19 = .ok (.aload_n 0, 1) := by decide +kernel
theorem d21_20 : decode jdk_65_method_133_code 20 = .ok (.arraylength, 1) := by decide +kernel
theorem d21_21 : decode jdk_65_method_133_code 21 = .ok (.iload_n 1, 1) := by decide +kernel
theorem d21_22 : decode jdk_65_method_133_code 22 = .ok (.isub, 1) := by decide +kernel
theorem d21_23 : decode jdk_65_method_133_code 23 = .ok (.iload_n 3, 1) := by decide +kernel
theorem d21_24 : decode jdk_65_method_133_code 24 = .ok (.invokestatic 304, 3) := by decide +kernel
theorem d21_27 : decode jdk_65_method_133_code 27 = .ok (.invokestatic 150, 3) := by decide +kernel
theorem d21_30 : decode jdk_65_method_133_code 30 = .ok (.aload 4, 2) := by decide +kernel
theorem d21_32 : decode jdk_65_method_133_code 32 = .ok (.areturn, 1) := by decide +kernel
theorem ef_21 (m : MethodId) (a0 : Addr) (p1 : Int32) (p2 : Int32) : entryFrame m #[(.ref a0), (.int p1), (.int p2)] 5 = mkF m 0 #[.val (.ref a0), .val (.int p1), .val (.int p2), .unset, .unset] [] := by first | (simp [entryFrame, mkF, argsToLocals, Value.category]; done) | rfl
theorem rmRB (l : Launch) (Z : State) (az : Array Value) (hw : HW az Z) (ws : List Jvm.Cond) (a0 : Addr) (p1 : Int32) (p2 : Int32) (k0 : ClassId) (z : Int32) (bs : List Int32) (h0 : Heap) (n0 : Nat) (Z0 : n0 ≤ h0.size) (V_a0 : Arv Z h0 a0 k0 .byte z (bs.map .int) (.int 0)) (hz : z.toInt = bs.length) (hbs : ∀ b ∈ bs, 0 ≤ b.toInt ∧ b.toInt ≤ 127) (hr : 0 ≤ p1.toInt ∧ p1.toInt ≤ p2.toInt ∧ p2.toInt ≤ bs.length) (hs6 : bs.length ≤ 6) :
    MF l mN31 (Jvm.Cond.code mN31 jdk_65_method_133_code 5 (some (.array .byte)) :: ws) (rO 1 1 6 40) #[(.ref a0), (.int p1), (.int p2)] Z h0 (Q_cr Z bs p1 p2 h0 n0) := by
  refine MetFree.of_bodySF (plainFor_of_name pn_5) hisR ?_
  intro p e s m args below meth c s₁ Bd hml0 hP hK
  obtain ⟨rfl, hZ, hh⟩ := hP
  have hx := Bd.exec
  have hby := Bd.bytes
  have hlk : meth.locks = false := Bd.notSynchronized
  have hml : c.maxLocals = 5 := hml0
  have hown : s.vm.findClass "java/util/Arrays" = some m.cls := findClass_of_methodNamed Bd.named
  have X0 : Stand p l e (rO 1 1 6 40) s m #[(.ref a0), (.int p1), (.int p2)] below meth c s₁ [] 0 0 := Stand.of_body Bd
  have e0 : s₁.heap = h0 := by rw [← hh, Bd.state]; rfl
  have N0 := Fr.nil n0
  show Go p e below s ((Q_cr Z bs p1 p2 h0 n0)) (rO 1 1 6 40).cells (rO 1 1 6 40).slots (s₁.setTop (entryFrame m #[(.ref a0), (.int p1), (.int p2)] 5))
  rw [ef_21 m a0 p1 p2]
  have hd := own_dif hz hr
  have hlt : ¬ p2 < p1 := by rw [Int32.lt_iff_toInt_lt]; omega
  refine Go.st (S' := s₁.setTop (mkF m 2 #[vr a0, vi p1, vi p2, .unset, .unset] [.int p2, .int p1])) (fun _ kk => XS.iloadN X0.here hx rfl (hb hby d21_0) rfl (XS.iloadN X0.here hx rfl (hb hby d21_1) rfl kk)) ?_
  obtain ⟨_, _, ⟨T1, L1, k1, n1⟩, -, X1, ⟨Lc1, hQ1, l1, y1, z1⟩, st1⟩ := Jvm.LawKit.callS X0 hx (y := mN29) hown (mvT hZ (ow hw 133 rfl)) (mvT hZ (ow hw 134 rfl)) (mvT hZ (ow hw 128 rfl)) (mvT hZ (ow hw 135 rfl)) (by decide) (backOf (W := 0) (rmCL l Z az hw [] p1 p2 h0 n0 Z0 hlt) hZ (ow hw 135 rfl) (ow hw 128 rfl) (by decide) (by decide)) (g := (mkF m 2 #[vr a0, vi p1, vi p2, .unset, .unset] [.int p2, .int p1])) rfl (by rw [hml]; rfl) (argsL := [.int p1, .int p2]) (rest := []) (lenOf pd_17 rfl) rfl (oW rfl rfl) (hb hby d21_2) (fun _ _ => ⟨rfl, e0, (by decide : 0 + 0 ≤ _), (by decide : 0 + 0 ≤ _)⟩)
  dsimp only [Pt.U, Pt.locs, Pt.cells, Pt.slots] at X1 l1 y1 z1 st1 hQ1
  rw [l1, y1, z1] at X1
  obtain ⟨rfl, N1q, e1⟩ := hQ1
  have N1 := Fr.app N0 N1q
  refine Go.st (S' := T1.setTop (mkF m 10 #[vr a0, vi p1, vi p2, vi (p2 - p1), .unset] [.int (p2 - p1)])) (fun _ kk => st1 _ (XS.iloadN X1.here hx rfl (hb hby d21_5) rfl (XS.iloadN X1.here hx rfl (hb hby d21_6) rfl (XS.isub X1.here hx rfl (hb hby d21_7) rfl (XS.istoreN X1.here hx rfl (hb hby d21_8) rfl (l' := #[vr a0, vi p1, vi p2, vi (p2 - p1), .unset]) rfl (XS.iloadN X1.here hx rfl (hb hby d21_9) rfl kk)))))) ?_
  obtain ⟨T2, h2, k2, X2, e2, E2, A2, E_b2, st2⟩ := newPE X1 hx hZ (ow hw 0 rfl) e1 (g := (mkF m 10 #[vr a0, vi p1, vi p2, vi (p2 - p1), .unset] [.int (p2 - p1)])) rfl (hb hby d21_10) rfl (own_nn (by omega)) (cap := 6) (by rw [own_nat32 (by omega)]; omega) (by decide) (by decide : 0 + 1 ≤ _) (by decide : 0 + 6 ≤ _) (ad := "[B") rfl
  obtain ⟨b2, g2⟩ : ∃ z, z = h0.size := ⟨_, rfl⟩
  rw [← g2] at A2 E_b2 st2
  have ne_a0_b2 : a0 ≠ b2 := Nat.ne_of_lt (Nat.lt_of_lt_of_le V_a0.lt (Nat.le_of_eq g2.symm))
  have g_b2 : n0 ≤ b2 := Nat.le_trans Z0 (Nat.le_of_eq g2.symm)
  have sz_b2 : h0.size ≤ b2 := Nat.le_trans (Keep.refl h0 []).1 (Nat.le_of_eq g2.symm)
  have V_a0 := V_a0.ext E2
  have Zs3 := Nat.le_trans Z0 E2.1
  have Kp4 := (Keep.refl h0 []).ext E2
  have V_b2 : Arv Z h2 b2 k2 .byte (p2 - p1) [] (.int 0) := Arv.new A2 (own_nn (by omega))
  refine Go.st (S' := T2.setTop (mkF m 19 #[vr a0, vi p1, vi p2, vi (p2 - p1), vr b2] [.int 0, .ref b2, .int p1, .ref a0])) (fun _ kk => st2 _ (XS.astore X2.here hx rfl (hb hby d21_12) rfl rfl (l' := #[vr a0, vi p1, vi p2, vi (p2 - p1), vr b2]) rfl (XS.aloadN X2.here hx rfl (hb hby d21_14) rfl rfl (XS.iloadN X2.here hx rfl (hb hby d21_15) rfl (XS.aload X2.here hx rfl (hb hby d21_16) rfl rfl (XS.iconst X2.here hx rfl (hb hby d21_18) kk)))))) ?_
  refine Go.st (S' := T2.setTop (mkF m 20 #[vr a0, vi p1, vi p2, vi (p2 - p1), vr b2] [.ref a0, .int 0, .ref b2, .int p1, .ref a0])) (fun _ kk => XS.aloadN X2.here hx rfl (hb hby d21_19) rfl rfl kk) ?_
  obtain ⟨cl5, Ar5, -, S5, Ng5, -, -⟩ := (id V_a0)
  refine Go.st (S' := T2.setTop (mkF m 21 #[vr a0, vi p1, vi p2, vi (p2 - p1), vr b2] [.int z, .int 0, .ref b2, .int p1, .ref a0])) (fun _ kk => X2.arraylength hx (by rw [e2]; exact Ar5.1) (State.isArrayOf_alike hZ.alike Ar5.2.1) (g := (mkF m 20 #[vr a0, vi p1, vi p2, vi (p2 - p1), vr b2] [.ref a0, .int 0, .ref b2, .int p1, .ref a0])) rfl rfl (hb hby d21_20) _ (by rw [len_of S5 Ng5]; exact kk)) ?_
  refine Go.st (S' := T2.setTop (mkF m 24 #[vr a0, vi p1, vi p2, vi (p2 - p1), vr b2] [.int (p2 - p1), .int (z - p1), .int 0, .ref b2, .int p1, .ref a0])) (fun _ kk => XS.iloadN X2.here hx rfl (hb hby d21_21) rfl (XS.isub X2.here hx rfl (hb hby d21_22) rfl (XS.iloadN X2.here hx rfl (hb hby d21_23) rfl kk))) ?_
  obtain ⟨_, _, ⟨T6, L6, k6, n6⟩, -, X6, ⟨Lc6, hQ6, l6, y6, z6⟩, st6⟩ := Jvm.LawKit.callS X2 hx (y := mN17) hown (mvT hZ (ow hw 136 rfl)) (mvT hZ (ow hw 10 rfl)) (mvT hZ (ow hw 11 rfl)) (mvT hZ (ow hw 12 rfl)) (by decide) (backOf (W := 4) (rmMin l Z az hw [] (z - p1) (p2 - p1)  h2 n0 Zs3 ) hZ (ow hw 12 rfl) (ow hw 11 rfl) (by decide) (by decide)) (g := (mkF m 24 #[vr a0, vi p1, vi p2, vi (p2 - p1), vr b2] [.int (p2 - p1), .int (z - p1), .int 0, .ref b2, .int p1, .ref a0])) rfl (by rw [hml]; rfl) (argsL := [.int (z - p1), .int (p2 - p1)]) (rest := [.int 0, .ref b2, .int p1, .ref a0]) (lenOf pd_1 rfl) rfl (oW rfl rfl) (hb hby d21_24) (fun _ _ => ⟨rfl, e2, (by decide : 1 + 0 ≤ _), (by decide : 6 + 0 ≤ _)⟩)
  dsimp only [Pt.U, Pt.locs, Pt.cells, Pt.slots] at X6 l6 y6 z6 st6 hQ6
  rw [l6, y6, z6] at X6
  obtain ⟨hv6, N6q, e6⟩ := hQ6
  subst hv6
  have N6 := Fr.app N1 N6q
  refine Go.st (S' := T6.setTop (mkF m 27 #[vr a0, vi p1, vi p2, vi (p2 - p1), vr b2] [.int (fMin (z - p1) (p2 - p1)), .int 0, .ref b2, .int p1, .ref a0])) st6 ?_
  rw [show (fMin (z - p1) (p2 - p1)) = (p2 - p1) from own_min hz hr]
  obtain ⟨T7, h7, X7, e7, K7, Va7, st7⟩ := own_copy X6 hx hZ hown (ow hw 137 rfl) (ow hw 140 rfl) (ow hw 138 rfl) (ow hw 139 rfl) e6 V_a0 V_b2 (us := (own_sl bs p1 p2).map .int) (own_nn hr.1) (by decide) (own_nn (by omega)) (by rw [own_nat32 hr.1, own_nat32 (by omega), own_nat32 (by omega)]; omega) (by rw [show (0 : Int32).toNatClampNeg = 0 from by decide]; omega) (own_hu (n := 0) hr hd) (g := (mkF m 27 #[vr a0, vi p1, vi p2, vi (p2 - p1), vr b2] [.int (p2 - p1), .int 0, .ref b2, .int p1, .ref a0])) rfl (by rw [hml]; rfl) (rest := []) rfl (hb hby d21_27) (by decide) (by show 2 * 0 + 0 + _ ≤ _; decide)
  have N7 := Fr.app N6 (own_frc (a := ((0 : Int32)).toNatClampNeg) (b := ((p2 - p1)).toNatClampNeg) g_b2)
  have V_a0 := V_a0.keep K7 (ninS ne_a0_b2 nin0)
  have E_b2 := E_b2.keep K7
  have Zs8 := Nat.le_trans Zs3 K7.1
  have Kp9 := Kp4.trans K7 (allS (Or.inr sz_b2) all0)
  refine Go.st (S' := T7.setTop (mkF m 32 #[vr a0, vi p1, vi p2, vi (p2 - p1), vr b2] [.ref b2])) (fun _ kk => st7 _ (XS.aload X7.here hx rfl (hb hby d21_30) rfl rfl kk)) ?_
  exact Go.retA X7 hx hlk Bd.returns rfl rfl (hb hby d21_32) (by rw [e7]; exact ⟨_, _, _, rfl, N7, Kp9, Va7, hd, E_b2, sz_b2⟩) (by decide) (by decide)
theorem own_clone {p : Program} {l : Launch} {e : Env} {R : Room} {s : State} {m : MethodId} {args : Array Value} {below : List Frame} {meth : Method} {c : Code} {T : State} {locs : List Loc} {cells slots : Nat} {Z : State} {az : Array Value} {h : Heap} (X : Stand p l e R s m args below meth c T locs cells slots) (hx : p.tables.exec = Jvm.exec) (hZ : Z.Warmed39 s.vm) {own : String} {index : Nat} (hown : s.vm.findClass own = some m.cls)
    (w1 : (Cond.methodLink own index ⟨"[B", "clone", "()Ljava/lang/Object;"⟩).before az Z = true) (w2 : (Cond.sameMethod "[B" "java/lang/Object" "clone" "()Ljava/lang/Object;").before az Z = true) (w3 : (Cond.native ⟨"java/lang/Object", "clone", "()Ljava/lang/Object;"⟩).before az Z = true)
    (w4 : (Cond.instanceMethod ⟨"java/lang/Object", "clone", "()Ljava/lang/Object;"⟩).before az Z = true) (w5 : (Cond.selects "[B" ⟨"[B", "clone", "()Ljava/lang/Object;"⟩ ⟨"java/lang/Object", "clone", "()Ljava/lang/Object;"⟩).before az Z = true) (w6 : (Cond.castable "[B" "java/lang/Cloneable").before az Z = true)
    (eT : T.heap = h) {a : Addr} {k : ClassId} {z : Int32} {vs : List Value} (F : Arv Z h a k .byte z vs (.int 0)) (E : Exa Z h a "[B") {g : JFrame} (hg : g.method = m) (hsize : g.locals.size = c.maxLocals) {rest : List Value} (hst : g.stack = .ref a :: rest) (hd : decode c.code g.pc = .ok (.invokevirtual index, 3))
    (hf : 1 ≤ R.frames) {W cap : Nat} (hW : 2 * g.monitorRoom + (rest.map fun v => v.category).sum ≤ W) (hl : W + 14 ≤ R.locals) (hcap : z.toNatClampNeg ≤ cap) (hc : cells + 1 ≤ R.cells) (hsl : slots + cap ≤ R.slots) :
    ∃ T' h', Stand p l e R s m args below meth c T' locs (cells + 1) (slots + cap) ∧ T'.heap = h' ∧ Ext h h' ∧ Arv Z h' h.size k .byte z vs (.int 0) ∧ Exa Z h' h.size "[B" ∧
      ∀ target, Steps p.tables e below (T'.setTop { g with pc := g.pc + 3, stack := .ref h.size :: rest }) target → Steps p.tables e below (T.setTop g) target := by
  obtain ⟨cl, A, q1, S, q3, H, G⟩ := F
  obtain ⟨T', h', X', e', ex, A', E', st⟩ := cloneA X hx hZ hown w1 w2 w3 w4 w5 w6 eT A E (fitC_of A fun i hi v hv => by cases (H i hi).symm.trans hv; exact G i hi) hg hsize hst hd hf hW hl (by rw [S]; exact hcap) hc hsl
  exact ⟨T', h', X', e', ex, ⟨cloneOf cl, A', q1, S, q3, H, G⟩, E', st⟩
theorem d20_0 : decode jdk_65_method_132_code 0 = .ok (.iload_n 1, 1) := by decide +kernel
theorem d20_1 : decode jdk_65_method_132_code 1 = .ok (.ifCond .ne 9, 3) := by decide +kernel
theorem d20_4 : decode jdk_65_method_132_code 4 = .ok (.iload_n 2, 1) := by decide +kernel
theorem d20_5 : decode jdk_65_method_132_code 5 = .ok (.aload_n 0, 1) := by decide +kernel
theorem d20_6 : decode jdk_65_method_132_code 6 = .ok (.arraylength, 1) := by decide +kernel
theorem d20_7 : decode jdk_65_method_132_code 7 = .ok (.if_icmp .eq 10, 3) := by decide +kernel
theorem d20_10 : decode jdk_65_method_132_code 10 = .ok (.aload_n 0, 1) := by decide +kernel
theorem d20_11 : decode jdk_65_method_132_code 11 = .ok (.iload_n 1, 1) := by decide +kernel
theorem d20_12 : decode jdk_65_method_132_code 12 = .ok (.iload_n 2, 1) := by decide +kernel
theorem d20_13 : decode jdk_65_method_132_code 13 = .ok (.invokestatic 339, 3) := by decide +kernel
theorem d20_16 : decode jdk_65_method_132_code 16 = .ok (.areturn, 1) := by decide +kernel
theorem d20_17 : decode jdk_65_method_132_code 17 = .ok (.aload_n 0, 1) := by decide +kernel
theorem d20_18 : decode jdk_65_method_132_code 18 = .ok (.invokevirtual 310, 3) := by decide +kernel
theorem d20_21 : decode jdk_65_method_132_code 21 = .ok (.checkcast 311, 3) := by decide +kernel
theorem d20_24 : decode jdk_65_method_132_code 24 = .ok (.areturn, 1) := by decide +kernel
theorem ef_20 (m : MethodId) (a0 : Addr) (p1 : Int32) (p2 : Int32) : entryFrame m #[(.ref a0), (.int p1), (.int p2)] 3 = mkF m 0 #[.val (.ref a0), .val (.int p1), .val (.int p2)] [] := by first | (simp [entryFrame, mkF, argsToLocals, Value.category]; done) | rfl
theorem rmCR (l : Launch) (Z : State) (az : Array Value) (hw : HW az Z) (ws : List Jvm.Cond) (a0 : Addr) (p1 : Int32) (p2 : Int32) (k0 : ClassId) (z : Int32) (bs : List Int32) (h0 : Heap) (n0 : Nat) (Z0 : n0 ≤ h0.size) (V_a0 : Arv Z h0 a0 k0 .byte z (bs.map .int) (.int 0)) (hz : z.toInt = bs.length) (hbs : ∀ b ∈ bs, 0 ≤ b.toInt ∧ b.toInt ≤ 127) (E_a0 : Exa Z h0 a0 "[B") (hr : 0 ≤ p1.toInt ∧ p1.toInt ≤ p2.toInt ∧ p2.toInt ≤ bs.length) (hs6 : bs.length ≤ 6) :
    MF l mN30 (Jvm.Cond.code mN30 jdk_65_method_132_code 3 (some (.array .byte)) :: ws) (rO 2 1 6 56) #[(.ref a0), (.int p1), (.int p2)] Z h0 (Q_cr Z bs p1 p2 h0 n0) := by
  refine MetFree.of_bodySF (plainFor_of_name pn_5) hisR ?_
  intro p e s m args below meth c s₁ Bd hml0 hP hK
  obtain ⟨rfl, hZ, hh⟩ := hP
  have hx := Bd.exec
  have hby := Bd.bytes
  have hlk : meth.locks = false := Bd.notSynchronized
  have hml : c.maxLocals = 3 := hml0
  have hown : s.vm.findClass "java/util/Arrays" = some m.cls := findClass_of_methodNamed Bd.named
  have X0 : Stand p l e (rO 2 1 6 56) s m #[(.ref a0), (.int p1), (.int p2)] below meth c s₁ [] 0 0 := Stand.of_body Bd
  have e0 : s₁.heap = h0 := by rw [← hh, Bd.state]; rfl
  have N0 := Fr.nil n0
  show Go p e below s ((Q_cr Z bs p1 p2 h0 n0)) (rO 2 1 6 56).cells (rO 2 1 6 56).slots (s₁.setTop (entryFrame m #[(.ref a0), (.int p1), (.int p2)] 3))
  rw [ef_20 m a0 p1 p2]
  refine Go.st (S' := s₁.setTop (mkF m 1 #[vr a0, vi p1, vi p2] [.int p1])) (fun _ kk => XS.iloadN X0.here hx rfl (hb hby d20_0) rfl kk) ?_
  by_cases hc1 : p1 = (0 : Int32)
  · refine Go.st (S' := s₁.setTop (mkF m 6 #[vr a0, vi p1, vi p2] [.ref a0, .int p2])) (fun _ kk => XS.ifNo X0.here hx rfl (hb hby d20_1) rfl ((if0 _ _).trans (teq hc1).2) (XS.iloadN X0.here hx rfl (hb hby d20_4) rfl (XS.aloadN X0.here hx rfl (hb hby d20_5) rfl rfl kk))) ?_
    obtain ⟨cl2, Ar2, -, S2, Ng2, -, -⟩ := (id V_a0)
    refine Go.st (S' := s₁.setTop (mkF m 7 #[vr a0, vi p1, vi p2] [.int z, .int p2])) (fun _ kk => X0.arraylength hx (by rw [e0]; exact Ar2.1) (State.isArrayOf_alike hZ.alike Ar2.2.1) (g := (mkF m 6 #[vr a0, vi p1, vi p2] [.ref a0, .int p2])) rfl rfl (hb hby d20_6) _ (by rw [len_of S2 Ng2]; exact kk)) ?_
    by_cases hc3 : p2 = z
    · refine Go.st (S' := s₁.setTop (mkF m 18 #[vr a0, vi p1, vi p2] [.ref a0])) (fun _ kk => XS.icmpYes X0.here hx rfl (pc0 := 7) (pc' := 17) rfl (hb hby d20_7) rfl (teq hc3).1 (by decide) (by decide) (XS.aloadN X0.here hx rfl (hb hby d20_17) rfl rfl kk)) ?_
      obtain ⟨T4, h4, X4, e4, Ex4, A4, E4, st4⟩ := own_clone X0 hx hZ hown (ow hw 207 rfl) (ow hw 208 rfl) (ow hw 212 rfl) (ow hw 210 rfl) (ow hw 211 rfl) (ow hw 213 rfl) e0 V_a0 E_a0 (g := (mkF m 18 #[vr a0, vi p1, vi p2] [.ref a0])) rfl (by rw [hml]; rfl) (rest := []) rfl (hb hby d20_18) (by decide) (W := 0) (by show 2 * 0 + 0 ≤ _; decide) (by decide) (cap := 6) (by rw [own_nat32 (by omega)]; omega) (by decide : 0 + 1 ≤ _) (by decide : 0 + 6 ≤ _)
      obtain ⟨b4, g4⟩ : ∃ z, z = h0.size := ⟨_, rfl⟩
      rw [← g4] at A4 E4 st4
      have ne_a0_b4 : a0 ≠ b4 := Nat.ne_of_lt (Nat.lt_of_lt_of_le V_a0.lt (Nat.le_of_eq g4.symm))
      have g_b4 : n0 ≤ b4 := Nat.le_trans Z0 (Nat.le_of_eq g4.symm)
      have sz_b4 : h0.size ≤ b4 := Nat.le_trans (Keep.refl h0 []).1 (Nat.le_of_eq g4.symm)
      have V_a0 := V_a0.ext Ex4
      have E_a0 := E_a0.ext Ex4
      have Zs5 := Nat.le_trans Z0 Ex4.1
      have Kp6 := (Keep.refl h0 []).ext Ex4
      refine Go.st (S' := T4.setTop (mkF m 21 #[vr a0, vi p1, vi p2] [.ref b4])) st4 ?_
      obtain ⟨T7, X7, e7, st7⟩ := castY X4 hx hZ hown (ow hw 214 rfl) e4 (Ins.self E4) (g := (mkF m 21 #[vr a0, vi p1, vi p2] [.ref b4])) rfl rfl (hb hby d20_21)
      refine Go.st (S' := T7.setTop (mkF m 24 #[vr a0, vi p1, vi p2] [.ref b4])) st7 ?_
      subst hc1 hc3
      exact Go.retA X7 hx hlk Bd.returns rfl rfl (hb hby d20_24) (by rw [e7]; exact ⟨_, _, p2, rfl, N0, Kp6, by rw [own_slw hz]; exact A4, (Int.sub_zero _).symm, E4, sz_b4⟩) (by decide) (by decide)
    · refine Go.st (S' := s₁.setTop (mkF m 13 #[vr a0, vi p1, vi p2] [.int p2, .int p1, .ref a0])) (fun _ kk => XS.icmpNo X0.here hx rfl (hb hby d20_7) rfl (feq hc3).1 (XS.aloadN X0.here hx rfl (hb hby d20_10) rfl rfl (XS.iloadN X0.here hx rfl (hb hby d20_11) rfl (XS.iloadN X0.here hx rfl (hb hby d20_12) rfl kk)))) ?_
      obtain ⟨_, _, ⟨T8, L8, k8, n8⟩, -, X8, ⟨Lc8, hQ8, l8, y8, z8⟩, st8⟩ := Jvm.LawKit.callS X0 hx (y := mN31) hown (mvT hZ (ow hw 130 rfl)) (mvT hZ (ow hw 131 rfl)) (mvT hZ (ow hw 128 rfl)) (mvT hZ (ow hw 132 rfl)) (by decide) (backOf (W := 0) (rmRB l Z az hw [] a0 p1 p2 k0 z bs h0 n0 Z0 V_a0 hz hbs hr hs6) hZ (ow hw 132 rfl) (ow hw 128 rfl) (by decide) (by decide)) (g := (mkF m 13 #[vr a0, vi p1, vi p2] [.int p2, .int p1, .ref a0])) rfl (by rw [hml]; rfl) (argsL := [.ref a0, .int p1, .int p2]) (rest := []) (lenOf pd_16 rfl) rfl (oW rfl rfl) (hb hby d20_13) (fun _ _ => ⟨rfl, e0, (by decide : 0 + 1 ≤ _), (by decide : 0 + 6 ≤ _)⟩)
      dsimp only [Pt.U, Pt.locs, Pt.cells, Pt.slots] at X8 l8 y8 z8 st8 hQ8
      rw [l8, y8, z8] at X8
      obtain ⟨b8, kb8, qb8, rfl, N8q, K8, V_b8, hqb8, E_b8, gb8⟩ := hQ8
      have Ex8 := own_extK K8
      have N8 := Fr.app N0 N8q
      have ne_a0_b8 : a0 ≠ b8 := Nat.ne_of_lt (Nat.lt_of_lt_of_le V_a0.lt gb8)
      have g_b8 : n0 ≤ b8 := Nat.le_trans Z0 gb8
      have sz_b8 : h0.size ≤ b8 := Nat.le_trans (Keep.refl h0 []).1 gb8
      have V_a0 := V_a0.ext Ex8
      have E_a0 := E_a0.ext Ex8
      have Zs9 := Nat.le_trans Z0 Ex8.1
      have Kp10 := (Keep.refl h0 []).ext Ex8
      refine Go.st (S' := T8.setTop (mkF m 16 #[vr a0, vi p1, vi p2] [.ref b8])) st8 ?_
      exact Go.retA X8 hx hlk Bd.returns rfl rfl (hb hby d20_16) (by exact ⟨_, _, _, rfl, N8, Kp10, V_b8, hqb8, E_b8, sz_b8⟩) (by decide) (by decide)
  · refine Go.st (S' := s₁.setTop (mkF m 13 #[vr a0, vi p1, vi p2] [.int p2, .int p1, .ref a0])) (fun _ kk => XS.ifYes X0.here hx rfl (pc0 := 1) (pc' := 10) rfl (hb hby d20_1) rfl ((if0 _ _).trans (feq hc1).2) (by decide) (by decide) (XS.aloadN X0.here hx rfl (hb hby d20_10) rfl rfl (XS.iloadN X0.here hx rfl (hb hby d20_11) rfl (XS.iloadN X0.here hx rfl (hb hby d20_12) rfl kk)))) ?_
    obtain ⟨_, _, ⟨T11, L11, k11, n11⟩, -, X11, ⟨Lc11, hQ11, l11, y11, z11⟩, st11⟩ := Jvm.LawKit.callS X0 hx (y := mN31) hown (mvT hZ (ow hw 130 rfl)) (mvT hZ (ow hw 131 rfl)) (mvT hZ (ow hw 128 rfl)) (mvT hZ (ow hw 132 rfl)) (by decide) (backOf (W := 0) (rmRB l Z az hw [] a0 p1 p2 k0 z bs h0 n0 Z0 V_a0 hz hbs hr hs6) hZ (ow hw 132 rfl) (ow hw 128 rfl) (by decide) (by decide)) (g := (mkF m 13 #[vr a0, vi p1, vi p2] [.int p2, .int p1, .ref a0])) rfl (by rw [hml]; rfl) (argsL := [.ref a0, .int p1, .int p2]) (rest := []) (lenOf pd_16 rfl) rfl (oW rfl rfl) (hb hby d20_13) (fun _ _ => ⟨rfl, e0, (by decide : 0 + 1 ≤ _), (by decide : 0 + 6 ≤ _)⟩)
    dsimp only [Pt.U, Pt.locs, Pt.cells, Pt.slots] at X11 l11 y11 z11 st11 hQ11
    rw [l11, y11, z11] at X11
    obtain ⟨b11, kb11, qb11, rfl, N11q, K11, V_b11, hqb11, E_b11, gb11⟩ := hQ11
    have Ex11 := own_extK K11
    have N11 := Fr.app N0 N11q
    have ne_a0_b11 : a0 ≠ b11 := Nat.ne_of_lt (Nat.lt_of_lt_of_le V_a0.lt gb11)
    have g_b11 : n0 ≤ b11 := Nat.le_trans Z0 gb11
    have sz_b11 : h0.size ≤ b11 := Nat.le_trans (Keep.refl h0 []).1 gb11
    have V_a0 := V_a0.ext Ex11
    have E_a0 := E_a0.ext Ex11
    have Zs12 := Nat.le_trans Z0 Ex11.1
    have Kp13 := (Keep.refl h0 []).ext Ex11
    refine Go.st (S' := T11.setTop (mkF m 16 #[vr a0, vi p1, vi p2] [.ref b11])) st11 ?_
    exact Go.retA X11 hx hlk Bd.returns rfl rfl (hb hby d20_16) (by exact ⟨_, _, _, rfl, N11, Kp13, V_b11, hqb11, E_b11, sz_b11⟩) (by decide) (by decide)
theorem own_lo8id {c : Int32} (h : 0 ≤ c.toInt ∧ c.toInt ≤ 127) : own_lo8 c = c := by
  unfold own_lo8
  have q1 := c_i2b c
  have q2 := c_i2b c.toInt8.toInt32
  exact Int32.toInt_inj.mp (by omega)
theorem own_mapid {cs : List Int32} (h : ∀ c ∈ cs, 0 ≤ c.toInt ∧ c.toInt ≤ 127) : cs.map own_lo8 = cs := by
  conv => rhs; rw [← List.map_id cs]
  exact List.map_congr_left fun c hc => own_lo8id (h c hc)
def Q_si (Z : State) (a0 : Addr) (bs : List Int32) (p3 p4 : Int32) (h0 : Heap) (n0 : Nat) (v : Option Value) (h : Heap) (L : List Loc) : Prop := v = none ∧ Fr n0 L ∧ Keep h0 h [a0] ∧ CSt Z h a0 (own_sl bs p3 (p3 + p4))
theorem d17_0 : decode jdk_42_method_11_code 0 = .ok (.aload_n 0, 1) := by decide +kernel
theorem d17_1 : decode jdk_42_method_11_code 1 = .ok (.invokespecial 1, 3) := by decide +kernel
theorem d17_4 : decode jdk_42_method_11_code 4 = .ok (.iload 4, 2) := by decide +kernel
theorem d17_6 : decode jdk_42_method_11_code 6 = .ok (.ifCond .ne 24, 3) := by decide +kernel
theorem d17_9 : decode jdk_42_method_11_code 9 = .ok (.aload_n 0, 1) := by decide +kernel
theorem d17_10 : decode jdk_42_method_11_code 10 = .ok (.ldc 7, 2) := by decide +kernel
theorem d17_12 : decode jdk_42_method_11_code 12 = .ok (.getfield 9, 3) := by decide +kernel
theorem d17_15 : decode jdk_42_method_11_code 15 = .ok (.putfield 9, 3) := by decide +kernel
theorem d17_18 : decode jdk_42_method_11_code 18 = .ok (.aload_n 0, 1) := by decide +kernel
theorem d17_19 : decode jdk_42_method_11_code 19 = .ok (.ldc 7, 2) := by decide +kernel
theorem d17_21 : decode jdk_42_method_11_code 21 = .ok (.getfield 15, 3) := by decide +kernel
theorem d17_24 : decode jdk_42_method_11_code 24 = .ok (.putfield 15, 3) := by decide +kernel
theorem d17_27 : decode jdk_42_method_11_code 27 = .ok (.goto 852, 3) := by decide +kernel
theorem d17_30 : decode jdk_42_method_11_code 30 = .ok (.aload_n 1, 1) := by decide +kernel
theorem d17_31 : decode jdk_42_method_11_code 31 = .ok (.getstatic 86, 3) := by decide +kernel
theorem d17_34 : decode jdk_42_method_11_code 34 = .ok (.if_acmp .ne 312, 3) := by decide +kernel
theorem d17_37 : decode jdk_42_method_11_code 37 = .ok (.getstatic 38, 3) := by decide +kernel
theorem d17_40 : decode jdk_42_method_11_code 40 = .ok (.ifCond .eq 252, 3) := by decide +kernel
theorem d17_43 : decode jdk_42_method_11_code 43 = .ok (.aload_n 2, 1) := by decide +kernel
theorem d17_44 : decode jdk_42_method_11_code 44 = .ok (.iload_n 3, 1) := by decide +kernel
theorem d17_45 : decode jdk_42_method_11_code 45 = .ok (.iload 4, 2) := by decide +kernel
theorem d17_47 : decode jdk_42_method_11_code 47 = .ok (.invokestatic 92, 3) := by decide +kernel
theorem d17_50 : decode jdk_42_method_11_code 50 = .ok (.istore 5, 2) := by decide +kernel
theorem d17_52 : decode jdk_42_method_11_code 52 = .ok (.iload 5, 2) := by decide +kernel
theorem d17_54 : decode jdk_42_method_11_code 54 = .ok (.iload 4, 2) := by decide +kernel
theorem d17_56 : decode jdk_42_method_11_code 56 = .ok (.if_icmp .ne 22, 3) := by decide +kernel
theorem d17_59 : decode jdk_42_method_11_code 59 = .ok (.aload_n 0, 1) := by decide +kernel
theorem d17_60 : decode jdk_42_method_11_code 60 = .ok (.aload_n 2, 1) := by decide +kernel
theorem d17_61 : decode jdk_42_method_11_code 61 = .ok (.iload_n 3, 1) := by decide +kernel
theorem d17_62 : decode jdk_42_method_11_code 62 = .ok (.iload_n 3, 1) := by decide +kernel
theorem d17_63 : decode jdk_42_method_11_code 63 = .ok (.iload 4, 2) := by decide +kernel
theorem d17_65 : decode jdk_42_method_11_code 65 = .ok (.iadd, 1) := by decide +kernel
theorem d17_66 : decode jdk_42_method_11_code 66 = .ok (.invokestatic 54, 3) := by decide +kernel
theorem d17_69 : decode jdk_42_method_11_code 69 = .ok (.putfield 9, 3) := by decide +kernel
theorem d17_72 : decode jdk_42_method_11_code 72 = .ok (.aload_n 0, 1) := by decide +kernel
theorem d17_73 : decode jdk_42_method_11_code 73 = .ok (.iconst 0, 1) := by decide +kernel
theorem d17_74 : decode jdk_42_method_11_code 74 = .ok (.putfield 15, 3) := by decide +kernel
theorem d17_77 : decode jdk_42_method_11_code 77 = .ok (.return_, 1) := by decide +kernel
theorem d17_346 : decode jdk_42_method_11_code 346 = .ok (.aload_n 1, 1) := by decide +kernel
theorem d17_347 : decode jdk_42_method_11_code 347 = .ok (.getstatic 116, 3) := by decide +kernel
theorem d17_350 : decode jdk_42_method_11_code 350 = .ok (.if_acmp .ne 49, 3) := by decide +kernel
theorem d17_399 : decode jdk_42_method_11_code 399 = .ok (.aload_n 1, 1) := by decide +kernel
theorem d17_400 : decode jdk_42_method_11_code 400 = .ok (.getstatic 123, 3) := by decide +kernel
theorem d17_403 : decode jdk_42_method_11_code 403 = .ok (.if_acmp .ne 105, 3) := by decide +kernel
theorem d17_406 : decode jdk_42_method_11_code 406 = .ok (.getstatic 38, 3) := by decide +kernel
theorem d17_409 : decode jdk_42_method_11_code 409 = .ok (.ifCond .eq 34, 3) := by decide +kernel
theorem d17_412 : decode jdk_42_method_11_code 412 = .ok (.aload_n 2, 1) := by decide +kernel
theorem d17_413 : decode jdk_42_method_11_code 413 = .ok (.iload_n 3, 1) := by decide +kernel
theorem d17_414 : decode jdk_42_method_11_code 414 = .ok (.iload 4, 2) := by decide +kernel
theorem d17_416 : decode jdk_42_method_11_code 416 = .ok (.invokestatic 128, 3) := by decide +kernel
theorem d17_419 : decode jdk_42_method_11_code 419 = .ok (.ifCond .ne 24, 3) := by decide +kernel
theorem d17_422 : decode jdk_42_method_11_code 422 = .ok (.aload_n 0, 1) := by decide +kernel
theorem d17_423 : decode jdk_42_method_11_code 423 = .ok (.aload_n 2, 1) := by decide +kernel
theorem d17_424 : decode jdk_42_method_11_code 424 = .ok (.iload_n 3, 1) := by decide +kernel
theorem d17_425 : decode jdk_42_method_11_code 425 = .ok (.iload_n 3, 1) := by decide +kernel
theorem d17_426 : decode jdk_42_method_11_code 426 = .ok (.iload 4, 2) := by decide +kernel
theorem d17_428 : decode jdk_42_method_11_code 428 = .ok (.iadd, 1) := by decide +kernel
theorem d17_429 : decode jdk_42_method_11_code 429 = .ok (.invokestatic 54, 3) := by decide +kernel
theorem d17_432 : decode jdk_42_method_11_code 432 = .ok (.putfield 9, 3) := by decide +kernel
theorem d17_435 : decode jdk_42_method_11_code 435 = .ok (.aload_n 0, 1) := by decide +kernel
theorem d17_436 : decode jdk_42_method_11_code 436 = .ok (.iconst 0, 1) := by decide +kernel
theorem d17_437 : decode jdk_42_method_11_code 437 = .ok (.putfield 15, 3) := by decide +kernel
theorem d17_440 : decode jdk_42_method_11_code 440 = .ok (.goto 439, 3) := by decide +kernel
theorem d17_879 : decode jdk_42_method_11_code 879 = .ok (.return_, 1) := by decide +kernel
theorem ef_17 (m : MethodId) (a0 : Addr) (a1 : Addr) (a2 : Addr) (p3 : Int32) (p4 : Int32) : entryFrame m #[(.ref a0), (.ref a1), (.ref a2), (.int p3), (.int p4)] 11 = mkF m 0 #[.val (.ref a0), .val (.ref a1), .val (.ref a2), .val (.int p3), .val (.int p4), .unset, .unset, .unset, .unset, .unset, .unset] [] := by first | (simp [entryFrame, mkF, argsToLocals, Value.category]; done) | rfl
theorem rmSI_uu (l : Launch) (Z : State) (az : Array Value) (hw : HW az Z) (ws : List Jvm.Cond) (a0 : Addr) (a1 : Addr) (a2 : Addr) (p3 : Int32) (p4 : Int32) (zc : Int32) (fm : Value) (uu ui ua : Addr) (k0 : ClassId) (z : Int32) (bs : List Int32) (h0 : Heap) (n0 : Nat) (Z0 : n0 ≤ h0.size) (S_C : tS0 Z h0 (.int zc)) (hzc : ¬ zc = 0) (S_F : tS1 Z h0 fm) (hfm : fm.isRef = true) (S_uu : tS2 Z h0 (.ref uu)) (S_ui : tS3 Z h0 (.ref ui)) (S_ua : tS4 Z h0 (.ref ua)) (nui : uu ≠ ui) (nua : uu ≠ ua) (nia : ui ≠ ua) (E_a0 : Exa Z h0 a0 "java/lang/String") (F_coder : tF0 Z h0 a0 (.int 0)) (F_value : tF1 Z h0 a0 .null) (g_a0 : n0 ≤ a0) (ne : a0 ≠ a2) (V_a2 : Arv Z h0 a2 k0 .byte z (bs.map .int) (.int 0)) (hz : z.toInt = bs.length) (hbs : ∀ b ∈ bs, 0 ≤ b.toInt ∧ b.toInt ≤ 127) (E_a2 : Exa Z h0 a2 "[B") (ho : 0 ≤ p3.toInt ∧ 0 ≤ p4.toInt ∧ p3.toInt + p4.toInt ≤ bs.length) (hs6 : bs.length ≤ 6) (h1 : a1 = uu) (hn4 : ¬ p4 = 0) :
    MF l mN18 (Jvm.Cond.codeWith mN18 jdk_42_method_11_code 11 none [((800 : Nat), (813 : Nat), (816 : Nat), (202 : Nat))] :: ws) (rO 3 1 6 71) #[(.ref a0), (.ref a1), (.ref a2), (.int p3), (.int p4)] Z h0 (Q_si Z a0 bs p3 p4 h0 n0) := by
  refine MetFree.of_bodySF (plainFor_of_name pn_1) hisWith ?_
  intro p e s m args below meth c s₁ Bd hml0 hP hK
  obtain ⟨rfl, hZ, hh⟩ := hP
  have hx := Bd.exec
  have hby := Bd.bytes
  have hlk : meth.locks = false := Bd.notSynchronized
  have hml : c.maxLocals = 11 := hml0
  have hown : s.vm.findClass "java/lang/String" = some m.cls := findClass_of_methodNamed Bd.named
  have hnm := (name_of_methodNamed Bd.named Bd.method).1
  have X0 : Stand p l e (rO 3 1 6 71) s m #[(.ref a0), (.ref a1), (.ref a2), (.int p3), (.int p4)] below meth c s₁ [] 0 0 := Stand.of_body Bd
  have e0 : s₁.heap = h0 := by rw [← hh, Bd.state]; rfl
  have N0 := Fr.nil n0
  show Go p e below s ((Q_si Z a0 bs p3 p4 h0 n0)) (rO 3 1 6 71).cells (rO 3 1 6 71).slots (s₁.setTop (entryFrame m #[(.ref a0), (.ref a1), (.ref a2), (.int p3), (.int p4)] 11))
  rw [ef_17 m a0 a1 a2 p3 p4]
  subst h1
  have hl := own_lim hz ho
  have hr : 0 ≤ p3.toInt ∧ p3.toInt ≤ (p3 + p4).toInt ∧ (p3 + p4).toInt ≤ bs.length := by omega
  refine Go.st (S' := s₁.setTop (mkF m 1 #[vr a0, vr a1, vr a2, vi p3, vi p4, .unset, .unset, .unset, .unset, .unset, .unset] [.ref a0])) (fun _ kk => XS.aloadN X0.here hx rfl (hb hby d17_0) rfl rfl kk) ?_
  obtain ⟨T1, X1, e1, st1⟩ := initO X0 hx hZ hown (ow hw 111 rfl) (ow hw 24 rfl) (ow hw 25 rfl) e0 (g := (mkF m 1 #[vr a0, vr a1, vr a2, vi p3, vi p4, .unset, .unset, .unset, .unset, .unset, .unset] [.ref a0])) rfl (by rw [hml]; rfl) rfl (hb hby d17_1) (by decide) (W := 0) (oW rfl rfl) (by decide)
  refine Go.st (S' := T1.setTop (mkF m 31 #[vr a0, vr a1, vr a2, vi p3, vi p4, .unset, .unset, .unset, .unset, .unset, .unset] [.ref a1])) (fun _ kk => st1 _ (XS.iload X1.here hx rfl (hb hby d17_4) rfl (XS.ifYes X1.here hx rfl (pc0 := 6) (pc' := 30) rfl (hb hby d17_6) rfl ((if0 _ _).trans (feq hn4).2) (by decide) (by decide) (XS.aloadN X1.here hx rfl (hb hby d17_30) rfl rfl kk)))) ?_
  obtain ⟨T2, X2, e2, st2⟩ := getS2 X1 hx hZ hown (host := "") (Or.inl (ow hw 112 rfl)) Via.refl e1 S_uu (g := (mkF m 31 #[vr a0, vr a1, vr a2, vi p3, vi p4, .unset, .unset, .unset, .unset, .unset, .unset] [.ref a1])) rfl (hb hby d17_31)
  refine Go.st (S' := T2.setTop (mkF m 37 #[vr a0, vr a1, vr a2, vi p3, vi p4, .unset, .unset, .unset, .unset, .unset, .unset] [])) (fun _ kk => st2 _ (Jvm.RoadKit.acmp (g := (mkF m 34 #[vr a0, vr a1, vr a2, vi p3, vi p4, .unset, .unset, .unset, .unset, .unset, .unset] [.ref a1, .ref a1])) X2 hx rfl rfl rfl (pc0 := 34) (pc' := 37) (same := true) rfl (hb hby d17_34) rfl (decide_eq_true rfl) (by decide) (by decide) kk)) ?_
  obtain ⟨T3, X3, e3, st3⟩ := getS2 X2 hx hZ hown (host := "") (Or.inl (ow hw 118 rfl)) Via.refl e2 S_C (g := (mkF m 37 #[vr a0, vr a1, vr a2, vi p3, vi p4, .unset, .unset, .unset, .unset, .unset, .unset] [])) rfl (hb hby d17_37)
  refine Go.st (S' := T3.setTop (mkF m 47 #[vr a0, vr a1, vr a2, vi p3, vi p4, .unset, .unset, .unset, .unset, .unset, .unset] [.int p4, .int p3, .ref a2])) (fun _ kk => st3 _ (XS.ifNo X3.here hx rfl (hb hby d17_40) rfl ((if0 _ _).trans (feq hzc).1) (XS.aloadN X3.here hx rfl (hb hby d17_43) rfl rfl (XS.iloadN X3.here hx rfl (hb hby d17_44) rfl (XS.iload X3.here hx rfl (hb hby d17_45) rfl kk))))) ?_
  obtain ⟨_, _, ⟨T4, L4, k4, n4⟩, -, X4, ⟨Lc4, hQ4, l4, y4, z4⟩, st4⟩ := Jvm.LawKit.callS X3 hx (y := mN26) hown (mvT hZ (ow hw 206 rfl)) (mvT hZ (ow hw 124 rfl)) (mvT hZ (ow hw 121 rfl)) (mvT hZ (ow hw 125 rfl)) (by decide) (backOf (W := 0) (rmCP l Z az hw [] a2 p3 p4 k0 z bs h0 n0 Z0 V_a2 hz hbs ho) hZ (ow hw 125 rfl) (ow hw 121 rfl) (by decide) (by decide)) (g := (mkF m 47 #[vr a0, vr a1, vr a2, vi p3, vi p4, .unset, .unset, .unset, .unset, .unset, .unset] [.int p4, .int p3, .ref a2])) rfl (by rw [hml]; rfl) (argsL := [.ref a2, .int p3, .int p4]) (rest := []) (lenOf pd_15 rfl) rfl (oW rfl rfl) (hb hby d17_47) (fun _ _ => ⟨rfl, e3, (by decide : 0 + 0 ≤ _), (by decide : 0 + 0 ≤ _)⟩)
  dsimp only [Pt.U, Pt.locs, Pt.cells, Pt.slots] at X4 l4 y4 z4 st4 hQ4
  rw [l4, y4, z4] at X4
  obtain ⟨hv4, N4q, e4⟩ := hQ4
  subst hv4
  have N4 := Fr.app N0 N4q
  refine Go.st (S' := T4.setTop (mkF m 60 #[vr a0, vr a1, vr a2, vi p3, vi p4, vi p4, .unset, .unset, .unset, .unset, .unset] [.ref a0])) (fun _ kk => st4 _ (XS.istore X4.here hx rfl (hb hby d17_50) rfl (l' := #[vr a0, vr a1, vr a2, vi p3, vi p4, vi p4, .unset, .unset, .unset, .unset, .unset]) rfl (XS.iload X4.here hx rfl (hb hby d17_52) rfl (XS.iload X4.here hx rfl (hb hby d17_54) rfl (XS.icmpNo X4.here hx rfl (hb hby d17_56) rfl (teq (rfl : p4 = p4)).2 (XS.aloadN X4.here hx rfl (hb hby d17_59) rfl rfl kk)))))) ?_
  refine Go.st (S' := T4.setTop (mkF m 66 #[vr a0, vr a1, vr a2, vi p3, vi p4, vi p4, .unset, .unset, .unset, .unset, .unset] [.int (p3 + p4), .int p3, .ref a2, .ref a0])) (fun _ kk => XS.aloadN X4.here hx rfl (hb hby d17_60) rfl rfl (XS.iloadN X4.here hx rfl (hb hby d17_61) rfl (XS.iloadN X4.here hx rfl (hb hby d17_62) rfl (XS.iload X4.here hx rfl (hb hby d17_63) rfl (XS.iadd X4.here hx rfl (hb hby d17_65) rfl kk))))) ?_
  obtain ⟨_, _, ⟨T5, L5, k5, n5⟩, -, X5, ⟨Lc5, hQ5, l5, y5, z5⟩, st5⟩ := Jvm.LawKit.callS X4 hx (y := mN30) hown (mvT hZ (ow hw 126 rfl)) (mvT hZ (ow hw 127 rfl)) (mvT hZ (ow hw 128 rfl)) (mvT hZ (ow hw 129 rfl)) (by decide) (backOf (W := 1) (rmCR l Z az hw [] a2 p3 (p3 + p4) k0 z bs h0 n0 Z0 V_a2 hz hbs E_a2 hr hs6) hZ (ow hw 129 rfl) (ow hw 128 rfl) (by decide) (by decide)) (g := (mkF m 66 #[vr a0, vr a1, vr a2, vi p3, vi p4, vi p4, .unset, .unset, .unset, .unset, .unset] [.int (p3 + p4), .int p3, .ref a2, .ref a0])) rfl (by rw [hml]; rfl) (argsL := [.ref a2, .int p3, .int (p3 + p4)]) (rest := [.ref a0]) (lenOf pd_16 rfl) rfl (oW rfl rfl) (hb hby d17_66) (fun _ _ => ⟨rfl, e4, (by decide : 0 + 1 ≤ _), (by decide : 0 + 6 ≤ _)⟩)
  dsimp only [Pt.U, Pt.locs, Pt.cells, Pt.slots] at X5 l5 y5 z5 st5 hQ5
  rw [l5, y5, z5] at X5
  obtain ⟨b5, kb5, qb5, rfl, N5q, K5, V_b5, hqb5, E_b5, gb5⟩ := hQ5
  have Ex5 := own_extK K5
  have N5 := Fr.app N4 N5q
  have ne_a2_b5 : a2 ≠ b5 := Nat.ne_of_lt (Nat.lt_of_lt_of_le V_a2.lt gb5)
  have ne_a0_b5 : a0 ≠ b5 := Nat.ne_of_lt (Nat.lt_of_lt_of_le E_a0.lt gb5)
  have g_b5 : n0 ≤ b5 := Nat.le_trans Z0 gb5
  have sz_b5 : h0.size ≤ b5 := Nat.le_trans (Keep.refl h0 [a0]).1 gb5
  have S_C := S_C.ext Ex5
  have S_F := S_F.ext Ex5
  have S_uu := S_uu.ext Ex5
  have S_ui := S_ui.ext Ex5
  have S_ua := S_ua.ext Ex5
  have V_a2 := V_a2.ext Ex5
  have E_a2 := E_a2.ext Ex5
  have E_a0 := E_a0.ext Ex5
  have F_coder := F_coder.ext Ex5
  have F_value := F_value.ext Ex5
  have Zs6 := Nat.le_trans Z0 Ex5.1
  have Kp7 := (Keep.refl h0 [a0]).ext Ex5
  refine Go.st (S' := T5.setTop (mkF m 69 #[vr a0, vr a1, vr a2, vi p3, vi p4, vi p4, .unset, .unset, .unset, .unset, .unset] [.ref b5, .ref a0])) st5 ?_
  obtain ⟨T8, h8, X8, e8, W8, st8⟩ := putF X5 hx hZ hown (host := "") (Or.inl (ow hw 141 rfl)) Via.refl rfl F_value E_a0 (Or.inr ⟨(ow hw 60 rfl), rfl, hnm⟩) (ow hw 59 rfl) (ty := (.array .byte)) (by decide) rfl rfl (g := (mkF m 69 #[vr a0, vr a1, vr a2, vi p3, vi p4, vi p4, .unset, .unset, .unset, .unset, .unset] [.ref b5, .ref a0])) rfl rfl (hb hby d17_69)
  have N8 := Fr.snoc X8 N5 g_a0
  have F_value := F_value.same W8
  have S_C := S_C.wr W8
  have S_F := S_F.wr W8
  have S_uu := S_uu.wr W8
  have S_ui := S_ui.wr W8
  have S_ua := S_ua.wr W8
  have V_a2 := V_a2.other W8 (Ne.symm ne)
  have E_a2 := E_a2.wr W8
  have E_a0 := E_a0.wr W8
  have F_coder := F_coder.other W8 (Or.inr (slot_ne (Or.inr (ow hw 61 rfl)) (Or.inr (ow hw 60 rfl)) (by decide) (t := .byte) (t' := (.array .byte)) (by decide) (by decide)))
  have E_b5 := E_b5.wr W8
  have V_b5 := V_b5.other W8 (Ne.symm ne_a0_b5)
  have Zs9 := Nat.le_trans Zs6 (Keep.of_wr W8).1
  have Kp10 := Kp7.wr W8 (Or.inl (List.mem_of_getElem? (i := 0) rfl))
  refine Go.st (S' := T8.setTop (mkF m 74 #[vr a0, vr a1, vr a2, vi p3, vi p4, vi p4, .unset, .unset, .unset, .unset, .unset] [.int 0, .ref a0])) (fun _ kk => st8 _ (XS.aloadN X8.here hx rfl (hb hby d17_72) rfl rfl (XS.iconst X8.here hx rfl (hb hby d17_73) kk))) ?_
  obtain ⟨T11, h11, X11, e11, W11, st11⟩ := putFN X8 hx hZ hown (ow hw 142 rfl) Via.refl e8 F_coder E_a0 (Or.inr ⟨(ow hw 61 rfl), rfl, hnm⟩) (ow hw 59 rfl) (ty := .byte) (v' := .int (nar .byte (0 : Int32))) (by decide) rfl (fits_nar_byte _) (g := (mkF m 74 #[vr a0, vr a1, vr a2, vi p3, vi p4, vi p4, .unset, .unset, .unset, .unset, .unset] [.int 0, .ref a0])) rfl rfl (hb hby d17_74)
  have N11 := Fr.snoc X11 N8 g_a0
  have F_coder := F_coder.same W11
  have S_C := S_C.wr W11
  have S_F := S_F.wr W11
  have S_uu := S_uu.wr W11
  have S_ui := S_ui.wr W11
  have S_ua := S_ua.wr W11
  have V_a2 := V_a2.other W11 (Ne.symm ne)
  have E_a2 := E_a2.wr W11
  have E_a0 := E_a0.wr W11
  have F_value := F_value.other W11 (Or.inr (slot_ne (Or.inr (ow hw 60 rfl)) (Or.inr (ow hw 61 rfl)) (by decide) (t := (.array .byte)) (t' := .byte) (by decide) (by decide)))
  have E_b5 := E_b5.wr W11
  have V_b5 := V_b5.other W11 (Ne.symm ne_a0_b5)
  have Zs12 := Nat.le_trans Zs9 (Keep.of_wr W11).1
  have Kp13 := Kp10.wr W11 (Or.inl (List.mem_of_getElem? (i := 0) rfl))
  refine Go.st (S' := T11.setTop (mkF m 77 #[vr a0, vr a1, vr a2, vi p3, vi p4, vi p4, .unset, .unset, .unset, .unset, .unset] [])) st11 ?_
  exact Go.ret0 X11 hx hlk Bd.returns (hb hby d17_77) (by rw [e11]; exact ⟨rfl, N11, Kp13, E_a0, _, _, _, _, (own_sl bs p3 (p3 + p4)).map own_lo8, F_coder, F_value, by rw [own_mapid (fun c hc => hbs c (own_slm hc))]; exact V_b5, rfl, by rw [hqb5, own_sll hr], rfl, fun c hc => ⟨(hbs c (own_slm hc)).1, Int.le_trans (hbs c (own_slm hc)).2 (by decide)⟩⟩) (by decide) (by decide)
theorem rmSI_ua (l : Launch) (Z : State) (az : Array Value) (hw : HW az Z) (ws : List Jvm.Cond) (a0 : Addr) (a1 : Addr) (a2 : Addr) (p3 : Int32) (p4 : Int32) (zc : Int32) (fm : Value) (uu ui ua : Addr) (k0 : ClassId) (z : Int32) (bs : List Int32) (h0 : Heap) (n0 : Nat) (Z0 : n0 ≤ h0.size) (S_C : tS0 Z h0 (.int zc)) (hzc : ¬ zc = 0) (S_F : tS1 Z h0 fm) (hfm : fm.isRef = true) (S_uu : tS2 Z h0 (.ref uu)) (S_ui : tS3 Z h0 (.ref ui)) (S_ua : tS4 Z h0 (.ref ua)) (nui : uu ≠ ui) (nua : uu ≠ ua) (nia : ui ≠ ua) (E_a0 : Exa Z h0 a0 "java/lang/String") (F_coder : tF0 Z h0 a0 (.int 0)) (F_value : tF1 Z h0 a0 .null) (g_a0 : n0 ≤ a0) (ne : a0 ≠ a2) (V_a2 : Arv Z h0 a2 k0 .byte z (bs.map .int) (.int 0)) (hz : z.toInt = bs.length) (hbs : ∀ b ∈ bs, 0 ≤ b.toInt ∧ b.toInt ≤ 127) (E_a2 : Exa Z h0 a2 "[B") (ho : 0 ≤ p3.toInt ∧ 0 ≤ p4.toInt ∧ p3.toInt + p4.toInt ≤ bs.length) (hs6 : bs.length ≤ 6) (h1 : a1 = ua) (hn4 : ¬ p4 = 0) :
    MF l mN18 (Jvm.Cond.codeWith mN18 jdk_42_method_11_code 11 none [((800 : Nat), (813 : Nat), (816 : Nat), (202 : Nat))] :: ws) (rO 3 1 6 71) #[(.ref a0), (.ref a1), (.ref a2), (.int p3), (.int p4)] Z h0 (Q_si Z a0 bs p3 p4 h0 n0) := by
  refine MetFree.of_bodySF (plainFor_of_name pn_1) hisWith ?_
  intro p e s m args below meth c s₁ Bd hml0 hP hK
  obtain ⟨rfl, hZ, hh⟩ := hP
  have hx := Bd.exec
  have hby := Bd.bytes
  have hlk : meth.locks = false := Bd.notSynchronized
  have hml : c.maxLocals = 11 := hml0
  have hown : s.vm.findClass "java/lang/String" = some m.cls := findClass_of_methodNamed Bd.named
  have hnm := (name_of_methodNamed Bd.named Bd.method).1
  have X0 : Stand p l e (rO 3 1 6 71) s m #[(.ref a0), (.ref a1), (.ref a2), (.int p3), (.int p4)] below meth c s₁ [] 0 0 := Stand.of_body Bd
  have e0 : s₁.heap = h0 := by rw [← hh, Bd.state]; rfl
  have N0 := Fr.nil n0
  show Go p e below s ((Q_si Z a0 bs p3 p4 h0 n0)) (rO 3 1 6 71).cells (rO 3 1 6 71).slots (s₁.setTop (entryFrame m #[(.ref a0), (.ref a1), (.ref a2), (.int p3), (.int p4)] 11))
  rw [ef_17 m a0 a1 a2 p3 p4]
  subst h1
  have hl := own_lim hz ho
  have hr : 0 ≤ p3.toInt ∧ p3.toInt ≤ (p3 + p4).toInt ∧ (p3 + p4).toInt ≤ bs.length := by omega
  refine Go.st (S' := s₁.setTop (mkF m 1 #[vr a0, vr a1, vr a2, vi p3, vi p4, .unset, .unset, .unset, .unset, .unset, .unset] [.ref a0])) (fun _ kk => XS.aloadN X0.here hx rfl (hb hby d17_0) rfl rfl kk) ?_
  obtain ⟨T1, X1, e1, st1⟩ := initO X0 hx hZ hown (ow hw 111 rfl) (ow hw 24 rfl) (ow hw 25 rfl) e0 (g := (mkF m 1 #[vr a0, vr a1, vr a2, vi p3, vi p4, .unset, .unset, .unset, .unset, .unset, .unset] [.ref a0])) rfl (by rw [hml]; rfl) rfl (hb hby d17_1) (by decide) (W := 0) (oW rfl rfl) (by decide)
  refine Go.st (S' := T1.setTop (mkF m 31 #[vr a0, vr a1, vr a2, vi p3, vi p4, .unset, .unset, .unset, .unset, .unset, .unset] [.ref a1])) (fun _ kk => st1 _ (XS.iload X1.here hx rfl (hb hby d17_4) rfl (XS.ifYes X1.here hx rfl (pc0 := 6) (pc' := 30) rfl (hb hby d17_6) rfl ((if0 _ _).trans (feq hn4).2) (by decide) (by decide) (XS.aloadN X1.here hx rfl (hb hby d17_30) rfl rfl kk)))) ?_
  obtain ⟨T2, X2, e2, st2⟩ := getS2 X1 hx hZ hown (host := "") (Or.inl (ow hw 112 rfl)) Via.refl e1 S_uu (g := (mkF m 31 #[vr a0, vr a1, vr a2, vi p3, vi p4, .unset, .unset, .unset, .unset, .unset, .unset] [.ref a1])) rfl (hb hby d17_31)
  refine Go.st (S' := T2.setTop (mkF m 347 #[vr a0, vr a1, vr a2, vi p3, vi p4, .unset, .unset, .unset, .unset, .unset, .unset] [.ref a1])) (fun _ kk => st2 _ (Jvm.RoadKit.acmp (g := (mkF m 34 #[vr a0, vr a1, vr a2, vi p3, vi p4, .unset, .unset, .unset, .unset, .unset, .unset] [.ref uu, .ref a1])) X2 hx rfl rfl rfl (pc0 := 34) (pc' := 346) (same := false) rfl (hb hby d17_34) rfl (decide_eq_false fun q => (Ne.symm nua) (Value.ref.inj q)) (by decide) (by decide) (XS.aloadN X2.here hx rfl (hb hby d17_346) rfl rfl kk))) ?_
  obtain ⟨T3, X3, e3, st3⟩ := getS2 X2 hx hZ hown (host := "") (Or.inl (ow hw 114 rfl)) Via.refl e2 S_ui (g := (mkF m 347 #[vr a0, vr a1, vr a2, vi p3, vi p4, .unset, .unset, .unset, .unset, .unset, .unset] [.ref a1])) rfl (hb hby d17_347)
  refine Go.st (S' := T3.setTop (mkF m 400 #[vr a0, vr a1, vr a2, vi p3, vi p4, .unset, .unset, .unset, .unset, .unset, .unset] [.ref a1])) (fun _ kk => st3 _ (Jvm.RoadKit.acmp (g := (mkF m 350 #[vr a0, vr a1, vr a2, vi p3, vi p4, .unset, .unset, .unset, .unset, .unset, .unset] [.ref ui, .ref a1])) X3 hx rfl rfl rfl (pc0 := 350) (pc' := 399) (same := false) rfl (hb hby d17_350) rfl (decide_eq_false fun q => (Ne.symm nia) (Value.ref.inj q)) (by decide) (by decide) (XS.aloadN X3.here hx rfl (hb hby d17_399) rfl rfl kk))) ?_
  obtain ⟨T4, X4, e4, st4⟩ := getS2 X3 hx hZ hown (host := "") (Or.inl (ow hw 116 rfl)) Via.refl e3 S_ua (g := (mkF m 400 #[vr a0, vr a1, vr a2, vi p3, vi p4, .unset, .unset, .unset, .unset, .unset, .unset] [.ref a1])) rfl (hb hby d17_400)
  refine Go.st (S' := T4.setTop (mkF m 406 #[vr a0, vr a1, vr a2, vi p3, vi p4, .unset, .unset, .unset, .unset, .unset, .unset] [])) (fun _ kk => st4 _ (Jvm.RoadKit.acmp (g := (mkF m 403 #[vr a0, vr a1, vr a2, vi p3, vi p4, .unset, .unset, .unset, .unset, .unset, .unset] [.ref a1, .ref a1])) X4 hx rfl rfl rfl (pc0 := 403) (pc' := 406) (same := true) rfl (hb hby d17_403) rfl (decide_eq_true rfl) (by decide) (by decide) kk)) ?_
  obtain ⟨T5, X5, e5, st5⟩ := getS2 X4 hx hZ hown (host := "") (Or.inl (ow hw 118 rfl)) Via.refl e4 S_C (g := (mkF m 406 #[vr a0, vr a1, vr a2, vi p3, vi p4, .unset, .unset, .unset, .unset, .unset, .unset] [])) rfl (hb hby d17_406)
  refine Go.st (S' := T5.setTop (mkF m 416 #[vr a0, vr a1, vr a2, vi p3, vi p4, .unset, .unset, .unset, .unset, .unset, .unset] [.int p4, .int p3, .ref a2])) (fun _ kk => st5 _ (XS.ifNo X5.here hx rfl (hb hby d17_409) rfl ((if0 _ _).trans (feq hzc).1) (XS.aloadN X5.here hx rfl (hb hby d17_412) rfl rfl (XS.iloadN X5.here hx rfl (hb hby d17_413) rfl (XS.iload X5.here hx rfl (hb hby d17_414) rfl kk))))) ?_
  obtain ⟨_, _, ⟨T6, L6, k6, n6⟩, -, X6, ⟨Lc6, hQ6, l6, y6, z6⟩, st6⟩ := Jvm.LawKit.callS X5 hx (y := mN27) hown (mvT hZ (ow hw 119 rfl)) (mvT hZ (ow hw 120 rfl)) (mvT hZ (ow hw 121 rfl)) (mvT hZ (ow hw 122 rfl)) (by decide) (backOf (W := 0) (rmHN l Z az hw [] a2 p3 p4 k0 z bs h0 n0 Z0 V_a2 hz hbs ho) hZ (ow hw 122 rfl) (ow hw 121 rfl) (by decide) (by decide)) (g := (mkF m 416 #[vr a0, vr a1, vr a2, vi p3, vi p4, .unset, .unset, .unset, .unset, .unset, .unset] [.int p4, .int p3, .ref a2])) rfl (by rw [hml]; rfl) (argsL := [.ref a2, .int p3, .int p4]) (rest := []) (lenOf pd_14 rfl) rfl (oW rfl rfl) (hb hby d17_416) (fun _ _ => ⟨rfl, e5, (by decide : 0 + 0 ≤ _), (by decide : 0 + 0 ≤ _)⟩)
  dsimp only [Pt.U, Pt.locs, Pt.cells, Pt.slots] at X6 l6 y6 z6 st6 hQ6
  rw [l6, y6, z6] at X6
  obtain ⟨hv6, N6q, e6⟩ := hQ6
  subst hv6
  have N6 := Fr.app N0 N6q
  refine Go.st (S' := T6.setTop (mkF m 426 #[vr a0, vr a1, vr a2, vi p3, vi p4, .unset, .unset, .unset, .unset, .unset, .unset] [.int p3, .int p3, .ref a2, .ref a0])) (fun _ kk => st6 _ (XS.ifNo X6.here hx rfl (hb hby d17_419) rfl ((if0 _ _).trans (teq (by decide : (0 : Int32) = (0 : Int32))).2) (XS.aloadN X6.here hx rfl (hb hby d17_422) rfl rfl (XS.aloadN X6.here hx rfl (hb hby d17_423) rfl rfl (XS.iloadN X6.here hx rfl (hb hby d17_424) rfl (XS.iloadN X6.here hx rfl (hb hby d17_425) rfl kk)))))) ?_
  refine Go.st (S' := T6.setTop (mkF m 429 #[vr a0, vr a1, vr a2, vi p3, vi p4, .unset, .unset, .unset, .unset, .unset, .unset] [.int (p3 + p4), .int p3, .ref a2, .ref a0])) (fun _ kk => XS.iload X6.here hx rfl (hb hby d17_426) rfl (XS.iadd X6.here hx rfl (hb hby d17_428) rfl kk)) ?_
  obtain ⟨_, _, ⟨T7, L7, k7, n7⟩, -, X7, ⟨Lc7, hQ7, l7, y7, z7⟩, st7⟩ := Jvm.LawKit.callS X6 hx (y := mN30) hown (mvT hZ (ow hw 126 rfl)) (mvT hZ (ow hw 127 rfl)) (mvT hZ (ow hw 128 rfl)) (mvT hZ (ow hw 129 rfl)) (by decide) (backOf (W := 1) (rmCR l Z az hw [] a2 p3 (p3 + p4) k0 z bs h0 n0 Z0 V_a2 hz hbs E_a2 hr hs6) hZ (ow hw 129 rfl) (ow hw 128 rfl) (by decide) (by decide)) (g := (mkF m 429 #[vr a0, vr a1, vr a2, vi p3, vi p4, .unset, .unset, .unset, .unset, .unset, .unset] [.int (p3 + p4), .int p3, .ref a2, .ref a0])) rfl (by rw [hml]; rfl) (argsL := [.ref a2, .int p3, .int (p3 + p4)]) (rest := [.ref a0]) (lenOf pd_16 rfl) rfl (oW rfl rfl) (hb hby d17_429) (fun _ _ => ⟨rfl, e6, (by decide : 0 + 1 ≤ _), (by decide : 0 + 6 ≤ _)⟩)
  dsimp only [Pt.U, Pt.locs, Pt.cells, Pt.slots] at X7 l7 y7 z7 st7 hQ7
  rw [l7, y7, z7] at X7
  obtain ⟨b7, kb7, qb7, rfl, N7q, K7, V_b7, hqb7, E_b7, gb7⟩ := hQ7
  have Ex7 := own_extK K7
  have N7 := Fr.app N6 N7q
  have ne_a2_b7 : a2 ≠ b7 := Nat.ne_of_lt (Nat.lt_of_lt_of_le V_a2.lt gb7)
  have ne_a0_b7 : a0 ≠ b7 := Nat.ne_of_lt (Nat.lt_of_lt_of_le E_a0.lt gb7)
  have g_b7 : n0 ≤ b7 := Nat.le_trans Z0 gb7
  have sz_b7 : h0.size ≤ b7 := Nat.le_trans (Keep.refl h0 [a0]).1 gb7
  have S_C := S_C.ext Ex7
  have S_F := S_F.ext Ex7
  have S_uu := S_uu.ext Ex7
  have S_ui := S_ui.ext Ex7
  have S_ua := S_ua.ext Ex7
  have V_a2 := V_a2.ext Ex7
  have E_a2 := E_a2.ext Ex7
  have E_a0 := E_a0.ext Ex7
  have F_coder := F_coder.ext Ex7
  have F_value := F_value.ext Ex7
  have Zs8 := Nat.le_trans Z0 Ex7.1
  have Kp9 := (Keep.refl h0 [a0]).ext Ex7
  refine Go.st (S' := T7.setTop (mkF m 432 #[vr a0, vr a1, vr a2, vi p3, vi p4, .unset, .unset, .unset, .unset, .unset, .unset] [.ref b7, .ref a0])) st7 ?_
  obtain ⟨T10, h10, X10, e10, W10, st10⟩ := putF X7 hx hZ hown (host := "") (Or.inl (ow hw 141 rfl)) Via.refl rfl F_value E_a0 (Or.inr ⟨(ow hw 60 rfl), rfl, hnm⟩) (ow hw 59 rfl) (ty := (.array .byte)) (by decide) rfl rfl (g := (mkF m 432 #[vr a0, vr a1, vr a2, vi p3, vi p4, .unset, .unset, .unset, .unset, .unset, .unset] [.ref b7, .ref a0])) rfl rfl (hb hby d17_432)
  have N10 := Fr.snoc X10 N7 g_a0
  have F_value := F_value.same W10
  have S_C := S_C.wr W10
  have S_F := S_F.wr W10
  have S_uu := S_uu.wr W10
  have S_ui := S_ui.wr W10
  have S_ua := S_ua.wr W10
  have V_a2 := V_a2.other W10 (Ne.symm ne)
  have E_a2 := E_a2.wr W10
  have E_a0 := E_a0.wr W10
  have F_coder := F_coder.other W10 (Or.inr (slot_ne (Or.inr (ow hw 61 rfl)) (Or.inr (ow hw 60 rfl)) (by decide) (t := .byte) (t' := (.array .byte)) (by decide) (by decide)))
  have E_b7 := E_b7.wr W10
  have V_b7 := V_b7.other W10 (Ne.symm ne_a0_b7)
  have Zs11 := Nat.le_trans Zs8 (Keep.of_wr W10).1
  have Kp12 := Kp9.wr W10 (Or.inl (List.mem_of_getElem? (i := 0) rfl))
  refine Go.st (S' := T10.setTop (mkF m 437 #[vr a0, vr a1, vr a2, vi p3, vi p4, .unset, .unset, .unset, .unset, .unset, .unset] [.int 0, .ref a0])) (fun _ kk => st10 _ (XS.aloadN X10.here hx rfl (hb hby d17_435) rfl rfl (XS.iconst X10.here hx rfl (hb hby d17_436) kk))) ?_
  obtain ⟨T13, h13, X13, e13, W13, st13⟩ := putFN X10 hx hZ hown (ow hw 142 rfl) Via.refl e10 F_coder E_a0 (Or.inr ⟨(ow hw 61 rfl), rfl, hnm⟩) (ow hw 59 rfl) (ty := .byte) (v' := .int (nar .byte (0 : Int32))) (by decide) rfl (fits_nar_byte _) (g := (mkF m 437 #[vr a0, vr a1, vr a2, vi p3, vi p4, .unset, .unset, .unset, .unset, .unset, .unset] [.int 0, .ref a0])) rfl rfl (hb hby d17_437)
  have N13 := Fr.snoc X13 N10 g_a0
  have F_coder := F_coder.same W13
  have S_C := S_C.wr W13
  have S_F := S_F.wr W13
  have S_uu := S_uu.wr W13
  have S_ui := S_ui.wr W13
  have S_ua := S_ua.wr W13
  have V_a2 := V_a2.other W13 (Ne.symm ne)
  have E_a2 := E_a2.wr W13
  have E_a0 := E_a0.wr W13
  have F_value := F_value.other W13 (Or.inr (slot_ne (Or.inr (ow hw 60 rfl)) (Or.inr (ow hw 61 rfl)) (by decide) (t := (.array .byte)) (t' := .byte) (by decide) (by decide)))
  have E_b7 := E_b7.wr W13
  have V_b7 := V_b7.other W13 (Ne.symm ne_a0_b7)
  have Zs14 := Nat.le_trans Zs11 (Keep.of_wr W13).1
  have Kp15 := Kp12.wr W13 (Or.inl (List.mem_of_getElem? (i := 0) rfl))
  refine Go.st (S' := T13.setTop (mkF m 879 #[vr a0, vr a1, vr a2, vi p3, vi p4, .unset, .unset, .unset, .unset, .unset, .unset] [])) (fun _ kk => st13 _ (XS.goto X13.here hx rfl (pc0 := 440) (pc' := 879) rfl (hb hby d17_440) (by decide) (by decide) kk)) ?_
  exact Go.ret0 X13 hx hlk Bd.returns (hb hby d17_879) (by rw [e13]; exact ⟨rfl, N13, Kp15, E_a0, _, _, _, _, (own_sl bs p3 (p3 + p4)).map own_lo8, F_coder, F_value, by rw [own_mapid (fun c hc => hbs c (own_slm hc))]; exact V_b7, rfl, by rw [hqb7, own_sll hr], rfl, fun c hc => ⟨(hbs c (own_slm hc)).1, Int.le_trans (hbs c (own_slm hc)).2 (by decide)⟩⟩) (by decide) (by decide)
section OwnWide
variable {p : Program} {l : Launch} {e : Env} {R : Room} {s : State} {m : MethodId} {args : Array Value} {below : List Frame} {meth : Method} {c : Code} {T : State} {locs : List Loc} {cells slots ck sk : Nat} {S S' t : State} {Q : Option Value → Heap → Vm → List Loc → Prop} {Z : State} {az : Array Value} {h : Heap} {vm0 vm1 : Vm}
/-- from S the run comes to a return of which Q is said; texts may have been booked meanwhile -/
def GoW (p : Program) (e : Env) (below : List Frame) (s : State) (Q : Option Value → Heap → Vm → List Loc → Prop) (ck sk : Nat) (S : State) : Prop :=
  ∃ s₂ o, Steps p.tables e below S s₂ ∧ s₂.status = .running ∧ Ended s₂ below o ∧ ∃ v L, o = .returned v ∧ Q v s₂.heap s₂.vm L ∧ ReturnedEndW s o s₂ L ck sk
theorem GoW.st (h : ∀ t, Steps p.tables e below S' t → Steps p.tables e below S t) (k : GoW p e below s Q ck sk S') : GoW p e below s Q ck sk S := by
  obtain ⟨s₂, o, h1, r⟩ := k
  exact ⟨s₂, o, h _ h1, r⟩
theorem GoW.tr (h : Steps p.tables e below S S') (k : GoW p e below s Q ck sk S') : GoW p e below s Q ck sk S := GoW.st (fun _ q => h.trans q) k
theorem own_endW {t : State} {o : Outcome} {L : List Loc} {k n k' n' : Nat} (h : ReturnedEndW s o t L k n) (hk : k ≤ k') (hn : n ≤ n') : ReturnedEndW s o t L k' n' := ⟨h.1, h.2.1, h.2.2.1, h.2.2.2.mono hk hn⟩
theorem GoW.retW {n : Nat} (X : Stand p l e R (s.setVm vm0) m args below meth c T locs cells slots) (hx : p.tables.exec = Jvm.exec) (hlk : meth.locks = false) (hS : s.Since vm0 n) (hk : n ≤ T.heap.size) {pc : Nat} {Ls : Array Slot} {w : Value} {ty : FieldType} {i : Instr} {rest : List Value} (hret : meth.sig.returnType = some ty) (hn : narrow ty w = w)
    (hi : (i = .ireturn ∧ (ty = .int ∨ ty = .boolean ∨ ty = .byte ∨ ty = .char ∨ ty = .short) ∧ ∃ z, w = .int z) ∨ (i = .lreturn ∧ ty = .long ∧ ∃ z, w = .long z) ∨ (i = .dreturn ∧ ty = .double ∧ ∃ z, w = .double z) ∨ (i = .freturn ∧ ty = .float ∧ ∃ z, w = .float z) ∨ (i = .areturn ∧ ty.isReference = true ∧ w.isRef = true))
    (hd : decode c.code pc = .ok (i, 1)) (hQ : Q (some w) T.heap T.vm locs) (hc : cells ≤ ck) (hs : slots ≤ sk) : GoW p e below s Q ck sk (T.setTop (mkF m pc Ls (w :: rest))) := by
  obtain ⟨fs, hr, hrun, hended, hW⟩ := X.leaveW hS hk (v := some w) (fun h => by rw [hret] at h; cases h)
  exact ⟨_, _, retOut X hx hret hn hi hd hr, hrun, hended, _, _, rfl, hQ, own_endW hW hc hs⟩
theorem GoW.retI {n : Nat} (X : Stand p l e R (s.setVm vm0) m args below meth c T locs cells slots) (hx : p.tables.exec = Jvm.exec) (hlk : meth.locks = false) (hS : s.Since vm0 n) (hk : n ≤ T.heap.size) {pc : Nat} {Ls : Array Slot} {z : Int32} {rest : List Value} (hret : meth.sig.returnType = some .int) (hd : decode c.code pc = .ok (.ireturn, 1)) (hQ : Q (some (.int z)) T.heap T.vm locs) (hc : cells ≤ ck) (hs : slots ≤ sk) : GoW p e below s Q ck sk (T.setTop (mkF m pc Ls (.int z :: rest))) :=
  GoW.retW X hx hlk hS hk hret rfl (Or.inl ⟨rfl, Or.inl rfl, _, rfl⟩) hd hQ hc hs
theorem GoW.retJ {n : Nat} (X : Stand p l e R (s.setVm vm0) m args below meth c T locs cells slots) (hx : p.tables.exec = Jvm.exec) (hlk : meth.locks = false) (hS : s.Since vm0 n) (hk : n ≤ T.heap.size) {pc : Nat} {Ls : Array Slot} {z : Int64} {rest : List Value} (hret : meth.sig.returnType = some .long) (hd : decode c.code pc = .ok (.lreturn, 1)) (hQ : Q (some (.long z)) T.heap T.vm locs) (hc : cells ≤ ck) (hs : slots ≤ sk) : GoW p e below s Q ck sk (T.setTop (mkF m pc Ls (.long z :: rest))) :=
  GoW.retW X hx hlk hS hk hret rfl (Or.inr (Or.inl ⟨rfl, rfl, _, rfl⟩)) hd hQ hc hs
theorem GoW.retA {n : Nat} (X : Stand p l e R (s.setVm vm0) m args below meth c T locs cells slots) (hx : p.tables.exec = Jvm.exec) (hlk : meth.locks = false) (hS : s.Since vm0 n) (hk : n ≤ T.heap.size) {pc : Nat} {Ls : Array Slot} {w : Value} {ty : FieldType} {rest : List Value} (hret : meth.sig.returnType = some ty) (ht : ty.isReference = true) (hw : w.isRef = true) (hd : decode c.code pc = .ok (.areturn, 1)) (hQ : Q (some w) T.heap T.vm locs) (hc : cells ≤ ck) (hs : slots ≤ sk) : GoW p e below s Q ck sk (T.setTop (mkF m pc Ls (w :: rest))) :=
  GoW.retW X hx hlk hS hk hret (by cases ty <;> first | (cases ht; done) | (cases w <;> first | rfl | cases hw)) (Or.inr (Or.inr (Or.inr (Or.inr ⟨rfl, ht, hw⟩)))) hd hQ hc hs
theorem GoW.retN {n : Nat} (X : Stand p l e R (s.setVm vm0) m args below meth c T locs cells slots) (hx : p.tables.exec = Jvm.exec) (hlk : meth.locks = false) (hS : s.Since vm0 n) (hk : n ≤ T.heap.size) {pc : Nat} {Ls : Array Slot} {z : Int32} {t : FieldType} {rest : List Value} (hret : meth.sig.returnType = some t) (ht : t = .boolean ∨ t = .byte ∨ t = .char ∨ t = .short) (hd : decode c.code pc = .ok (.ireturn, 1)) (hQ : Q (some (.int (nar t z))) T.heap T.vm locs) (hc : cells ≤ ck) (hs : slots ≤ sk) : GoW p e below s Q ck sk (T.setTop (mkF m pc Ls (.int z :: rest))) := by
  obtain ⟨fs, hr, hrun, hended, hW⟩ := X.leaveW hS hk (v := some (.int (nar t z))) (fun h => by rw [hret] at h; cases h)
  exact ⟨_, _, Jvm.RoadKit.retN X hx hret ht hd hr, hrun, hended, _, _, rfl, hQ, own_endW hW hc hs⟩
theorem GoW.ret0 {n : Nat} (X : Stand p l e R (s.setVm vm0) m args below meth c T locs cells slots) (hx : p.tables.exec = Jvm.exec) (hlk : meth.locks = false) (hS : s.Since vm0 n) (hk : n ≤ T.heap.size) {pc : Nat} {Ls : Array Slot} (hret : meth.sig.returnType = none) (hd : decode c.code pc = .ok (.return_, 1)) (hQ : Q none T.heap T.vm locs) (hc : cells ≤ ck) (hs : slots ≤ sk) : GoW p e below s Q ck sk (T.setTop (mkF m pc Ls [])) := by
  obtain ⟨fs, hr, hrun, hended, hW⟩ := X.leaveW hS hk (v := none) (fun _ => rfl)
  exact ⟨_, _, X.returnOut hx hret hd hr, hrun, hended, _, _, rfl, hQ, own_endW hW hc hs⟩
theorem own_backS {y : MethodName} {bytes : ByteArray} {maxL : Nat} {ret : Option FieldType} {rm : Room} {len W : Nat} {as' : Array Value} {P : Vm → Prop}
    (hM : MetFree l y (head1 [Cond.code y bytes maxL ret] rm) (fun a U => a = as' ∧ Z.Warmed39 U.vm ∧ U.heap = h ∧ P U.vm) (fun _ _ _ _ _ => True) (fun _ U o U' => ∃ v L, o = .returned v ∧ Q v U'.heap U'.vm L ∧ ReturnedEndW U o U' L rm.cells rm.slots))
    (hZ : Z.Warmed39 s.vm) (wc : (Cond.code y bytes maxL ret).before az Z = true) (wz : (Cond.initialized y.cls).before az Z = true) (hf : rm.frames + 1 ≤ R.frames) (hl : W + (maxL + 11) + rm.locals ≤ R.locals) :
    BackS l R p e below s args y len W (fun A a => a = as' ∧ A.U.heap = h ∧ P A.U.vm ∧ A.cells + rm.cells ≤ R.cells ∧ A.slots + rm.slots ≤ R.slots)
      (fun A _ v B => ∃ L, Q v B.U.heap B.U.vm L ∧ B.locs = A.locs ++ L ∧ B.cells = A.cells + rm.cells ∧ B.slots = A.slots + rm.slots) :=
  BackS.of_freeW (bytes := bytes) (maxL := maxL) (ret := ret) (E := fun _ _ o t L k n => k = rm.cells ∧ n = rm.slots ∧ ∃ v, o = .returned v ∧ Q v t.heap t.vm L) hM hf hl
    (fun m meth c A a Y hp => have hU : Z.Warmed39 A.U.vm := wtrans hZ Y.warmed
      ⟨by show (Cond.and _ .tt).before a A.U = true; rw [Cond.before_and, mv hU wc]; rfl, mv hU wc, mv hU wz, hp.2.2.2.1, hp.2.2.2.2⟩)
    (fun m meth c A a g mk Y hp => ⟨hp.1, wtrans hZ Y.warmed, hp.2.1, hp.2.2.1⟩) (fun _ _ _ _ _ _ _ _ _ => trivial)
    (fun _ _ _ _ ⟨v, L, h1, h2, h3⟩ => ⟨L, _, _, h3, rfl, rfl, v, h1, h2⟩)
    (fun m meth c A a g mk v t L k n Y hp _ _ ⟨e1, e2, v', e3, e4⟩ => by cases e3; subst e1 e2; exact ⟨L, e4, rfl, rfl, rfl⟩)
theorem own_ib {Ts : List String} (I : IB Z vm0 Ts) (hw : (s.setVm vm0).WarmedH vm1) : IB Z vm1 Ts := by
  obtain ⟨more, e, r⟩ := I
  exact ⟨more, (hw.interned_eq).trans e, r⟩
/-- the entry of the pool holds the object a -/
def LitV (Z : State) (vm : Vm) (own : String) (index : Nat) (a : Addr) : Prop := Lit (Z.setVm vm) own index a
theorem LitV.stays {own : String} {index : Nat} {a : Addr} (L : LitV Z vm0 own index a) (hw : (s.setVm vm0).Warmed39 vm1) : LitV Z vm1 own index a := Lit.stays (s := s) (vm0 := vm0) L hw
theorem own_frm {n k : Nat} {L : List Loc} (N : Fr n L) (h : k ≤ n) : Fr k L := fun y hy => Nat.le_trans h (N y hy)
theorem own_keepOld {n : Nat} (O : Old Z n h) : ∀ (b : Addr) (cl : Cell), Z.heap[b]? = some cl → h[b]? = some cl := O.2.2
theorem own_sinceM {n n' : Nat} (h : s.Since vm0 n) (q : n ≤ n') : s.Since vm0 n' := ⟨h.1, fun j p hj hp => ⟨(h.2 j p hj hp).1, Nat.lt_of_lt_of_le (h.2 j p hj hp).2 q⟩⟩
theorem own_chat {EL : List (String × Nat)} (hZ : Z.Warmed39 vm0) (hq : (s.setVm vm0).WarmedH vm1) (w : EW Z az EL) (H : CHv Z EL vm0 h) : CHr Z EL vm0 h vm1 h := by
  have q := CHv.later (h' := h) hZ (hW := (show (Wst Z vm0 h).Warmed39 vm1 from hq.wide)) w ⟨Nat.le_refl _, fun _ _ q => q⟩ (Or.inl hq.interned_eq) H
  exact ⟨q.1, Nat.le_refl _, q.2⟩
theorem own_hk {n : Nat} (eT : T.heap = h) (q : n ≤ h.size) : n ≤ T.heap.size := by rw [eT]; exact q
theorem own_extk {h' : Heap} (K : Keep h h' []) : Ext h h' := ⟨K.1, fun a c q => K.2.1 a c q (List.not_mem_nil)⟩
/-- what a law leaves -/
def LQW (n0 : Nat) (v : Option Value) (h : Heap) (vm : Vm) (L : List Loc) : Prop := v = some (.int 1) ∧ Fr n0 L
end OwnWide
theorem own_EW {Z : State} {az : Array Value} (hw : HW az Z) : EW Z az consts_1 := (EW.cons (text := "") (ow hw 57 rfl) (by decide) (EW.cons (text := "") (ow hw 164 rfl) (by decide) EW.nil))
theorem own_wS {Z : State} {az : Array Value} (hw : HW az Z) : ∀ d ∈ Bundle.stringAtoms, d.before az Z = true := by
  intro d hd
  simp only [Bundle.stringAtoms, Bundle.sN, List.mem_cons, List.not_mem_nil, or_false] at hd
  rcases hd with rfl | rfl | rfl | rfl | rfl | rfl | rfl
  · exact (ow hw 58 rfl)
  · exact (ow hw 59 rfl)
  · exact (ow hw 0 rfl)
  · exact (ow hw 60 rfl)
  · exact (ow hw 61 rfl)
  · exact (ow hw 62 rfl)
  · exact (ow hw 63 rfl)
section OwnHand
variable {p : Program} {l : Launch} {e : Env} {R : Room} {s : State} {m : MethodId} {args : Array Value} {below : List Frame} {meth : Method} {c : Code} {T : State} {locs : List Loc} {cells slots : Nat} {Z : State} {az : Array Value} {h : Heap} {Q : Option Value → Heap → Vm → List Loc → Prop}
/-- a callee with an exception table that may load texts and throws nothing -/
theorem own_backSH {y : MethodName} {bytes : ByteArray} {maxL : Nat} {ret : Option FieldType} {hs : List (Nat × Nat × Nat × Nat)} {rm : Room} {len W : Nat} {as' : Array Value} {P : Vm → Prop}
    (hM : MetFree l y (head1 [Cond.codeWith y bytes maxL ret hs] rm) (fun a U => a = as' ∧ Z.Warmed39 U.vm ∧ U.heap = h ∧ P U.vm) (fun _ _ _ _ _ => True) (fun _ U o U' => ∃ v L, o = .returned v ∧ Q v U'.heap U'.vm L ∧ ReturnedEndW U o U' L rm.cells rm.slots))
    (hZ : Z.Warmed39 s.vm) (wc : (Cond.codeWith y bytes maxL ret hs).before az Z = true) (wz : (Cond.initialized y.cls).before az Z = true) (hf : rm.frames + 1 ≤ R.frames) (hl : W + (maxL + 11) + rm.locals ≤ R.locals) :
    BackS l R p e below s args y len W (fun A a => a = as' ∧ A.U.heap = h ∧ P A.U.vm ∧ A.cells + rm.cells ≤ R.cells ∧ A.slots + rm.slots ≤ R.slots)
      (fun A _ v B => ∃ L, Q v B.U.heap B.U.vm L ∧ B.locs = A.locs ++ L ∧ B.cells = A.cells + rm.cells ∧ B.slots = A.slots + rm.slots) := by
  rintro m meth c ⟨U, Ls, c0, s0⟩ g ig mk a X rfl hsz hdg hWd hn ⟨rfl, hh, hPv, r1, r2⟩
  dsimp only [Pt.U, Pt.locs, Pt.cells, Pt.slots] at X hn hh hPv r1 r2
  have hU : Z.Warmed39 U.vm := wtrans hZ X.warmed
  have wU : (Cond.codeWith y bytes maxL ret hs).before a U = true := mv hU wc
  obtain ⟨mk', mY, cY, n', gm, gc, -, gl, -⟩ := Cond.codeWith_spec wU
  cases hn.symm.trans n'
  obtain ⟨kY, gk, -⟩ := className_of_methodNamed hn
  have hat := X.here
  obtain ⟨mid, hmid⟩ := hat.above
  have happ : (head1 [Cond.codeWith y bytes maxL ret hs] rm).appliesLoose y e.platform (U.calling g mk a) = true :=
    Spec.appliesLoose_calling (g := g) hat hdg hn gk (Cond.initialized_spec (findClass_of_methodNamed hn) gk (mv hU wz : (Cond.initialized y.cls).before a U = true))
      (X.room_calling (g := g) (R' := rm) hsz gm gc hf (by rw [gl]; omega) r1 r2) (by show (Cond.and _ .tt).before a U = true; rw [Cond.before_and, wU]; rfl)
  obtain ⟨o, t, hst, -, hend, v, L, rfl, hQ, hE⟩ := Steps.callFree hM p X.admits X.cas X.clock (acts := []) (by rw [State.frames_setTop' g hat.top, hmid]; exact (List.cons_append ..).symm) happ ⟨rfl, hU, hh, hPv⟩ trivial
  rw [State.frames_setTop' g hat.top] at hend
  have hE : ReturnedEndW (U.calling g mk a) (.returned v) t L rm.cells rm.slots := hE
  obtain ⟨-, w1, w2, w3, w4, w5, w6, w7, w8⟩ := id hE
  have w1 : U.Warmed39 t.vm := w1
  obtain ⟨c2, i2, len2, hc2, hd2, hf2⟩ := hend
  obtain rfl : c2 = c := Option.some.inj (hc2.symm.trans ((show t.code? g.method = U.code? g.method from by rw [State.code?_eq, State.code?_eq, w1.alike.method?]).trans hat.code))
  obtain rfl : len2 = len := by rw [hdg] at hd2; cases hd2; rfl
  obtain ⟨g0, hg0⟩ := Option.isSome_iff_exists.mp hat.top
  obtain ⟨r, hr⟩ := State.topJava?_eq_some.mp hg0
  let V : State := ({ U with heap := t.heap, slotsUsed := t.slotsUsed } : State).setVm t.vm
  have ht : t = V.setTop { g with pc := g.pc + len2, stack := v.toList ++ g.stack } := by
    have q : t = ({ t with vm := (U.calling g mk a).vm } : State).setVm t.vm := rfl
    rw [w3] at q
    have q : t = ({ (U.calling g mk a).setFrames t.frames with heap := t.heap, slotsUsed := t.slotsUsed } : State).setVm t.vm := q
    refine q.trans ?_
    rw [hf2, State.calling_eq hat.top, State.setFrames_setFrames, State.setTop_of_frames _ (show V.frames = .java g0 :: r from hr), hr]
    rfl
  have hsame : U.sameButNew ({ U with heap := t.heap, slotsUsed := t.slotsUsed } : State) L rm.cells rm.slots := by
    obtain ⟨x, hx, -⟩ := State.frames_cons hr
    refine ⟨?_, w4, w5, w6, w7, w8⟩
    show ({ U with heap := t.heap, slotsUsed := t.slotsUsed } : State) = { U.setFrames U.frames with heap := t.heap, slotsUsed := t.slotsUsed }
    rw [State.setFrames_self hx]
  obtain ⟨X', hS⟩ := X.movedW (T₂ := V) ((X.here.setHeapUsed t.heap t.slotsUsed).setVm w1.alike) X.tail rfl rfl w1 w2 hsame
  refine ⟨v, ⟨V, Ls ++ L, c0 + rm.cells, s0 + rm.slots⟩, X', hS, hsame.2.1, ⟨L, hQ, rfl, rfl, rfl⟩, ?_⟩
  show Steps p.tables e below _ (V.setTop { g with pc := g.pc + len2, stack := v.toList ++ g.stack })
  rw [← ht]
  exact hst
/-- 'invokespecial' of such a constructor -/
theorem own_specialSH (X : Stand p l e R s m args below meth c T locs cells slots) (hx : p.tables.exec = Jvm.exec) {own : String} {index : Nat} {y : MethodName} (hy1 : y.name = "<init>")
    (hown : s.vm.findClass own = some m.cls) (hlink : (Cond.methodLink own index y).before args s = true) (hinst : (Cond.instanceMethod y).before args s = true)
    {bytes : ByteArray} {maxL : Nat} {hs : List (Nat × Nat × Nat × Nat)} (hcode : (Cond.codeWith y bytes maxL none hs).before args s = true) (hy : y.cls ≠ "java/lang/invoke/MethodHandle" ∧ y.cls ≠ "java/lang/invoke/VarHandle")
    {W : Nat} {Pre : Pt → Array Value → Prop} {Post : Pt → Array Value → Option Value → Pt → Prop} (hK : BackS l R p e below s args y 3 W Pre Post)
    {g : JFrame} (hg : g.method = m) (hsize : g.locals.size = c.maxLocals) {a : Addr} {argsL rest : List Value}
    (hlen : ∀ sig, parseMethodDescriptor y.desc = some sig → argsL.length = sig.parameters.length) (hstack : g.stack = argsL.reverse ++ .ref a :: rest) (hW : 2 * g.monitorRoom + (rest.map fun v => v.category).sum ≤ W)
    (hdg : decode c.code g.pc = .ok (.invokespecial index, 3)) (hpre : ∀ vm₁, s.WarmedH vm₁ → Pre ⟨T.setVm vm₁, locs, cells, slots⟩ (.ref a :: argsL).toArray) :
    ∃ (v : Option Value) (vm₁ : Vm) (B : Pt), s.WarmedH vm₁ ∧ Stand p l e R (s.setVm B.U.vm) m args below meth c B.U B.locs B.cells B.slots ∧ s.Since B.U.vm B.U.heap.size ∧ T.heap.size ≤ B.U.heap.size ∧ Post ⟨T.setVm vm₁, locs, cells, slots⟩ (.ref a :: argsL).toArray v B ∧
      Steps p.tables e below (T.setTop g) (B.U.setTop { g with pc := g.pc + 3, stack := v.toList ++ rest }) := by
  obtain ⟨mk, _, _, _, vm₁, hnamed, -, -, -, -, -, -, -, hW₁, step⟩ := Steps.initColdArgsH (e := e) X.here hx X.warmed (by rw [X.admits.platform]) hown hy1 hy hlink hinst hcode (f := g) hg hlen hstack hdg
  obtain ⟨v, B, X', hS, hgr, hpost, hst⟩ := hK m meth c ⟨T.setVm vm₁, locs, cells, slots⟩ { g with stack := rest } (.invokespecial index) mk _ (X.noted hW₁) hg hsize hdg hW ((X.noted hW₁).named hnamed) (hpre vm₁ hW₁)
  exact ⟨v, vm₁, B, hW₁, X', hS, hgr, hpost, (step _ fun acts => by rw [doInvoke_state]; exact Steps.refl _).trans hst⟩
end OwnHand
def PCS (Z : State) (h0 : Heap) (a0 : Addr) (vm : Vm) : Prop := CHv Z consts_1 vm h0 ∧ Safe Z consts_1 vm h0 a0
def Q_se (Z : State) (a0 : Addr) (h0 : Heap) (n0 : Nat) (v : Option Value) (h : Heap) (vm : Vm) (L : List Loc) : Prop := v = none ∧ Fr n0 L ∧ Keep h0 h [a0] ∧ CHv Z consts_1 vm h ∧ CSt Z h a0 []
theorem rmSE0 (l : Launch) (Z : State) (az : Array Value) (hw : HW az Z) (ws : List Jvm.Cond) (a0 : Addr) (a1 : Addr) (a2 : Addr) (p3 : Int32) (p4 : Int32)  (h0 : Heap) (n0 : Nat) (Z0 : n0 ≤ h0.size) (E_a0 : Exa Z h0 a0 "java/lang/String") (F_coder : tF0 Z h0 a0 (.int 0)) (F_value : tF1 Z h0 a0 .null) (g_a0 : n0 ≤ a0) (h4 : p4 = 0) :
    MetFree l mN18 (head1 (Jvm.Cond.codeWith mN18 jdk_42_method_11_code 11 none [((800 : Nat), (813 : Nat), (816 : Nat), (202 : Nat))] :: ws) (rO 1 2 4 12)) (fun a U => a = #[(.ref a0), (.ref a1), (.ref a2), (.int p3), (.int p4)] ∧ Z.Warmed39 U.vm ∧ U.heap = h0 ∧ (PCS Z h0 a0) U.vm) (fun _ _ _ _ _ => True) (fun _ U o U' => ∃ v L, o = .returned v ∧ (Q_se Z a0 h0 n0) v U'.heap U'.vm L ∧ ReturnedEndW U o U' L (rO 1 2 4 12).cells (rO 1 2 4 12).slots) := by
  refine MetFree.of_bodySF (plainFor_of_name pn_1) hisWith ?_
  intro p e s m args below meth c s₁ Bd hml0 hP hK
  obtain ⟨rfl, hZ, hh, Hc, Sf⟩ := hP
  have hx := Bd.exec
  have hby := Bd.bytes
  have hlk : meth.locks = false := Bd.notSynchronized
  have hml : c.maxLocals = 11 := hml0
  have hown : s.vm.findClass "java/lang/String" = some m.cls := findClass_of_methodNamed Bd.named
  have hnm := (name_of_methodNamed Bd.named Bd.method).1
  have X0 : Stand p l e (rO 1 2 4 12) s m #[(.ref a0), (.ref a1), (.ref a2), (.int p3), (.int p4)] below meth c s₁ [] 0 0 := Stand.of_body Bd
  have X0 : Stand p l e (rO 1 2 4 12) (s.setVm s.vm) m #[(.ref a0), (.ref a1), (.ref a2), (.int p3), (.int p4)] below meth c s₁ [] 0 0 := X0
  have e0 : s₁.heap = h0 := by rw [← hh, Bd.state]; rfl
  have hS : s.Since s.vm n0 := (State.WarmedH.refl s).since n0
  have hk : n0 ≤ h0.size := Z0
  have N0 := Fr.nil n0
  show GoW p e below s ((Q_se Z a0 h0 n0)) (rO 1 2 4 12).cells (rO 1 2 4 12).slots (s₁.setTop (entryFrame m #[(.ref a0), (.ref a1), (.ref a2), (.int p3), (.int p4)] 11))
  rw [ef_17 m a0 a1 a2 p3 p4]
  subst h4
  refine GoW.st (S' := s₁.setTop (mkF m 1 #[vr a0, vr a1, vr a2, vi p3, vi 0, .unset, .unset, .unset, .unset, .unset, .unset] [.ref a0])) (fun _ kk => XS.aloadN X0.here hx rfl (hb hby d17_0) rfl rfl kk) ?_
  obtain ⟨T1, X1, e1, st1⟩ := initO X0 hx hZ hown (ow hw 111 rfl) (ow hw 24 rfl) (ow hw 25 rfl) e0 (g := (mkF m 1 #[vr a0, vr a1, vr a2, vi p3, vi 0, .unset, .unset, .unset, .unset, .unset, .unset] [.ref a0])) rfl (by rw [hml]; rfl) rfl (hb hby d17_1) (by decide) (W := 0) (oW rfl rfl) (by decide)
  refine GoW.st (S' := T1.setTop (mkF m 10 #[vr a0, vr a1, vr a2, vi p3, vi 0, .unset, .unset, .unset, .unset, .unset, .unset] [.ref a0])) (fun _ kk => st1 _ (XS.iload X1.here hx rfl (hb hby d17_4) rfl (XS.ifNo X1.here hx rfl (hb hby d17_6) rfl ((if0 _ _).trans (teq (by decide : (0 : Int32) = (0 : Int32))).2) (XS.aloadN X1.here hx rfl (hb hby d17_9) rfl rfl kk)))) ?_
  obtain ⟨b2, T2, h2, k2, v2, c2, X2, e2, E2, hS2, hk2, hZ2, ho2, E_b2, FC_b2, FV_b2, V_v2, -, -, Cr2, Li_b2, Sn2, st2⟩ := ldcCH (s := s.setVm s.vm) (vm0 := s.vm) X1 hx hZ hown (ow hw 164 rfl) (own_wS hw) e1 ((State.WarmedH.refl _).since _) (Nat.le_refl _) (own_EW hw) (List.mem_of_getElem? (i := 1) rfl) Hc (vs := ([] : List Int32).map .int) (z := (0 : Int32)) ⟨by decide, by decide⟩ (by decide) (by decide) (g := (mkF m 10 #[vr a0, vr a1, vr a2, vi p3, vi 0, .unset, .unset, .unset, .unset, .unset, .unset] [.ref a0])) rfl (hb hby d17_10) (n := 0) (by decide) (by decide) (by decide : 0 + 2 ≤ _) (by decide : 0 + 4 ≤ _)
  have X2 : Stand p l e _ (s.setVm T2.vm) m _ below meth c T2 _ _ _ := X2
  have Li_b2 : LitV Z T2.vm "java/lang/String" 7 b2 := Li_b2
  have Sf := CHr.safe Cr2 E_a0.lt Sf
  have ne_a0_b2 := (Sn2 _ Sf).1
  have ne_a0_v2 := (Sn2 _ Sf).2
  have Hc := Cr2.1
  have E_a0 := E_a0.ext E2
  have F_coder := F_coder.ext E2
  have F_value := F_value.ext E2
  have Zs3 := Nat.le_trans Z0 E2.1
  have hk := Nat.le_trans hk E2.1
  have Kp4 := (Keep.refl h0 [a0]).ext E2
  have hS := hS.trans (own_sinceM hS2 hk2) hk
  have hk := Nat.le_refl h2.size
  have hZ := hZ2
  have hown := ho2
  refine GoW.st (S' := T2.setTop (mkF m 12 #[vr a0, vr a1, vr a2, vi p3, vi 0, .unset, .unset, .unset, .unset, .unset, .unset] [.ref b2, .ref a0])) st2 ?_
  obtain ⟨T5, X5, e5, st5⟩ := getF X2 hx hZ hown (host := "") (Or.inl (ow hw 141 rfl)) Via.refl e2 FV_b2 (g := (mkF m 12 #[vr a0, vr a1, vr a2, vi p3, vi 0, .unset, .unset, .unset, .unset, .unset, .unset] [.ref b2, .ref a0])) rfl rfl (hb hby d17_12)
  refine GoW.st (S' := T5.setTop (mkF m 15 #[vr a0, vr a1, vr a2, vi p3, vi 0, .unset, .unset, .unset, .unset, .unset, .unset] [.ref v2, .ref a0])) st5 ?_
  obtain ⟨T6, h6, X6, e6, W6, st6⟩ := putF X5 hx hZ hown (host := "") (Or.inl (ow hw 141 rfl)) Via.refl e5 F_value E_a0 (Or.inr ⟨(ow hw 60 rfl), rfl, hnm⟩) (ow hw 59 rfl) (ty := (.array .byte)) (by decide) rfl rfl (g := (mkF m 15 #[vr a0, vr a1, vr a2, vi p3, vi 0, .unset, .unset, .unset, .unset, .unset, .unset] [.ref v2, .ref a0])) rfl rfl (hb hby d17_15)
  have N6 := Fr.snoc X6 N0 g_a0
  have F_value := F_value.same W6
  have Sf' := Safe.wr W6 Sf Hc Sf
  have Hc := CHv.wr W6 Sf Hc
  have Sf := Sf'
  have E_a0 := E_a0.wr W6
  have F_coder := F_coder.other W6 (Or.inr (slot_ne (Or.inr (ow hw 61 rfl)) (Or.inr (ow hw 60 rfl)) (by decide) (t := .byte) (t' := (.array .byte)) (by decide) (by decide)))
  have E_b2 := E_b2.wr W6
  have FC_b2 := FC_b2.other W6 (Or.inl (Ne.symm ne_a0_b2))
  have FV_b2 := FV_b2.other W6 (Or.inl (Ne.symm ne_a0_b2))
  have V_v2 := V_v2.other W6 (Ne.symm ne_a0_v2)
  have Zs7 := Nat.le_trans Zs3 (Keep.of_wr W6).1
  have hk := Nat.le_trans hk (Keep.of_wr W6).1
  have Kp8 := Kp4.wr W6 (Or.inl (List.mem_of_getElem? (i := 0) rfl))
  refine GoW.st (S' := T6.setTop (mkF m 21 #[vr a0, vr a1, vr a2, vi p3, vi 0, .unset, .unset, .unset, .unset, .unset, .unset] [.ref b2, .ref a0])) (fun _ kk => st6 _ (XS.aloadN X6.here hx rfl (hb hby d17_18) rfl rfl (ldcAgain X6 hx hZ hown (ow hw 164 rfl) Li_b2 (g := (mkF m 19 #[vr a0, vr a1, vr a2, vi p3, vi 0, .unset, .unset, .unset, .unset, .unset, .unset] [.ref a0])) rfl (hb hby d17_19) _ kk))) ?_
  obtain ⟨T9, X9, e9, st9⟩ := getF X6 hx hZ hown (host := "") (Or.inl (ow hw 142 rfl)) Via.refl e6 FC_b2 (g := (mkF m 21 #[vr a0, vr a1, vr a2, vi p3, vi 0, .unset, .unset, .unset, .unset, .unset, .unset] [.ref b2, .ref a0])) rfl rfl (hb hby d17_21)
  refine GoW.st (S' := T9.setTop (mkF m 24 #[vr a0, vr a1, vr a2, vi p3, vi 0, .unset, .unset, .unset, .unset, .unset, .unset] [.int 0, .ref a0])) st9 ?_
  obtain ⟨T10, h10, X10, e10, W10, st10⟩ := putFN X9 hx hZ hown (ow hw 142 rfl) Via.refl e9 F_coder E_a0 (Or.inr ⟨(ow hw 61 rfl), rfl, hnm⟩) (ow hw 59 rfl) (ty := .byte) (v' := .int (nar .byte (0 : Int32))) (by decide) rfl (fits_nar_byte _) (g := (mkF m 24 #[vr a0, vr a1, vr a2, vi p3, vi 0, .unset, .unset, .unset, .unset, .unset, .unset] [.int 0, .ref a0])) rfl rfl (hb hby d17_24)
  have N10 := Fr.snoc X10 N6 g_a0
  have F_coder := F_coder.same W10
  have Sf' := Safe.wr W10 Sf Hc Sf
  have Hc := CHv.wr W10 Sf Hc
  have Sf := Sf'
  have E_a0 := E_a0.wr W10
  have F_value := F_value.other W10 (Or.inr (slot_ne (Or.inr (ow hw 60 rfl)) (Or.inr (ow hw 61 rfl)) (by decide) (t := (.array .byte)) (t' := .byte) (by decide) (by decide)))
  have E_b2 := E_b2.wr W10
  have FC_b2 := FC_b2.other W10 (Or.inl (Ne.symm ne_a0_b2))
  have FV_b2 := FV_b2.other W10 (Or.inl (Ne.symm ne_a0_b2))
  have V_v2 := V_v2.other W10 (Ne.symm ne_a0_v2)
  have Zs11 := Nat.le_trans Zs7 (Keep.of_wr W10).1
  have hk := Nat.le_trans hk (Keep.of_wr W10).1
  have Kp12 := Kp8.wr W10 (Or.inl (List.mem_of_getElem? (i := 0) rfl))
  refine GoW.st (S' := T10.setTop (mkF m 879 #[vr a0, vr a1, vr a2, vi p3, vi 0, .unset, .unset, .unset, .unset, .unset, .unset] [])) (fun _ kk => st10 _ (XS.goto X10.here hx rfl (pc0 := 27) (pc' := 879) rfl (hb hby d17_27) (by decide) (by decide) kk)) ?_
  exact GoW.ret0 X10 hx hlk hS (own_hk e10 hk) Bd.returns (hb hby d17_879) (by rw [e10]; exact ⟨rfl, N10, Kp12, (own_chat hZ X10.warmed (own_EW hw) Hc).1, E_a0, 0, v2, _, 0, [], F_coder, F_value, V_v2, rfl, rfl, rfl, fun _ hx => nomatch hx⟩) (by decide) (by decide)
theorem own_or3 {a b c : Int32} (ha : 0 ≤ a.toInt) (hb : 0 ≤ b.toInt) (hc : 0 ≤ c.toInt) : ¬ ((a ||| b) ||| c) < (0 : Int32) := own_nn ((c_orS _ _).1 ((c_orS _ _).1 ha hb) hc)
theorem own_fis {a b z : Int32} {n : Nat} (hz : z.toInt = n) (h : 0 ≤ a.toInt ∧ 0 ≤ b.toInt ∧ a.toInt + b.toInt ≤ n) : ¬ (z - a) < b := by
  have h1 : (z - a).toInt = z.toInt - a.toInt := own_dif hz ⟨h.1, by omega, by omega⟩
  rw [Int32.lt_iff_toInt_lt]; omega
theorem d14_0 : decode jdk_31_method_10_code 0 = .ok (.aload_n 0, 1) := by decide +kernel
theorem d14_1 : decode jdk_31_method_10_code 1 = .ok (.ifnonnull 11, 3) := by decide +kernel
theorem d14_12 : decode jdk_31_method_10_code 12 = .ok (.aload_n 0, 1) := by decide +kernel
theorem d14_13 : decode jdk_31_method_10_code 13 = .ok (.areturn, 1) := by decide +kernel
theorem pn_6 : plainName "java/util/Objects" = true := by first | (simp [plainName, overriddenIn]; done) | decide +kernel
theorem ef_14 (m : MethodId) (a0 : Addr) : entryFrame m #[(.ref a0)] 1 = mkF m 0 #[.val (.ref a0)] [] := by first | (simp [entryFrame, mkF, argsToLocals, Value.category]; done) | rfl
theorem rmRN (l : Launch) (Z : State) (az : Array Value) (hw : HW az Z) (ws : List Jvm.Cond) (a0 : Addr)  (h0 : Heap) (n0 : Nat) (Z0 : n0 ≤ h0.size)  :
    MF l mN32 (Jvm.Cond.code mN32 jdk_31_method_10_code 1 (some (.object "java/lang/Object")) :: ws) (rO 0 0 0 0) #[(.ref a0)] Z h0 (PQ (.ref a0) n0 h0) := by
  refine MetFree.of_bodySF (plainFor_of_name pn_6) hisR ?_
  intro p e s m args below meth c s₁ Bd hml0 hP hK
  obtain ⟨rfl, hZ, hh⟩ := hP
  have hx := Bd.exec
  have hby := Bd.bytes
  have hlk : meth.locks = false := Bd.notSynchronized
  have hml : c.maxLocals = 1 := hml0
  have hown : s.vm.findClass "java/util/Objects" = some m.cls := findClass_of_methodNamed Bd.named
  have X0 : Stand p l e (rO 0 0 0 0) s m #[(.ref a0)] below meth c s₁ [] 0 0 := Stand.of_body Bd
  have e0 : s₁.heap = h0 := by rw [← hh, Bd.state]; rfl
  have N0 := Fr.nil n0
  show Go p e below s ((PQ (.ref a0) n0 h0)) (rO 0 0 0 0).cells (rO 0 0 0 0).slots (s₁.setTop (entryFrame m #[(.ref a0)] 1))
  rw [ef_14 m a0]
  refine Go.st (S' := s₁.setTop (mkF m 13 #[vr a0] [.ref a0])) (fun _ kk => XS.aloadN X0.here hx rfl (hb hby d14_0) rfl rfl (XS.ifnonnullYes X0.here hx rfl (pc0 := 1) (pc' := 12) rfl (hb hby d14_1) rfl (by decide) (by decide) (XS.aloadN X0.here hx rfl (hb hby d14_12) rfl rfl kk))) ?_
  exact Go.retA X0 hx hlk Bd.returns rfl rfl (hb hby d14_13) (⟨rfl, N0, e0⟩) (by decide) (by decide)
theorem d16_0 : decode jdk_41_method_13_code 0 = .ok (.iload_n 2, 1) := by decide +kernel
theorem d16_1 : decode jdk_41_method_13_code 1 = .ok (.iload_n 0, 1) := by decide +kernel
theorem d16_2 : decode jdk_41_method_13_code 2 = .ok (.ior, 1) := by decide +kernel
theorem d16_3 : decode jdk_41_method_13_code 3 = .ok (.iload_n 1, 1) := by decide +kernel
theorem d16_4 : decode jdk_41_method_13_code 4 = .ok (.ior, 1) := by decide +kernel
theorem d16_5 : decode jdk_41_method_13_code 5 = .ok (.ifCond .lt 10, 3) := by decide +kernel
theorem d16_8 : decode jdk_41_method_13_code 8 = .ok (.iload_n 1, 1) := by decide +kernel
theorem d16_9 : decode jdk_41_method_13_code 9 = .ok (.iload_n 2, 1) := by decide +kernel
theorem d16_10 : decode jdk_41_method_13_code 10 = .ok (.iload_n 0, 1) := by decide +kernel
theorem d16_11 : decode jdk_41_method_13_code 11 = .ok (.isub, 1) := by decide +kernel
theorem d16_12 : decode jdk_41_method_13_code 12 = .ok (.if_icmp .le 11, 3) := by decide +kernel
theorem d16_23 : decode jdk_41_method_13_code 23 = .ok (.iload_n 0, 1) := by decide +kernel
theorem d16_24 : decode jdk_41_method_13_code 24 = .ok (.ireturn, 1) := by decide +kernel
theorem ef_16v (m : MethodId) (p0 : Int32) (p1 : Int32) (p2 : Int32) (v3 : Value) (hr_v3 : v3.isRef = true) : entryFrame m #[(.int p0), (.int p1), (.int p2), v3] 4 = mkF m 0 #[.val (.int p0), .val (.int p1), .val (.int p2), .val v3] [] := by
  rcases ref_cases hr_v3 with rfl | ⟨_, rfl⟩ <;> (first | (simp [entryFrame, mkF, argsToLocals, Value.category]; done) | rfl)
theorem rmFS (l : Launch) (Z : State) (az : Array Value) (hw : HW az Z) (ws : List Jvm.Cond) (p0 : Int32) (p1 : Int32) (p2 : Int32) (v3 : Value)  (h0 : Heap) (n0 : Nat) (Z0 : n0 ≤ h0.size) (hr_v3 : v3.isRef = true) (n : Nat) (hz : p2.toInt = n) (ho : 0 ≤ p0.toInt ∧ 0 ≤ p1.toInt ∧ p0.toInt + p1.toInt ≤ n) :
    MF l mN33 (Jvm.Cond.code mN33 jdk_41_method_13_code 4 (some .int) :: ws) (rO 0 0 0 0) #[(.int p0), (.int p1), (.int p2), v3] Z h0 (PQ (.int p0) n0 h0) := by
  refine MetFree.of_bodySF (plainFor_of_name pn_0) hisR ?_
  intro p e s m args below meth c s₁ Bd hml0 hP hK
  obtain ⟨rfl, hZ, hh⟩ := hP
  have hx := Bd.exec
  have hby := Bd.bytes
  have hlk : meth.locks = false := Bd.notSynchronized
  have hml : c.maxLocals = 4 := hml0
  have hown : s.vm.findClass "jdk/internal/util/Preconditions" = some m.cls := findClass_of_methodNamed Bd.named
  have X0 : Stand p l e (rO 0 0 0 0) s m #[(.int p0), (.int p1), (.int p2), v3] below meth c s₁ [] 0 0 := Stand.of_body Bd
  have e0 : s₁.heap = h0 := by rw [← hh, Bd.state]; rfl
  have N0 := Fr.nil n0
  show Go p e below s ((PQ (.int p0) n0 h0)) (rO 0 0 0 0).cells (rO 0 0 0 0).slots (s₁.setTop (entryFrame m #[(.int p0), (.int p1), (.int p2), v3] 4))
  rw [ef_16v m p0 p1 p2 v3 hr_v3]
  have hq1 := own_or3 (a := p2) (b := p0) (c := p1) (by omega) (by omega) (by omega)
  have hq2 := own_fis hz ho
  refine Go.st (S' := s₁.setTop (mkF m 8 #[vi p0, vi p1, vi p2, .val v3] [])) (fun _ kk => XS.iloadN X0.here hx rfl (hb hby d16_0) rfl (XS.iloadN X0.here hx rfl (hb hby d16_1) rfl (XS.ior X0.here hx rfl (hb hby d16_2) rfl (XS.iloadN X0.here hx rfl (hb hby d16_3) rfl (XS.ior X0.here hx rfl (hb hby d16_4) rfl (XS.ifNo X0.here hx rfl (hb hby d16_5) rfl ((if0 _ _).trans (flt hq1).1) kk)))))) ?_
  refine Go.st (S' := s₁.setTop (mkF m 24 #[vi p0, vi p1, vi p2, .val v3] [.int p0])) (fun _ kk => XS.iloadN X0.here hx rfl (hb hby d16_8) rfl (XS.iloadN X0.here hx rfl (hb hby d16_9) rfl (XS.iloadN X0.here hx rfl (hb hby d16_10) rfl (XS.isub X0.here hx rfl (hb hby d16_11) rfl (XS.icmpYes X0.here hx rfl (pc0 := 12) (pc' := 23) rfl (hb hby d16_12) rfl (flt hq2).2.2.2 (by decide) (by decide) (XS.iloadN X0.here hx rfl (hb hby d16_23) rfl kk)))))) ?_
  exact Go.retI X0 hx hlk Bd.returns (hb hby d16_24) (⟨rfl, N0, e0⟩) (by decide) (by decide)
theorem d15_0 : decode jdk_42_method_157_code 0 = .ok (.iload_n 0, 1) := by decide +kernel
theorem d15_1 : decode jdk_42_method_157_code 1 = .ok (.iload_n 1, 1) := by decide +kernel
theorem d15_2 : decode jdk_42_method_157_code 2 = .ok (.iload_n 2, 1) := by decide +kernel
theorem d15_3 : decode jdk_42_method_157_code 3 = .ok (.getstatic 1053, 3) := by decide +kernel
theorem d15_6 : decode jdk_42_method_157_code 6 = .ok (.invokestatic 1065, 3) := by decide +kernel
theorem d15_9 : decode jdk_42_method_157_code 9 = .ok (.ireturn, 1) := by decide +kernel
theorem ef_15 (m : MethodId) (p0 : Int32) (p1 : Int32) (p2 : Int32) : entryFrame m #[(.int p0), (.int p1), (.int p2)] 3 = mkF m 0 #[.val (.int p0), .val (.int p1), .val (.int p2)] [] := by first | (simp [entryFrame, mkF, argsToLocals, Value.category]; done) | rfl
theorem rmBO (l : Launch) (Z : State) (az : Array Value) (hw : HW az Z) (ws : List Jvm.Cond) (p0 : Int32) (p1 : Int32) (p2 : Int32) (zc : Int32) (fm : Value) (h0 : Heap) (n0 : Nat) (Z0 : n0 ≤ h0.size) (S_C : tS0 Z h0 (.int zc)) (hzc : ¬ zc = 0) (S_F : tS1 Z h0 fm) (hfm : fm.isRef = true) (n : Nat) (hz : p2.toInt = n) (ho : 0 ≤ p0.toInt ∧ 0 ≤ p1.toInt ∧ p0.toInt + p1.toInt ≤ n) :
    MF l mN21 (Jvm.Cond.code mN21 jdk_42_method_157_code 3 (some .int) :: ws) (rO 1 0 0 15) #[(.int p0), (.int p1), (.int p2)] Z h0 (PQ (.int p0) n0 h0) := by
  refine MetFree.of_bodySF (plainFor_of_name pn_1) hisR ?_
  intro p e s m args below meth c s₁ Bd hml0 hP hK
  obtain ⟨rfl, hZ, hh⟩ := hP
  have hx := Bd.exec
  have hby := Bd.bytes
  have hlk : meth.locks = false := Bd.notSynchronized
  have hml : c.maxLocals = 3 := hml0
  have hown : s.vm.findClass "java/lang/String" = some m.cls := findClass_of_methodNamed Bd.named
  have X0 : Stand p l e (rO 1 0 0 15) s m #[(.int p0), (.int p1), (.int p2)] below meth c s₁ [] 0 0 := Stand.of_body Bd
  have e0 : s₁.heap = h0 := by rw [← hh, Bd.state]; rfl
  have N0 := Fr.nil n0
  show Go p e below s ((PQ (.int p0) n0 h0)) (rO 1 0 0 15).cells (rO 1 0 0 15).slots (s₁.setTop (entryFrame m #[(.int p0), (.int p1), (.int p2)] 3))
  rw [ef_15 m p0 p1 p2]
  refine Go.st (S' := s₁.setTop (mkF m 3 #[vi p0, vi p1, vi p2] [.int p2, .int p1, .int p0])) (fun _ kk => XS.iloadN X0.here hx rfl (hb hby d15_0) rfl (XS.iloadN X0.here hx rfl (hb hby d15_1) rfl (XS.iloadN X0.here hx rfl (hb hby d15_2) rfl kk))) ?_
  obtain ⟨T1, X1, e1, st1⟩ := getS2 X0 hx hZ hown (host := "") (Or.inl (ow hw 103 rfl)) Via.refl e0 S_F (g := (mkF m 3 #[vi p0, vi p1, vi p2] [.int p2, .int p1, .int p0])) rfl (hb hby d15_3)
  refine Go.st (S' := T1.setTop (mkF m 6 #[vi p0, vi p1, vi p2] [fm, .int p2, .int p1, .int p0])) st1 ?_
  obtain ⟨_, _, ⟨T2, L2, k2, n2⟩, -, X2, ⟨Lc2, hQ2, l2, y2, z2⟩, st2⟩ := Jvm.LawKit.callS X1 hx (y := mN33) hown (mvT hZ (ow hw 105 rfl)) (mvT hZ (ow hw 106 rfl)) (mvT hZ (ow hw 104 rfl)) (mvT hZ (ow hw 107 rfl)) (by decide) (backOf (W := 0) (rmFS l Z az hw [] p0 p1 p2 fm h0 n0 Z0 hfm n hz ho) hZ (ow hw 107 rfl) (ow hw 104 rfl) (by decide) (by decide)) (g := (mkF m 6 #[vi p0, vi p1, vi p2] [fm, .int p2, .int p1, .int p0])) rfl (by rw [hml]; rfl) (argsL := [.int p0, .int p1, .int p2, fm]) (rest := []) (lenOf pd_12 rfl) rfl (oW rfl rfl) (hb hby d15_6) (fun _ _ => ⟨rfl, e1, (by decide : 0 + 0 ≤ _), (by decide : 0 + 0 ≤ _)⟩)
  dsimp only [Pt.U, Pt.locs, Pt.cells, Pt.slots] at X2 l2 y2 z2 st2 hQ2
  rw [l2, y2, z2] at X2
  obtain ⟨hv2, N2q, e2⟩ := hQ2
  subst hv2
  have N2 := Fr.app N0 N2q
  refine Go.st (S' := T2.setTop (mkF m 9 #[vi p0, vi p1, vi p2] [.int p0])) st2 ?_
  exact Go.retI X2 hx hlk Bd.returns (hb hby d15_9) (⟨rfl, N2, e2⟩) (by decide) (by decide)
theorem own_sl0 {bs : List Int32} {a b : Int32} (h : b = 0) : own_sl bs a (a + b) = [] := by
  subst h
  unfold own_sl
  rw [Int32.add_zero, Int.sub_self]
  rfl
def Q_ib (Z : State) (a0 : Addr) (bs : List Int32) (p2 p3 : Int32) (h0 : Heap) (n0 : Nat) (v : Option Value) (h : Heap) (vm : Vm) (L : List Loc) : Prop := v = none ∧ Fr n0 L ∧ Keep h0 h [a0] ∧ CHv Z consts_1 vm h ∧ CSt Z h a0 (own_sl bs p2 (p2 + p3))
theorem d13_0 : decode jdk_42_method_10_code 0 = .ok (.aload_n 0, 1) := by decide +kernel
theorem d13_1 : decode jdk_42_method_10_code 1 = .ok (.aload 4, 2) := by decide +kernel
theorem d13_3 : decode jdk_42_method_10_code 3 = .ok (.invokestatic 78, 3) := by decide +kernel
theorem d13_6 : decode jdk_42_method_10_code 6 = .ok (.checkcast 84, 3) := by decide +kernel
theorem d13_9 : decode jdk_42_method_10_code 9 = .ok (.aload_n 1, 1) := by decide +kernel
theorem d13_10 : decode jdk_42_method_10_code 10 = .ok (.iload_n 2, 1) := by decide +kernel
theorem d13_11 : decode jdk_42_method_10_code 11 = .ok (.iload_n 3, 1) := by decide +kernel
theorem d13_12 : decode jdk_42_method_10_code 12 = .ok (.aload_n 1, 1) := by decide +kernel
theorem d13_13 : decode jdk_42_method_10_code 13 = .ok (.arraylength, 1) := by decide +kernel
theorem d13_14 : decode jdk_42_method_10_code 14 = .ok (.invokestatic 34, 3) := by decide +kernel
theorem d13_17 : decode jdk_42_method_10_code 17 = .ok (.iload_n 3, 1) := by decide +kernel
theorem d13_18 : decode jdk_42_method_10_code 18 = .ok (.invokespecial 75, 3) := by decide +kernel
theorem d13_21 : decode jdk_42_method_10_code 21 = .ok (.return_, 1) := by decide +kernel
theorem ef_13 (m : MethodId) (a0 : Addr) (a1 : Addr) (p2 : Int32) (p3 : Int32) (a4 : Addr) : entryFrame m #[(.ref a0), (.ref a1), (.int p2), (.int p3), (.ref a4)] 5 = mkF m 0 #[.val (.ref a0), .val (.ref a1), .val (.int p2), .val (.int p3), .val (.ref a4)] [] := by first | (simp [entryFrame, mkF, argsToLocals, Value.category]; done) | rfl
theorem rmIB_uu (l : Launch) (Z : State) (az : Array Value) (hw : HW az Z) (ws : List Jvm.Cond) (a0 : Addr) (a1 : Addr) (p2 : Int32) (p3 : Int32) (a4 : Addr) (zc : Int32) (fm : Value) (uu ui ua : Addr) (k0 : ClassId) (z : Int32) (bs : List Int32) (h0 : Heap) (n0 : Nat) (Z0 : n0 ≤ h0.size) (S_C : tS0 Z h0 (.int zc)) (hzc : ¬ zc = 0) (S_F : tS1 Z h0 fm) (hfm : fm.isRef = true) (S_uu : tS2 Z h0 (.ref uu)) (S_ui : tS3 Z h0 (.ref ui)) (S_ua : tS4 Z h0 (.ref ua)) (nui : uu ≠ ui) (nua : uu ≠ ua) (nia : ui ≠ ua) (E_a0 : Exa Z h0 a0 "java/lang/String") (F_coder : tF0 Z h0 a0 (.int 0)) (F_value : tF1 Z h0 a0 .null) (g_a0 : n0 ≤ a0) (ne : a0 ≠ a1) (V_a1 : Arv Z h0 a1 k0 .byte z (bs.map .int) (.int 0)) (hz : z.toInt = bs.length) (hbs : ∀ b ∈ bs, 0 ≤ b.toInt ∧ b.toInt ≤ 127) (E_a1 : Exa Z h0 a1 "[B") (ho : 0 ≤ p2.toInt ∧ 0 ≤ p3.toInt ∧ p2.toInt + p3.toInt ≤ bs.length) (hs6 : bs.length ≤ 6) (E_a4 : Exa Z h0 a4 "sun/nio/cs/UTF_8") (hc1 : a4 = uu) :
    MetFree l mN19 (head1 (Jvm.Cond.code mN19 jdk_42_method_10_code 5 none :: ws) (rO 4 2 6 93)) (fun a U => a = #[(.ref a0), (.ref a1), (.int p2), (.int p3), (.ref a4)] ∧ Z.Warmed39 U.vm ∧ U.heap = h0 ∧ (PCS Z h0 a0) U.vm) (fun _ _ _ _ _ => True) (fun _ U o U' => ∃ v L, o = .returned v ∧ (Q_ib Z a0 bs p2 p3 h0 n0) v U'.heap U'.vm L ∧ ReturnedEndW U o U' L (rO 4 2 6 93).cells (rO 4 2 6 93).slots) := by
  refine MetFree.of_bodySF (plainFor_of_name pn_1) hisR ?_
  intro p e s m args below meth c s₁ Bd hml0 hP hK
  obtain ⟨rfl, hZ, hh, Hc, Sf⟩ := hP
  have hx := Bd.exec
  have hby := Bd.bytes
  have hlk : meth.locks = false := Bd.notSynchronized
  have hml : c.maxLocals = 5 := hml0
  have hown : s.vm.findClass "java/lang/String" = some m.cls := findClass_of_methodNamed Bd.named
  have X0 : Stand p l e (rO 4 2 6 93) s m #[(.ref a0), (.ref a1), (.int p2), (.int p3), (.ref a4)] below meth c s₁ [] 0 0 := Stand.of_body Bd
  have X0 : Stand p l e (rO 4 2 6 93) (s.setVm s.vm) m #[(.ref a0), (.ref a1), (.int p2), (.int p3), (.ref a4)] below meth c s₁ [] 0 0 := X0
  have e0 : s₁.heap = h0 := by rw [← hh, Bd.state]; rfl
  have hS : s.Since s.vm n0 := (State.WarmedH.refl s).since n0
  have hk : n0 ≤ h0.size := Z0
  have N0 := Fr.nil n0
  show GoW p e below s ((Q_ib Z a0 bs p2 p3 h0 n0)) (rO 4 2 6 93).cells (rO 4 2 6 93).slots (s₁.setTop (entryFrame m #[(.ref a0), (.ref a1), (.int p2), (.int p3), (.ref a4)] 5))
  rw [ef_13 m a0 a1 p2 p3 a4]
  refine GoW.st (S' := s₁.setTop (mkF m 3 #[vr a0, vr a1, vi p2, vi p3, vr a4] [.ref a4, .ref a0])) (fun _ kk => XS.aloadN X0.here hx rfl (hb hby d13_0) rfl rfl (XS.aload X0.here hx rfl (hb hby d13_1) rfl rfl kk)) ?_
  obtain ⟨_, _, ⟨T1, L1, k1, n1⟩, -, X1, ⟨Lc1, hQ1, l1, y1, z1⟩, st1⟩ := Jvm.LawKit.callS X0 hx (y := mN32) hown (mvT hZ (ow hw 94 rfl)) (mvT hZ (ow hw 95 rfl)) (mvT hZ (ow hw 96 rfl)) (mvT hZ (ow hw 97 rfl)) (by decide) (backOf (W := 1) (rmRN l Z az hw [] a4 h0 n0 Z0) hZ (ow hw 97 rfl) (ow hw 96 rfl) (by decide) (by decide)) (g := (mkF m 3 #[vr a0, vr a1, vi p2, vi p3, vr a4] [.ref a4, .ref a0])) rfl (by rw [hml]; rfl) (argsL := [.ref a4]) (rest := [.ref a0]) (lenOf pd_10 rfl) rfl (oW rfl rfl) (hb hby d13_3) (fun _ _ => ⟨rfl, e0, (by decide : 0 + 0 ≤ _), (by decide : 0 + 0 ≤ _)⟩)
  dsimp only [Pt.U, Pt.locs, Pt.cells, Pt.slots] at X1 l1 y1 z1 st1 hQ1
  rw [l1, y1, z1] at X1
  obtain ⟨hv1, N1q, e1⟩ := hQ1
  subst hv1
  have N1 := Fr.app N0 N1q
  refine GoW.st (S' := T1.setTop (mkF m 6 #[vr a0, vr a1, vi p2, vi p3, vr a4] [.ref a4, .ref a0])) st1 ?_
  obtain ⟨T2, X2, e2, st2⟩ := castY X1 hx hZ hown (ow hw 98 rfl) e1 (Ins.of_exa E_a4 (ow hw 163 rfl)) (g := (mkF m 6 #[vr a0, vr a1, vi p2, vi p3, vr a4] [.ref a4, .ref a0])) rfl rfl (hb hby d13_6)
  refine GoW.st (S' := T2.setTop (mkF m 13 #[vr a0, vr a1, vi p2, vi p3, vr a4] [.ref a1, .int p3, .int p2, .ref a1, .ref a4, .ref a0])) (fun _ kk => st2 _ (XS.aloadN X2.here hx rfl (hb hby d13_9) rfl rfl (XS.iloadN X2.here hx rfl (hb hby d13_10) rfl (XS.iloadN X2.here hx rfl (hb hby d13_11) rfl (XS.aloadN X2.here hx rfl (hb hby d13_12) rfl rfl kk))))) ?_
  obtain ⟨cl3, Ar3, -, S3, Ng3, -, -⟩ := (id V_a1)
  refine GoW.st (S' := T2.setTop (mkF m 14 #[vr a0, vr a1, vi p2, vi p3, vr a4] [.int z, .int p3, .int p2, .ref a1, .ref a4, .ref a0])) (fun _ kk => X2.arraylength hx (by rw [e2]; exact Ar3.1) (State.isArrayOf_alike hZ.alike Ar3.2.1) (g := (mkF m 13 #[vr a0, vr a1, vi p2, vi p3, vr a4] [.ref a1, .int p3, .int p2, .ref a1, .ref a4, .ref a0])) rfl rfl (hb hby d13_13) _ (by rw [len_of S3 Ng3]; exact kk)) ?_
  obtain ⟨_, _, ⟨T4, L4, k4, n4⟩, -, X4, ⟨Lc4, hQ4, l4, y4, z4⟩, st4⟩ := Jvm.LawKit.callS X2 hx (y := mN21) hown (mvT hZ (ow hw 100 rfl)) (mvT hZ (ow hw 101 rfl)) (mvT hZ (ow hw 58 rfl)) (mvT hZ (ow hw 102 rfl)) (by decide) (backOf (W := 3) (rmBO l Z az hw [] p2 p3 z zc fm h0 n0 Z0 S_C hzc S_F hfm  _ hz ho) hZ (ow hw 102 rfl) (ow hw 58 rfl) (by decide) (by decide)) (g := (mkF m 14 #[vr a0, vr a1, vi p2, vi p3, vr a4] [.int z, .int p3, .int p2, .ref a1, .ref a4, .ref a0])) rfl (by rw [hml]; rfl) (argsL := [.int p2, .int p3, .int z]) (rest := [.ref a1, .ref a4, .ref a0]) (lenOf pd_11 rfl) rfl (oW rfl rfl) (hb hby d13_14) (fun _ _ => ⟨rfl, e2, (by decide : 0 + 0 ≤ _), (by decide : 0 + 0 ≤ _)⟩)
  dsimp only [Pt.U, Pt.locs, Pt.cells, Pt.slots] at X4 l4 y4 z4 st4 hQ4
  rw [l4, y4, z4] at X4
  obtain ⟨hv4, N4q, e4⟩ := hQ4
  subst hv4
  have N4 := Fr.app N1 N4q
  refine GoW.st (S' := T4.setTop (mkF m 17 #[vr a0, vr a1, vi p2, vi p3, vr a4] [.int p2, .ref a1, .ref a4, .ref a0])) st4 ?_
  by_cases hn4 : p3 = 0
  · refine GoW.st (S' := T4.setTop (mkF m 18 #[vr a0, vr a1, vi p2, vi p3, vr a4] [.int p3, .int p2, .ref a1, .ref a4, .ref a0])) (fun _ kk => XS.iloadN X4.here hx rfl (hb hby d13_17) rfl kk) ?_
    obtain ⟨_, _, ⟨T5, L5, k5, n5⟩, -, X5, hS5, hg5, ⟨Lc5, hQ5, l5, y5, z5⟩, st5⟩ := own_specialSH X4 hx (y := mN18) rfl hown (mvT hZ (ow hw 108 rfl)) (mvT hZ (ow hw 109 rfl)) (mvT hZ (ow hw 110 rfl)) (by decide) (own_backSH (W := 0) (P := PCS Z h0 a0) (rmSE0 l Z az hw [] a0 a4 a1 p2 p3 h0 n0 Z0 E_a0 F_coder F_value g_a0 hn4) hZ (ow hw 110 rfl) (ow hw 58 rfl) (by decide) (by decide)) (g := (mkF m 18 #[vr a0, vr a1, vi p2, vi p3, vr a4] [.int p3, .int p2, .ref a1, .ref a4, .ref a0])) rfl (by rw [hml]; rfl) (a := a0) (argsL := [.ref a4, .ref a1, .int p2, .int p3]) (rest := []) (lenOf pd_13 rfl) rfl (oW rfl rfl) (hb hby d13_18) (fun vmq hvq => ⟨rfl, e4, ⟨(own_chat hZ hvq (own_EW hw) Hc).1, (own_chat hZ hvq (own_EW hw) Hc).safe E_a0.lt Sf⟩, (by decide : 0 + 2 ≤ _), (by decide : 0 + 4 ≤ _)⟩)
    dsimp only [Pt.U, Pt.locs, Pt.cells, Pt.slots] at X5 l5 y5 z5 st5 hQ5 hS5 hg5
    rw [l5, y5, z5] at X5
    obtain ⟨X5, hS, hZ, hown⟩ := rebS hS (own_hk e4 hk) X5 hS5 hg5 hZ hown
    obtain ⟨rfl, N5q, K5, Hc5, CS5⟩ := hQ5
    have N5 := Fr.app N4 N5q
    have S_C := own_stak K5 (allS (P := fun x => ∀ cell : Cell, (h0)[x]? = some cell → cell.vm.isStatics = false) (Exa.nostat E_a0) all0) S_C
    have S_F := own_stak K5 (allS (P := fun x => ∀ cell : Cell, (h0)[x]? = some cell → cell.vm.isStatics = false) (Exa.nostat E_a0) all0) S_F
    have S_uu := own_stak K5 (allS (P := fun x => ∀ cell : Cell, (h0)[x]? = some cell → cell.vm.isStatics = false) (Exa.nostat E_a0) all0) S_uu
    have S_ui := own_stak K5 (allS (P := fun x => ∀ cell : Cell, (h0)[x]? = some cell → cell.vm.isStatics = false) (Exa.nostat E_a0) all0) S_ui
    have S_ua := own_stak K5 (allS (P := fun x => ∀ cell : Cell, (h0)[x]? = some cell → cell.vm.isStatics = false) (Exa.nostat E_a0) all0) S_ua
    have V_a1 := V_a1.keep K5 (ninS (Ne.symm ne) nin0)
    have E_a1 := E_a1.keep K5
    have E_a4 := E_a4.keep K5
    have E_a0 := E_a0.keep K5
    have Zs6 := Nat.le_trans Z0 K5.1
    have hk := Nat.le_trans hk K5.1
    have Kp7 := (Keep.refl h0 [a0]).trans K5 (allS (Or.inl (List.mem_of_getElem? (i := 0) rfl)) all0)
    have Hc := Hc5
    have Ec5 := CS5.1
    have hk : T5.heap.size ≤ (T5.heap).size := Nat.le_of_eq (congrArg Array.size (show T5.heap = T5.heap from rfl))
    refine GoW.tr (S' := T5.setTop (mkF m 21 #[vr a0, vr a1, vi p2, vi p3, vr a4] [])) st5 ?_
    exact GoW.ret0 X5 hx hlk hS (own_hk rfl hk) Bd.returns (hb hby d13_21) (by exact ⟨rfl, N5, Kp7, (own_chat hZ X5.warmed (own_EW hw) Hc).1, by rw [own_sl0 hn4]; exact CS5⟩) (by decide) (by decide)
  · refine GoW.st (S' := T4.setTop (mkF m 18 #[vr a0, vr a1, vi p2, vi p3, vr a4] [.int p3, .int p2, .ref a1, .ref a4, .ref a0])) (fun _ kk => XS.iloadN X4.here hx rfl (hb hby d13_17) rfl kk) ?_
    obtain ⟨_, _, ⟨T8, L8, k8, n8⟩, -, X8, ⟨Lc8, hQ8, l8, y8, z8⟩, st8⟩ := X4.specialBackH hx (y := mN18) rfl hown (mvT hZ (ow hw 108 rfl)) (mvT hZ (ow hw 109 rfl)) (mvT hZ (ow hw 110 rfl)) (by decide) (backOfWith (W := 0) (rmSI_uu l Z az hw [] a0 a4 a1 p2 p3 zc fm uu ui ua k0 z bs h0 n0 Z0 S_C hzc S_F hfm  S_uu S_ui S_ua nui nua nia E_a0 F_coder F_value g_a0 ne V_a1 hz hbs E_a1 ho hs6 hc1 hn4) hZ (ow hw 110 rfl) (ow hw 58 rfl) (by decide) (by decide)) (g := (mkF m 18 #[vr a0, vr a1, vi p2, vi p3, vr a4] [.int p3, .int p2, .ref a1, .ref a4, .ref a0])) rfl (by rw [hml]; rfl) (Steps.refl _) (a := a0) (argsL := [.ref a4, .ref a1, .int p2, .int p3]) (rest := []) (lenOf pd_13 rfl) rfl (oW rfl rfl) (hb hby d13_18) (fun _ _ => ⟨rfl, e4, (by decide : 0 + 1 ≤ _), (by decide : 0 + 6 ≤ _)⟩)
    dsimp only [Pt.U, Pt.locs, Pt.cells, Pt.slots] at X8 l8 y8 z8 st8 hQ8
    rw [l8, y8, z8] at X8
    obtain ⟨rfl, N8q, K8, CS8⟩ := hQ8
    have N8 := Fr.app N4 N8q
    have Sf' := Safe.keep K8 (allS (P := Safe Z consts_1 s.vm h0) Sf all0) Hc Sf
    have Hc := CHv.keep K8 (allS (P := Safe Z consts_1 s.vm h0) Sf all0) Hc
    have Sf := Sf'
    have S_C := own_stak K8 (allS (P := fun x => ∀ cell : Cell, (h0)[x]? = some cell → cell.vm.isStatics = false) (Exa.nostat E_a0) all0) S_C
    have S_F := own_stak K8 (allS (P := fun x => ∀ cell : Cell, (h0)[x]? = some cell → cell.vm.isStatics = false) (Exa.nostat E_a0) all0) S_F
    have S_uu := own_stak K8 (allS (P := fun x => ∀ cell : Cell, (h0)[x]? = some cell → cell.vm.isStatics = false) (Exa.nostat E_a0) all0) S_uu
    have S_ui := own_stak K8 (allS (P := fun x => ∀ cell : Cell, (h0)[x]? = some cell → cell.vm.isStatics = false) (Exa.nostat E_a0) all0) S_ui
    have S_ua := own_stak K8 (allS (P := fun x => ∀ cell : Cell, (h0)[x]? = some cell → cell.vm.isStatics = false) (Exa.nostat E_a0) all0) S_ua
    have V_a1 := V_a1.keep K8 (ninS (Ne.symm ne) nin0)
    have E_a1 := E_a1.keep K8
    have E_a4 := E_a4.keep K8
    have E_a0 := E_a0.keep K8
    have Zs9 := Nat.le_trans Z0 K8.1
    have hk := Nat.le_trans hk K8.1
    have Kp10 := (Keep.refl h0 [a0]).trans K8 (allS (Or.inl (List.mem_of_getElem? (i := 0) rfl)) all0)
    have Ec8 := CS8.1
    refine GoW.tr (S' := T8.setTop (mkF m 21 #[vr a0, vr a1, vi p2, vi p3, vr a4] [])) st8 ?_
    exact GoW.ret0 X8 hx hlk hS (own_hk rfl hk) Bd.returns (hb hby d13_21) (by exact ⟨rfl, N8, Kp10, (own_chat hZ X8.warmed (own_EW hw) Hc).1, CS8⟩) (by decide) (by decide)
theorem rmIB_ua (l : Launch) (Z : State) (az : Array Value) (hw : HW az Z) (ws : List Jvm.Cond) (a0 : Addr) (a1 : Addr) (p2 : Int32) (p3 : Int32) (a4 : Addr) (zc : Int32) (fm : Value) (uu ui ua : Addr) (k0 : ClassId) (z : Int32) (bs : List Int32) (h0 : Heap) (n0 : Nat) (Z0 : n0 ≤ h0.size) (S_C : tS0 Z h0 (.int zc)) (hzc : ¬ zc = 0) (S_F : tS1 Z h0 fm) (hfm : fm.isRef = true) (S_uu : tS2 Z h0 (.ref uu)) (S_ui : tS3 Z h0 (.ref ui)) (S_ua : tS4 Z h0 (.ref ua)) (nui : uu ≠ ui) (nua : uu ≠ ua) (nia : ui ≠ ua) (E_a0 : Exa Z h0 a0 "java/lang/String") (F_coder : tF0 Z h0 a0 (.int 0)) (F_value : tF1 Z h0 a0 .null) (g_a0 : n0 ≤ a0) (ne : a0 ≠ a1) (V_a1 : Arv Z h0 a1 k0 .byte z (bs.map .int) (.int 0)) (hz : z.toInt = bs.length) (hbs : ∀ b ∈ bs, 0 ≤ b.toInt ∧ b.toInt ≤ 127) (E_a1 : Exa Z h0 a1 "[B") (ho : 0 ≤ p2.toInt ∧ 0 ≤ p3.toInt ∧ p2.toInt + p3.toInt ≤ bs.length) (hs6 : bs.length ≤ 6) (E_a4 : Exa Z h0 a4 "sun/nio/cs/US_ASCII") (hc1 : a4 = ua) :
    MetFree l mN19 (head1 (Jvm.Cond.code mN19 jdk_42_method_10_code 5 none :: ws) (rO 4 2 6 93)) (fun a U => a = #[(.ref a0), (.ref a1), (.int p2), (.int p3), (.ref a4)] ∧ Z.Warmed39 U.vm ∧ U.heap = h0 ∧ (PCS Z h0 a0) U.vm) (fun _ _ _ _ _ => True) (fun _ U o U' => ∃ v L, o = .returned v ∧ (Q_ib Z a0 bs p2 p3 h0 n0) v U'.heap U'.vm L ∧ ReturnedEndW U o U' L (rO 4 2 6 93).cells (rO 4 2 6 93).slots) := by
  refine MetFree.of_bodySF (plainFor_of_name pn_1) hisR ?_
  intro p e s m args below meth c s₁ Bd hml0 hP hK
  obtain ⟨rfl, hZ, hh, Hc, Sf⟩ := hP
  have hx := Bd.exec
  have hby := Bd.bytes
  have hlk : meth.locks = false := Bd.notSynchronized
  have hml : c.maxLocals = 5 := hml0
  have hown : s.vm.findClass "java/lang/String" = some m.cls := findClass_of_methodNamed Bd.named
  have X0 : Stand p l e (rO 4 2 6 93) s m #[(.ref a0), (.ref a1), (.int p2), (.int p3), (.ref a4)] below meth c s₁ [] 0 0 := Stand.of_body Bd
  have X0 : Stand p l e (rO 4 2 6 93) (s.setVm s.vm) m #[(.ref a0), (.ref a1), (.int p2), (.int p3), (.ref a4)] below meth c s₁ [] 0 0 := X0
  have e0 : s₁.heap = h0 := by rw [← hh, Bd.state]; rfl
  have hS : s.Since s.vm n0 := (State.WarmedH.refl s).since n0
  have hk : n0 ≤ h0.size := Z0
  have N0 := Fr.nil n0
  show GoW p e below s ((Q_ib Z a0 bs p2 p3 h0 n0)) (rO 4 2 6 93).cells (rO 4 2 6 93).slots (s₁.setTop (entryFrame m #[(.ref a0), (.ref a1), (.int p2), (.int p3), (.ref a4)] 5))
  rw [ef_13 m a0 a1 p2 p3 a4]
  refine GoW.st (S' := s₁.setTop (mkF m 3 #[vr a0, vr a1, vi p2, vi p3, vr a4] [.ref a4, .ref a0])) (fun _ kk => XS.aloadN X0.here hx rfl (hb hby d13_0) rfl rfl (XS.aload X0.here hx rfl (hb hby d13_1) rfl rfl kk)) ?_
  obtain ⟨_, _, ⟨T1, L1, k1, n1⟩, -, X1, ⟨Lc1, hQ1, l1, y1, z1⟩, st1⟩ := Jvm.LawKit.callS X0 hx (y := mN32) hown (mvT hZ (ow hw 94 rfl)) (mvT hZ (ow hw 95 rfl)) (mvT hZ (ow hw 96 rfl)) (mvT hZ (ow hw 97 rfl)) (by decide) (backOf (W := 1) (rmRN l Z az hw [] a4 h0 n0 Z0) hZ (ow hw 97 rfl) (ow hw 96 rfl) (by decide) (by decide)) (g := (mkF m 3 #[vr a0, vr a1, vi p2, vi p3, vr a4] [.ref a4, .ref a0])) rfl (by rw [hml]; rfl) (argsL := [.ref a4]) (rest := [.ref a0]) (lenOf pd_10 rfl) rfl (oW rfl rfl) (hb hby d13_3) (fun _ _ => ⟨rfl, e0, (by decide : 0 + 0 ≤ _), (by decide : 0 + 0 ≤ _)⟩)
  dsimp only [Pt.U, Pt.locs, Pt.cells, Pt.slots] at X1 l1 y1 z1 st1 hQ1
  rw [l1, y1, z1] at X1
  obtain ⟨hv1, N1q, e1⟩ := hQ1
  subst hv1
  have N1 := Fr.app N0 N1q
  refine GoW.st (S' := T1.setTop (mkF m 6 #[vr a0, vr a1, vi p2, vi p3, vr a4] [.ref a4, .ref a0])) st1 ?_
  obtain ⟨T2, X2, e2, st2⟩ := castY X1 hx hZ hown (ow hw 98 rfl) e1 (Ins.of_exa E_a4 (ow hw 99 rfl)) (g := (mkF m 6 #[vr a0, vr a1, vi p2, vi p3, vr a4] [.ref a4, .ref a0])) rfl rfl (hb hby d13_6)
  refine GoW.st (S' := T2.setTop (mkF m 13 #[vr a0, vr a1, vi p2, vi p3, vr a4] [.ref a1, .int p3, .int p2, .ref a1, .ref a4, .ref a0])) (fun _ kk => st2 _ (XS.aloadN X2.here hx rfl (hb hby d13_9) rfl rfl (XS.iloadN X2.here hx rfl (hb hby d13_10) rfl (XS.iloadN X2.here hx rfl (hb hby d13_11) rfl (XS.aloadN X2.here hx rfl (hb hby d13_12) rfl rfl kk))))) ?_
  obtain ⟨cl3, Ar3, -, S3, Ng3, -, -⟩ := (id V_a1)
  refine GoW.st (S' := T2.setTop (mkF m 14 #[vr a0, vr a1, vi p2, vi p3, vr a4] [.int z, .int p3, .int p2, .ref a1, .ref a4, .ref a0])) (fun _ kk => X2.arraylength hx (by rw [e2]; exact Ar3.1) (State.isArrayOf_alike hZ.alike Ar3.2.1) (g := (mkF m 13 #[vr a0, vr a1, vi p2, vi p3, vr a4] [.ref a1, .int p3, .int p2, .ref a1, .ref a4, .ref a0])) rfl rfl (hb hby d13_13) _ (by rw [len_of S3 Ng3]; exact kk)) ?_
  obtain ⟨_, _, ⟨T4, L4, k4, n4⟩, -, X4, ⟨Lc4, hQ4, l4, y4, z4⟩, st4⟩ := Jvm.LawKit.callS X2 hx (y := mN21) hown (mvT hZ (ow hw 100 rfl)) (mvT hZ (ow hw 101 rfl)) (mvT hZ (ow hw 58 rfl)) (mvT hZ (ow hw 102 rfl)) (by decide) (backOf (W := 3) (rmBO l Z az hw [] p2 p3 z zc fm h0 n0 Z0 S_C hzc S_F hfm  _ hz ho) hZ (ow hw 102 rfl) (ow hw 58 rfl) (by decide) (by decide)) (g := (mkF m 14 #[vr a0, vr a1, vi p2, vi p3, vr a4] [.int z, .int p3, .int p2, .ref a1, .ref a4, .ref a0])) rfl (by rw [hml]; rfl) (argsL := [.int p2, .int p3, .int z]) (rest := [.ref a1, .ref a4, .ref a0]) (lenOf pd_11 rfl) rfl (oW rfl rfl) (hb hby d13_14) (fun _ _ => ⟨rfl, e2, (by decide : 0 + 0 ≤ _), (by decide : 0 + 0 ≤ _)⟩)
  dsimp only [Pt.U, Pt.locs, Pt.cells, Pt.slots] at X4 l4 y4 z4 st4 hQ4
  rw [l4, y4, z4] at X4
  obtain ⟨hv4, N4q, e4⟩ := hQ4
  subst hv4
  have N4 := Fr.app N1 N4q
  refine GoW.st (S' := T4.setTop (mkF m 17 #[vr a0, vr a1, vi p2, vi p3, vr a4] [.int p2, .ref a1, .ref a4, .ref a0])) st4 ?_
  by_cases hn4 : p3 = 0
  · refine GoW.st (S' := T4.setTop (mkF m 18 #[vr a0, vr a1, vi p2, vi p3, vr a4] [.int p3, .int p2, .ref a1, .ref a4, .ref a0])) (fun _ kk => XS.iloadN X4.here hx rfl (hb hby d13_17) rfl kk) ?_
    obtain ⟨_, _, ⟨T5, L5, k5, n5⟩, -, X5, hS5, hg5, ⟨Lc5, hQ5, l5, y5, z5⟩, st5⟩ := own_specialSH X4 hx (y := mN18) rfl hown (mvT hZ (ow hw 108 rfl)) (mvT hZ (ow hw 109 rfl)) (mvT hZ (ow hw 110 rfl)) (by decide) (own_backSH (W := 0) (P := PCS Z h0 a0) (rmSE0 l Z az hw [] a0 a4 a1 p2 p3 h0 n0 Z0 E_a0 F_coder F_value g_a0 hn4) hZ (ow hw 110 rfl) (ow hw 58 rfl) (by decide) (by decide)) (g := (mkF m 18 #[vr a0, vr a1, vi p2, vi p3, vr a4] [.int p3, .int p2, .ref a1, .ref a4, .ref a0])) rfl (by rw [hml]; rfl) (a := a0) (argsL := [.ref a4, .ref a1, .int p2, .int p3]) (rest := []) (lenOf pd_13 rfl) rfl (oW rfl rfl) (hb hby d13_18) (fun vmq hvq => ⟨rfl, e4, ⟨(own_chat hZ hvq (own_EW hw) Hc).1, (own_chat hZ hvq (own_EW hw) Hc).safe E_a0.lt Sf⟩, (by decide : 0 + 2 ≤ _), (by decide : 0 + 4 ≤ _)⟩)
    dsimp only [Pt.U, Pt.locs, Pt.cells, Pt.slots] at X5 l5 y5 z5 st5 hQ5 hS5 hg5
    rw [l5, y5, z5] at X5
    obtain ⟨X5, hS, hZ, hown⟩ := rebS hS (own_hk e4 hk) X5 hS5 hg5 hZ hown
    obtain ⟨rfl, N5q, K5, Hc5, CS5⟩ := hQ5
    have N5 := Fr.app N4 N5q
    have S_C := own_stak K5 (allS (P := fun x => ∀ cell : Cell, (h0)[x]? = some cell → cell.vm.isStatics = false) (Exa.nostat E_a0) all0) S_C
    have S_F := own_stak K5 (allS (P := fun x => ∀ cell : Cell, (h0)[x]? = some cell → cell.vm.isStatics = false) (Exa.nostat E_a0) all0) S_F
    have S_uu := own_stak K5 (allS (P := fun x => ∀ cell : Cell, (h0)[x]? = some cell → cell.vm.isStatics = false) (Exa.nostat E_a0) all0) S_uu
    have S_ui := own_stak K5 (allS (P := fun x => ∀ cell : Cell, (h0)[x]? = some cell → cell.vm.isStatics = false) (Exa.nostat E_a0) all0) S_ui
    have S_ua := own_stak K5 (allS (P := fun x => ∀ cell : Cell, (h0)[x]? = some cell → cell.vm.isStatics = false) (Exa.nostat E_a0) all0) S_ua
    have V_a1 := V_a1.keep K5 (ninS (Ne.symm ne) nin0)
    have E_a1 := E_a1.keep K5
    have E_a4 := E_a4.keep K5
    have E_a0 := E_a0.keep K5
    have Zs6 := Nat.le_trans Z0 K5.1
    have hk := Nat.le_trans hk K5.1
    have Kp7 := (Keep.refl h0 [a0]).trans K5 (allS (Or.inl (List.mem_of_getElem? (i := 0) rfl)) all0)
    have Hc := Hc5
    have Ec5 := CS5.1
    have hk : T5.heap.size ≤ (T5.heap).size := Nat.le_of_eq (congrArg Array.size (show T5.heap = T5.heap from rfl))
    refine GoW.tr (S' := T5.setTop (mkF m 21 #[vr a0, vr a1, vi p2, vi p3, vr a4] [])) st5 ?_
    exact GoW.ret0 X5 hx hlk hS (own_hk rfl hk) Bd.returns (hb hby d13_21) (by exact ⟨rfl, N5, Kp7, (own_chat hZ X5.warmed (own_EW hw) Hc).1, by rw [own_sl0 hn4]; exact CS5⟩) (by decide) (by decide)
  · refine GoW.st (S' := T4.setTop (mkF m 18 #[vr a0, vr a1, vi p2, vi p3, vr a4] [.int p3, .int p2, .ref a1, .ref a4, .ref a0])) (fun _ kk => XS.iloadN X4.here hx rfl (hb hby d13_17) rfl kk) ?_
    obtain ⟨_, _, ⟨T8, L8, k8, n8⟩, -, X8, ⟨Lc8, hQ8, l8, y8, z8⟩, st8⟩ := X4.specialBackH hx (y := mN18) rfl hown (mvT hZ (ow hw 108 rfl)) (mvT hZ (ow hw 109 rfl)) (mvT hZ (ow hw 110 rfl)) (by decide) (backOfWith (W := 0) (rmSI_ua l Z az hw [] a0 a4 a1 p2 p3 zc fm uu ui ua k0 z bs h0 n0 Z0 S_C hzc S_F hfm  S_uu S_ui S_ua nui nua nia E_a0 F_coder F_value g_a0 ne V_a1 hz hbs E_a1 ho hs6 hc1 hn4) hZ (ow hw 110 rfl) (ow hw 58 rfl) (by decide) (by decide)) (g := (mkF m 18 #[vr a0, vr a1, vi p2, vi p3, vr a4] [.int p3, .int p2, .ref a1, .ref a4, .ref a0])) rfl (by rw [hml]; rfl) (Steps.refl _) (a := a0) (argsL := [.ref a4, .ref a1, .int p2, .int p3]) (rest := []) (lenOf pd_13 rfl) rfl (oW rfl rfl) (hb hby d13_18) (fun _ _ => ⟨rfl, e4, (by decide : 0 + 1 ≤ _), (by decide : 0 + 6 ≤ _)⟩)
    dsimp only [Pt.U, Pt.locs, Pt.cells, Pt.slots] at X8 l8 y8 z8 st8 hQ8
    rw [l8, y8, z8] at X8
    obtain ⟨rfl, N8q, K8, CS8⟩ := hQ8
    have N8 := Fr.app N4 N8q
    have Sf' := Safe.keep K8 (allS (P := Safe Z consts_1 s.vm h0) Sf all0) Hc Sf
    have Hc := CHv.keep K8 (allS (P := Safe Z consts_1 s.vm h0) Sf all0) Hc
    have Sf := Sf'
    have S_C := own_stak K8 (allS (P := fun x => ∀ cell : Cell, (h0)[x]? = some cell → cell.vm.isStatics = false) (Exa.nostat E_a0) all0) S_C
    have S_F := own_stak K8 (allS (P := fun x => ∀ cell : Cell, (h0)[x]? = some cell → cell.vm.isStatics = false) (Exa.nostat E_a0) all0) S_F
    have S_uu := own_stak K8 (allS (P := fun x => ∀ cell : Cell, (h0)[x]? = some cell → cell.vm.isStatics = false) (Exa.nostat E_a0) all0) S_uu
    have S_ui := own_stak K8 (allS (P := fun x => ∀ cell : Cell, (h0)[x]? = some cell → cell.vm.isStatics = false) (Exa.nostat E_a0) all0) S_ui
    have S_ua := own_stak K8 (allS (P := fun x => ∀ cell : Cell, (h0)[x]? = some cell → cell.vm.isStatics = false) (Exa.nostat E_a0) all0) S_ua
    have V_a1 := V_a1.keep K8 (ninS (Ne.symm ne) nin0)
    have E_a1 := E_a1.keep K8
    have E_a4 := E_a4.keep K8
    have E_a0 := E_a0.keep K8
    have Zs9 := Nat.le_trans Z0 K8.1
    have hk := Nat.le_trans hk K8.1
    have Kp10 := (Keep.refl h0 [a0]).trans K8 (allS (Or.inl (List.mem_of_getElem? (i := 0) rfl)) all0)
    have Ec8 := CS8.1
    refine GoW.tr (S' := T8.setTop (mkF m 21 #[vr a0, vr a1, vi p2, vi p3, vr a4] [])) st8 ?_
    exact GoW.ret0 X8 hx hlk hS (own_hk rfl hk) Bd.returns (hb hby d13_21) (by exact ⟨rfl, N8, Kp10, (own_chat hZ X8.warmed (own_EW hw) Hc).1, CS8⟩) (by decide) (by decide)
theorem own_arrT {Z : State} {h : Heap} {a b : Addr} {c_1 c_2 : Cell} {t_1 t2 : FieldType} (A : Arr Z h a c_1 t_1) (B : Arr Z h b c_2 t2) (q : t_1 ≠ t2) : a ≠ b := fun e => by
  subst e
  obtain ⟨e1, ⟨-, kk, hk, comp, hkind⟩, -⟩ := A
  obtain ⟨e2, ⟨-, kk', hk', comp', hkind'⟩, -⟩ := B
  cases e1.symm.trans e2
  cases hk.symm.trans hk'
  rw [hkind] at hkind'
  cases hkind'
  exact q rfl
theorem own_neArr {Z : State} {az : Array Value} {h : Heap} {x b : Addr} {C : String} {n : Nat} {c : Cell} {ty : FieldType} (E : Exa Z h x C) (F : Arr Z h b c ty) (w : (Cond.instantiable C n).before az Z = true) : x ≠ b := fun q => by
  subst q
  obtain ⟨c_1, k1, e1, f1, g1, -⟩ := E
  obtain ⟨e2, ⟨-, kk, hk, comp, hkind⟩, -⟩ := F
  cases e1.symm.trans e2
  obtain ⟨ci, ki, i1, i2, i3, -⟩ := Cond.instantiable_spec w
  cases f1.symm.trans i1
  cases g1.symm.trans i2
  cases hk.symm.trans i2
  rw [i3] at hkind
  cases hkind
/-- an object that is no String and no array of bytes -/
def FP (Z : State) (h : Heap) (x : Addr) : Prop := Exa Z h x "com/example/grantbook/grantbook/licence/PlainAttributes" ∨ ∃ (c : Cell) (ty : FieldType), ty ≠ FieldType.byte ∧ Arr Z h x c ty
theorem FP.arr {Z : State} {h : Heap} {x : Addr} {c : Cell} {ty : FieldType} (A : Arr Z h x c ty) (ht : ty ≠ .byte) : FP Z h x := Or.inr ⟨c, ty, ht, A⟩
theorem FP.arv {Z : State} {h : Heap} {x : Addr} {k : ClassId} {ty : FieldType} {z : Int32} {vs : List Value} {d : Value} (A : Arv Z h x k ty z vs d) (ht : ty ≠ .byte) : FP Z h x := by
  obtain ⟨c, A1, -⟩ := A
  exact Or.inr ⟨c, ty, ht, A1⟩
theorem FP.safe {Z : State} {h : Heap} {x : Addr} {vm : Vm} (hal : Z.vm.Alike vm) (F : FP Z h x) : Safe Z consts_1 vm h x := by
  rcases F with E | ⟨c, ty, ht, A⟩
  · exact Safe.exa hal E (by decide) (by decide)
  · exact Safe.arr hal A ht
theorem FP.nostat {Z : State} {h : Heap} {x : Addr} (F : FP Z h x) : ∀ cell : Cell, h[x]? = some cell → cell.vm.isStatics = false := by
  rcases F with E | ⟨c, ty, ht, A⟩
  · exact E.nostat
  · exact A.nostat
theorem FP.neS {Z : State} {az : Array Value} {h : Heap} {x a : Addr} {n : Nat} (w : (Cond.instantiable "java/lang/String" n).before az Z = true) (E : Exa Z h a "java/lang/String") (F : FP Z h x) : a ≠ x := by
  rcases F with E' | ⟨c, ty, ht, A⟩
  · exact Exa.ne E E' (by decide)
  · exact own_neArr E A w
theorem FP.neB {Z : State} {az : Array Value} {h : Heap} {x a : Addr} {n : Nat} {c0 : Cell} (w : (Cond.instantiable "com/example/grantbook/grantbook/licence/PlainAttributes" n).before az Z = true) (B : Arr Z h a c0 .byte) (F : FP Z h x) : a ≠ x := by
  rcases F with E' | ⟨c, ty, ht, A⟩
  · exact (own_neArr E' B w).symm
  · exact own_arrT B A (fun q => ht q.symm)
theorem CSt.fp {Z : State} {az : Array Value} {h h' : Heap} {a : Addr} {cs : List Int32} {ws : List Addr} {n n' : Nat} (K : Keep h h' ws) (hf : ∀ x ∈ ws, FP Z h x) (w : (Cond.instantiable "java/lang/String" n).before az Z = true) (w' : (Cond.instantiable "com/example/grantbook/grantbook/licence/PlainAttributes" n').before az Z = true) (F : CSt Z h a cs) : CSt Z h' a cs := by
  obtain ⟨e, cd, d, k, z, xs, f1, f2, ⟨c, A, r⟩, f4⟩ := F
  have n1 : a ∉ ws := fun hm => FP.neS w e (hf _ hm) rfl
  exact ⟨e.keep K, cd, d, k, z, xs, f1.keep K n1, f2.keep K n1, Arv.keep ⟨c, A, r⟩ K (fun hm => FP.neB w' A (hf _ hm) rfl), f4⟩
theorem Arv.fpB {Z : State} {az : Array Value} {h h' : Heap} {a : Addr} {k : ClassId} {z : Int32} {vs : List Value} {d : Value} {ws : List Addr} {n' : Nat} (K : Keep h h' ws) (hf : ∀ x ∈ ws, FP Z h x) (w' : (Cond.instantiable "com/example/grantbook/grantbook/licence/PlainAttributes" n').before az Z = true) (F : Arv Z h a k .byte z vs d) : Arv Z h' a k .byte z vs d := by
  obtain ⟨c, A, r⟩ := F
  exact Arv.keep ⟨c, A, r⟩ K (fun hm => FP.neB w' A (hf _ hm) rfl)
theorem own_ndi {l : List Addr} (h : l.Nodup) (i j : Nat) {x y : Addr} (hi : l[i]? = some x) (hj : l[j]? = some y) (q : i < j) : x ≠ y := by
  obtain ⟨h1, e1⟩ := List.getElem?_eq_some_iff.mp hi
  obtain ⟨h2, e2⟩ := List.getElem?_eq_some_iff.mp hj
  rw [← e1, ← e2]
  exact List.pairwise_iff_getElem.mp h i j h1 h2 q
theorem own_ndS {x : Addr} {l : List Addr} (h : x ∉ l) (r : l.Nodup) : (x :: l).Nodup := List.nodup_cons.mpr ⟨h, r⟩
/-- the object o over the bytes b, her ten arrays; of the first entry the five places, the three texts and the place in 'told' -/
def PAt (Z : State) (h : Heap) (o b r_1 r_2 r_3 r_4 r_5 r_6 r_7 r_8 r_9 r_10 : Addr) (kr_1 kr_2 kr_3 kr_4 kr_5 kr_6 kr_7 kr_8 kr_9 kr_10 : ClassId) (ad ln x_1 x_2 x_3 x_4 x_5 : Int32) (c_1 c_2 c_3 : Value) (t : Int32) : Prop := ∃ (y_1 y_2 y_3 y_4 y_5 t_1 : Int32) (d_1 d_2 d_3 u_0 u_1 : Value), Exa Z h o "com/example/grantbook/grantbook/licence/PlainAttributes" ∧ Fld Z h o "com/example/grantbook/grantbook/licence/PlainAttributes" "bytes" "[B" (.ref b) ∧ Fld Z h o "com/example/grantbook/grantbook/licence/PlainAttributes" "nameStarts" "[I" (.ref r_1) ∧ Fld Z h o "com/example/grantbook/grantbook/licence/PlainAttributes" "localNameStarts" "[I" (.ref r_2) ∧ Fld Z h o "com/example/grantbook/grantbook/licence/PlainAttributes" "nameEnds" "[I" (.ref r_3) ∧ Fld Z h o "com/example/grantbook/grantbook/licence/PlainAttributes" "valueStarts" "[I" (.ref r_4) ∧ Fld Z h o "com/example/grantbook/grantbook/licence/PlainAttributes" "valueEnds" "[I" (.ref r_5) ∧ Fld Z h o "com/example/grantbook/grantbook/licence/PlainAttributes" "qNames" "[Ljava/lang/String;" (.ref r_6) ∧ Fld Z h o "com/example/grantbook/grantbook/licence/PlainAttributes" "localNames" "[Ljava/lang/String;" (.ref r_7) ∧ Fld Z h o "com/example/grantbook/grantbook/licence/PlainAttributes" "values" "[Ljava/lang/String;" (.ref r_8) ∧ Fld Z h o "com/example/grantbook/grantbook/licence/PlainAttributes" "told" "[I" (.ref r_9) ∧ Fld Z h o "com/example/grantbook/grantbook/licence/PlainAttributes" "uris" "[Ljava/lang/String;" (.ref r_10) ∧ Fld Z h o "com/example/grantbook/grantbook/licence/PlainAttributes" "added" "I" (.int ad) ∧ Fld Z h o "com/example/grantbook/grantbook/licence/PlainAttributes" "length" "I" (.int ln) ∧ Arv Z h r_1 kr_1 .int 2 [(.int x_1), (.int y_1)] (.int 0) ∧ Arv Z h r_2 kr_2 .int 2 [(.int x_2), (.int y_2)] (.int 0) ∧ Arv Z h r_3 kr_3 .int 2 [(.int x_3), (.int y_3)] (.int 0) ∧ Arv Z h r_4 kr_4 .int 2 [(.int x_4), (.int y_4)] (.int 0) ∧ Arv Z h r_5 kr_5 .int 2 [(.int x_5), (.int y_5)] (.int 0) ∧ Arv Z h r_6 kr_6 (.object "java/lang/String") 2 [c_1, d_1] .null ∧ Arv Z h r_7 kr_7 (.object "java/lang/String") 2 [c_2, d_2] .null ∧ Arv Z h r_8 kr_8 (.object "java/lang/String") 2 [c_3, d_3] .null ∧ Arv Z h r_9 kr_9 .int 2 [(.int t), (.int t_1)] (.int 0) ∧ Arv Z h r_10 kr_10 (.object "java/lang/String") 2 [u_0, u_1] .null ∧ Ovr Z kr_6 "java/lang/String" ∧ Ovr Z kr_7 "java/lang/String" ∧ Ovr Z kr_8 "java/lang/String" ∧ Ovr Z kr_10 "java/lang/String"
section OwnPA
variable {Z : State} {h h' : Heap} {o b r_1 r_2 r_3 r_4 r_5 r_6 r_7 r_8 r_9 r_10 : Addr} {kr_1 kr_2 kr_3 kr_4 kr_5 kr_6 kr_7 kr_8 kr_9 kr_10 : ClassId} {ad ln x_1 x_2 x_3 x_4 x_5 : Int32} {c_1 c_2 c_3 : Value} {t : Int32}
theorem PAt.ext (F : PAt Z h o b r_1 r_2 r_3 r_4 r_5 r_6 r_7 r_8 r_9 r_10 kr_1 kr_2 kr_3 kr_4 kr_5 kr_6 kr_7 kr_8 kr_9 kr_10 ad ln x_1 x_2 x_3 x_4 x_5 c_1 c_2 c_3 t) (E : Ext h h') : PAt Z h' o b r_1 r_2 r_3 r_4 r_5 r_6 r_7 r_8 r_9 r_10 kr_1 kr_2 kr_3 kr_4 kr_5 kr_6 kr_7 kr_8 kr_9 kr_10 ad ln x_1 x_2 x_3 x_4 x_5 c_1 c_2 c_3 t := by
  obtain ⟨y_1, y_2, y_3, y_4, y_5, t_1, d_1, d_2, d_3, u_0, u_1, E_a0, F_bytes, F_nameStarts, F_localNameStarts, F_nameEnds, F_valueStarts, F_valueEnds, F_qNames, F_localNames, F_values, F_told, F_uris, F_added, F_length, V_r_1, V_r_2, V_r_3, V_r_4, V_r_5, V_r_6, V_r_7, V_r_8, V_r_9, V_r_10, O_6, O_7, O_8, O_10⟩ := F
  exact ⟨_, _, _, _, _, _, _, _, _, _, _, E_a0.ext E, F_bytes.ext E, F_nameStarts.ext E, F_localNameStarts.ext E, F_nameEnds.ext E, F_valueStarts.ext E, F_valueEnds.ext E, F_qNames.ext E, F_localNames.ext E, F_values.ext E, F_told.ext E, F_uris.ext E, F_added.ext E, F_length.ext E, V_r_1.ext E, V_r_2.ext E, V_r_3.ext E, V_r_4.ext E, V_r_5.ext E, V_r_6.ext E, V_r_7.ext E, V_r_8.ext E, V_r_9.ext E, V_r_10.ext E, O_6, O_7, O_8, O_10⟩
theorem PAt.fp (F : PAt Z h o b r_1 r_2 r_3 r_4 r_5 r_6 r_7 r_8 r_9 r_10 kr_1 kr_2 kr_3 kr_4 kr_5 kr_6 kr_7 kr_8 kr_9 kr_10 ad ln x_1 x_2 x_3 x_4 x_5 c_1 c_2 c_3 t) : ∀ x ∈ [o, r_1, r_2, r_3, r_4, r_5, r_6, r_7, r_8, r_9, r_10], FP Z h x := by
  obtain ⟨y_1, y_2, y_3, y_4, y_5, t_1, d_1, d_2, d_3, u_0, u_1, E_a0, F_bytes, F_nameStarts, F_localNameStarts, F_nameEnds, F_valueStarts, F_valueEnds, F_qNames, F_localNames, F_values, F_told, F_uris, F_added, F_length, V_r_1, V_r_2, V_r_3, V_r_4, V_r_5, V_r_6, V_r_7, V_r_8, V_r_9, V_r_10, O_6, O_7, O_8, O_10⟩ := F
  exact (allS (P := FP Z h) (Or.inl E_a0) (allS (P := FP Z h) (FP.arv V_r_1 (fun q => nomatch q)) (allS (P := FP Z h) (FP.arv V_r_2 (fun q => nomatch q)) (allS (P := FP Z h) (FP.arv V_r_3 (fun q => nomatch q)) (allS (P := FP Z h) (FP.arv V_r_4 (fun q => nomatch q)) (allS (P := FP Z h) (FP.arv V_r_5 (fun q => nomatch q)) (allS (P := FP Z h) (FP.arv V_r_6 (fun q => nomatch q)) (allS (P := FP Z h) (FP.arv V_r_7 (fun q => nomatch q)) (allS (P := FP Z h) (FP.arv V_r_8 (fun q => nomatch q)) (allS (P := FP Z h) (FP.arv V_r_9 (fun q => nomatch q)) (allS (P := FP Z h) (FP.arv V_r_10 (fun q => nomatch q)) all0)))))))))))
end OwnPA
def Q_pi (Z : State) (a0 a1 : Addr) (h0 : Heap) (n0 : Nat) (v : Option Value) (h : Heap) (L : List Loc) : Prop := ∃ (r_1 r_2 r_3 r_4 r_5 r_6 r_7 r_8 r_9 r_10 : Addr) (kr_1 kr_2 kr_3 kr_4 kr_5 kr_6 kr_7 kr_8 kr_9 kr_10 : ClassId), v = none ∧ Fr n0 L ∧ Keep h0 h [a0] ∧ PAt Z h a0 a1 r_1 r_2 r_3 r_4 r_5 r_6 r_7 r_8 r_9 r_10 kr_1 kr_2 kr_3 kr_4 kr_5 kr_6 kr_7 kr_8 kr_9 kr_10 0 0 0 0 0 0 0 .null .null .null 0 ∧ (∀ x ∈ [r_1, r_2, r_3, r_4, r_5, r_6, r_7, r_8, r_9, r_10], h0.size ≤ x) ∧ [a0, r_1, r_2, r_3, r_4, r_5, r_6, r_7, r_8, r_9, r_10].Nodup
theorem d5_0 : decode prog_21_method_1_code 0 = .ok (.aload_n 0, 1) := by decide +kernel
theorem d5_1 : decode prog_21_method_1_code 1 = .ok (.invokespecial 1, 3) := by decide +kernel
theorem d5_4 : decode prog_21_method_1_code 4 = .ok (.aload_n 0, 1) := by decide +kernel
theorem d5_5 : decode prog_21_method_1_code 5 = .ok (.aload_n 1, 1) := by decide +kernel
theorem d5_6 : decode prog_21_method_1_code 6 = .ok (.putfield 7, 3) := by decide +kernel
theorem d5_9 : decode prog_21_method_1_code 9 = .ok (.aload_n 0, 1) := by decide +kernel
theorem d5_10 : decode prog_21_method_1_code 10 = .ok (.iload_n 2, 1) := by decide +kernel
theorem d5_11 : decode prog_21_method_1_code 11 = .ok (.newarray .int, 2) := by decide +kernel
theorem d5_13 : decode prog_21_method_1_code 13 = .ok (.putfield 13, 3) := by decide +kernel
theorem d5_16 : decode prog_21_method_1_code 16 = .ok (.aload_n 0, 1) := by decide +kernel
theorem d5_17 : decode prog_21_method_1_code 17 = .ok (.iload_n 2, 1) := by decide +kernel
theorem d5_18 : decode prog_21_method_1_code 18 = .ok (.newarray .int, 2) := by decide +kernel
theorem d5_20 : decode prog_21_method_1_code 20 = .ok (.putfield 17, 3) := by decide +kernel
theorem d5_23 : decode prog_21_method_1_code 23 = .ok (.aload_n 0, 1) := by decide +kernel
theorem d5_24 : decode prog_21_method_1_code 24 = .ok (.iload_n 2, 1) := by decide +kernel
theorem d5_25 : decode prog_21_method_1_code 25 = .ok (.newarray .int, 2) := by decide +kernel
theorem d5_27 : decode prog_21_method_1_code 27 = .ok (.putfield 20, 3) := by decide +kernel
theorem d5_30 : decode prog_21_method_1_code 30 = .ok (.aload_n 0, 1) := by decide +kernel
theorem d5_31 : decode prog_21_method_1_code 31 = .ok (.iload_n 2, 1) := by decide +kernel
theorem d5_32 : decode prog_21_method_1_code 32 = .ok (.newarray .int, 2) := by decide +kernel
theorem d5_34 : decode prog_21_method_1_code 34 = .ok (.putfield 23, 3) := by decide +kernel
theorem d5_37 : decode prog_21_method_1_code 37 = .ok (.aload_n 0, 1) := by decide +kernel
theorem d5_38 : decode prog_21_method_1_code 38 = .ok (.iload_n 2, 1) := by decide +kernel
theorem d5_39 : decode prog_21_method_1_code 39 = .ok (.newarray .int, 2) := by decide +kernel
theorem d5_41 : decode prog_21_method_1_code 41 = .ok (.putfield 26, 3) := by decide +kernel
theorem d5_44 : decode prog_21_method_1_code 44 = .ok (.aload_n 0, 1) := by decide +kernel
theorem d5_45 : decode prog_21_method_1_code 45 = .ok (.iload_n 2, 1) := by decide +kernel
theorem d5_46 : decode prog_21_method_1_code 46 = .ok (.anewarray 29, 3) := by decide +kernel
theorem d5_49 : decode prog_21_method_1_code 49 = .ok (.putfield 31, 3) := by decide +kernel
theorem d5_52 : decode prog_21_method_1_code 52 = .ok (.aload_n 0, 1) := by decide +kernel
theorem d5_53 : decode prog_21_method_1_code 53 = .ok (.iload_n 2, 1) := by decide +kernel
theorem d5_54 : decode prog_21_method_1_code 54 = .ok (.anewarray 29, 3) := by decide +kernel
theorem d5_57 : decode prog_21_method_1_code 57 = .ok (.putfield 35, 3) := by decide +kernel
theorem d5_60 : decode prog_21_method_1_code 60 = .ok (.aload_n 0, 1) := by decide +kernel
theorem d5_61 : decode prog_21_method_1_code 61 = .ok (.iload_n 2, 1) := by decide +kernel
theorem d5_62 : decode prog_21_method_1_code 62 = .ok (.anewarray 29, 3) := by decide +kernel
theorem d5_65 : decode prog_21_method_1_code 65 = .ok (.putfield 38, 3) := by decide +kernel
theorem d5_68 : decode prog_21_method_1_code 68 = .ok (.aload_n 0, 1) := by decide +kernel
theorem d5_69 : decode prog_21_method_1_code 69 = .ok (.iload_n 2, 1) := by decide +kernel
theorem d5_70 : decode prog_21_method_1_code 70 = .ok (.newarray .int, 2) := by decide +kernel
theorem d5_72 : decode prog_21_method_1_code 72 = .ok (.putfield 41, 3) := by decide +kernel
theorem d5_75 : decode prog_21_method_1_code 75 = .ok (.aload_n 0, 1) := by decide +kernel
theorem d5_76 : decode prog_21_method_1_code 76 = .ok (.iload_n 2, 1) := by decide +kernel
theorem d5_77 : decode prog_21_method_1_code 77 = .ok (.anewarray 29, 3) := by decide +kernel
theorem d5_80 : decode prog_21_method_1_code 80 = .ok (.putfield 44, 3) := by decide +kernel
theorem d5_83 : decode prog_21_method_1_code 83 = .ok (.return_, 1) := by decide +kernel
theorem pn_7 : plainName "com/example/grantbook/grantbook/licence/PlainAttributes" = true := by first | (simp [plainName, overriddenIn]; done) | decide +kernel
theorem ef_5 (m : MethodId) (a0 : Addr) (a1 : Addr) (p2 : Int32) : entryFrame m #[(.ref a0), (.ref a1), (.int p2)] 3 = mkF m 0 #[.val (.ref a0), .val (.ref a1), .val (.int p2)] [] := by first | (simp [entryFrame, mkF, argsToLocals, Value.category]; done) | rfl
theorem rmPC (l : Launch) (Z : State) (az : Array Value) (hw : HW az Z) (ws : List Jvm.Cond) (a0 : Addr) (a1 : Addr) (p2 : Int32)  (h0 : Heap) (n0 : Nat) (Z0 : n0 ≤ h0.size) (E_a0 : Exa Z h0 a0 "com/example/grantbook/grantbook/licence/PlainAttributes") (g_a0 : n0 ≤ a0) (h2 : p2 = 2) (F_bytes : Fld Z h0 a0 "com/example/grantbook/grantbook/licence/PlainAttributes" "bytes" "[B" .null) (F_nameStarts : Fld Z h0 a0 "com/example/grantbook/grantbook/licence/PlainAttributes" "nameStarts" "[I" .null) (F_localNameStarts : Fld Z h0 a0 "com/example/grantbook/grantbook/licence/PlainAttributes" "localNameStarts" "[I" .null) (F_nameEnds : Fld Z h0 a0 "com/example/grantbook/grantbook/licence/PlainAttributes" "nameEnds" "[I" .null) (F_valueStarts : Fld Z h0 a0 "com/example/grantbook/grantbook/licence/PlainAttributes" "valueStarts" "[I" .null) (F_valueEnds : Fld Z h0 a0 "com/example/grantbook/grantbook/licence/PlainAttributes" "valueEnds" "[I" .null) (F_qNames : Fld Z h0 a0 "com/example/grantbook/grantbook/licence/PlainAttributes" "qNames" "[Ljava/lang/String;" .null) (F_localNames : Fld Z h0 a0 "com/example/grantbook/grantbook/licence/PlainAttributes" "localNames" "[Ljava/lang/String;" .null) (F_values : Fld Z h0 a0 "com/example/grantbook/grantbook/licence/PlainAttributes" "values" "[Ljava/lang/String;" .null) (F_told : Fld Z h0 a0 "com/example/grantbook/grantbook/licence/PlainAttributes" "told" "[I" .null) (F_uris : Fld Z h0 a0 "com/example/grantbook/grantbook/licence/PlainAttributes" "uris" "[Ljava/lang/String;" .null) (F_added : Fld Z h0 a0 "com/example/grantbook/grantbook/licence/PlainAttributes" "added" "I" (.int 0)) (F_length : Fld Z h0 a0 "com/example/grantbook/grantbook/licence/PlainAttributes" "length" "I" (.int 0)) :
    MF l mN0 (Jvm.Cond.code mN0 prog_21_method_1_code 3 none :: ws) (rO 1 10 20 12) #[(.ref a0), (.ref a1), (.int p2)] Z h0 (Q_pi Z a0 a1 h0 n0) := by
  refine MetFree.of_bodySF (plainFor_of_name pn_7) hisR ?_
  intro p e s m args below meth c s₁ Bd hml0 hP hK
  obtain ⟨rfl, hZ, hh⟩ := hP
  have hx := Bd.exec
  have hby := Bd.bytes
  have hlk : meth.locks = false := Bd.notSynchronized
  have hml : c.maxLocals = 3 := hml0
  have hown : s.vm.findClass "com/example/grantbook/grantbook/licence/PlainAttributes" = some m.cls := findClass_of_methodNamed Bd.named
  have hnm := (name_of_methodNamed Bd.named Bd.method).1
  have X0 : Stand p l e (rO 1 10 20 12) s m #[(.ref a0), (.ref a1), (.int p2)] below meth c s₁ [] 0 0 := Stand.of_body Bd
  have e0 : s₁.heap = h0 := by rw [← hh, Bd.state]; rfl
  have N0 := Fr.nil n0
  show Go p e below s ((Q_pi Z a0 a1 h0 n0)) (rO 1 10 20 12).cells (rO 1 10 20 12).slots (s₁.setTop (entryFrame m #[(.ref a0), (.ref a1), (.int p2)] 3))
  rw [ef_5 m a0 a1 p2]
  subst h2
  refine Go.st (S' := s₁.setTop (mkF m 1 #[vr a0, vr a1, vi 2] [.ref a0])) (fun _ kk => XS.aloadN X0.here hx rfl (hb hby d5_0) rfl rfl kk) ?_
  obtain ⟨T1, X1, e1, st1⟩ := initO X0 hx hZ hown (ow hw 23 rfl) (ow hw 24 rfl) (ow hw 25 rfl) e0 (g := (mkF m 1 #[vr a0, vr a1, vi 2] [.ref a0])) rfl (by rw [hml]; rfl) rfl (hb hby d5_1) (by decide) (W := 0) (oW rfl rfl) (by decide)
  refine Go.st (S' := T1.setTop (mkF m 6 #[vr a0, vr a1, vi 2] [.ref a1, .ref a0])) (fun _ kk => st1 _ (XS.aloadN X1.here hx rfl (hb hby d5_4) rfl rfl (XS.aloadN X1.here hx rfl (hb hby d5_5) rfl rfl kk))) ?_
  obtain ⟨T2, h2, X2, e2, W2, st2⟩ := putF X1 hx hZ hown (host := "") (Or.inl (ow hw 26 rfl)) Via.refl e1 F_bytes E_a0 (Or.inr ⟨(ow hw 27 rfl), rfl, hnm⟩) (ow hw 18 rfl) (ty := (.array .byte)) (by decide) rfl rfl (g := (mkF m 6 #[vr a0, vr a1, vi 2] [.ref a1, .ref a0])) rfl rfl (hb hby d5_6)
  have N2 := Fr.snoc X2 N0 g_a0
  have F_bytes := F_bytes.same W2
  have E_a0 := E_a0.wr W2
  have F_nameStarts := F_nameStarts.other W2 (Or.inr (slot_ne (Or.inr (ow hw 29 rfl)) (Or.inr (ow hw 27 rfl)) (by decide) (t := (.array .int)) (t' := (.array .byte)) (by decide) (by decide)))
  have F_localNameStarts := F_localNameStarts.other W2 (Or.inr (slot_ne (Or.inr (ow hw 31 rfl)) (Or.inr (ow hw 27 rfl)) (by decide) (t := (.array .int)) (t' := (.array .byte)) (by decide) (by decide)))
  have F_nameEnds := F_nameEnds.other W2 (Or.inr (slot_ne (Or.inr (ow hw 33 rfl)) (Or.inr (ow hw 27 rfl)) (by decide) (t := (.array .int)) (t' := (.array .byte)) (by decide) (by decide)))
  have F_valueStarts := F_valueStarts.other W2 (Or.inr (slot_ne (Or.inr (ow hw 35 rfl)) (Or.inr (ow hw 27 rfl)) (by decide) (t := (.array .int)) (t' := (.array .byte)) (by decide) (by decide)))
  have F_valueEnds := F_valueEnds.other W2 (Or.inr (slot_ne (Or.inr (ow hw 37 rfl)) (Or.inr (ow hw 27 rfl)) (by decide) (t := (.array .int)) (t' := (.array .byte)) (by decide) (by decide)))
  have F_qNames := F_qNames.other W2 (Or.inr (slot_ne (Or.inr (ow hw 41 rfl)) (Or.inr (ow hw 27 rfl)) (by decide) (t := (.array (.object "java/lang/String"))) (t' := (.array .byte)) (by decide) (by decide)))
  have F_localNames := F_localNames.other W2 (Or.inr (slot_ne (Or.inr (ow hw 43 rfl)) (Or.inr (ow hw 27 rfl)) (by decide) (t := (.array (.object "java/lang/String"))) (t' := (.array .byte)) (by decide) (by decide)))
  have F_values := F_values.other W2 (Or.inr (slot_ne (Or.inr (ow hw 45 rfl)) (Or.inr (ow hw 27 rfl)) (by decide) (t := (.array (.object "java/lang/String"))) (t' := (.array .byte)) (by decide) (by decide)))
  have F_told := F_told.other W2 (Or.inr (slot_ne (Or.inr (ow hw 47 rfl)) (Or.inr (ow hw 27 rfl)) (by decide) (t := (.array .int)) (t' := (.array .byte)) (by decide) (by decide)))
  have F_uris := F_uris.other W2 (Or.inr (slot_ne (Or.inr (ow hw 49 rfl)) (Or.inr (ow hw 27 rfl)) (by decide) (t := (.array (.object "java/lang/String"))) (t' := (.array .byte)) (by decide) (by decide)))
  have F_added := F_added.other W2 (Or.inr (slot_ne (Or.inl (ow hw 56 rfl)) (Or.inr (ow hw 27 rfl)) (by decide) (t := .int) (t' := (.array .byte)) (by decide) (by decide)))
  have F_length := F_length.other W2 (Or.inr (slot_ne (Or.inl (ow hw 70 rfl)) (Or.inr (ow hw 27 rfl)) (by decide) (t := .int) (t' := (.array .byte)) (by decide) (by decide)))
  have Zs3 := Nat.le_trans Z0 (Keep.of_wr W2).1
  have Kp4 := (Keep.refl h0 [a0]).wr W2 (Or.inl (List.mem_of_getElem? (i := 0) rfl))
  refine Go.st (S' := T2.setTop (mkF m 11 #[vr a0, vr a1, vi 2] [.int 2, .ref a0])) (fun _ kk => st2 _ (XS.aloadN X2.here hx rfl (hb hby d5_9) rfl rfl (XS.iloadN X2.here hx rfl (hb hby d5_10) rfl kk))) ?_
  obtain ⟨T5, h5, k5, X5, e5, E5, A5, E_b5, st5⟩ := newPE X2 hx hZ (ow hw 16 rfl) e2 (g := (mkF m 11 #[vr a0, vr a1, vi 2] [.int 2, .ref a0])) rfl (hb hby d5_11) rfl (by decide) (cap := 2) (by decide) (by decide) (by decide : 0 + 1 ≤ _) (by decide : 0 + 2 ≤ _) (ad := "[I") rfl
  obtain ⟨b5, g5⟩ : ∃ z, z = h2.size := ⟨_, rfl⟩
  rw [← g5] at A5 E_b5 st5
  have ne_a0_b5 : a0 ≠ b5 := Nat.ne_of_lt (Nat.lt_of_lt_of_le E_a0.lt (Nat.le_of_eq g5.symm))
  have g_b5 : n0 ≤ b5 := Nat.le_trans Zs3 (Nat.le_of_eq g5.symm)
  have sz_b5 : h0.size ≤ b5 := Nat.le_trans Kp4.1 (Nat.le_of_eq g5.symm)
  have E_a0 := E_a0.ext E5
  have F_bytes := F_bytes.ext E5
  have F_nameStarts := F_nameStarts.ext E5
  have F_localNameStarts := F_localNameStarts.ext E5
  have F_nameEnds := F_nameEnds.ext E5
  have F_valueStarts := F_valueStarts.ext E5
  have F_valueEnds := F_valueEnds.ext E5
  have F_qNames := F_qNames.ext E5
  have F_localNames := F_localNames.ext E5
  have F_values := F_values.ext E5
  have F_told := F_told.ext E5
  have F_uris := F_uris.ext E5
  have F_added := F_added.ext E5
  have F_length := F_length.ext E5
  have Zs6 := Nat.le_trans Zs3 E5.1
  have Kp7 := Kp4.ext E5
  have V_b5 : Arv Z h5 b5 k5 .int (2 : Int32) [(.int 0), (.int 0)] (.int 0) := (Arv.new A5 (by decide)).pad (pad_rep [] (.int 0) 2)
  refine Go.st (S' := T5.setTop (mkF m 13 #[vr a0, vr a1, vi 2] [.ref b5, .ref a0])) st5 ?_
  obtain ⟨T8, h8, X8, e8, W8, st8⟩ := putF X5 hx hZ hown (host := "") (Or.inl (ow hw 28 rfl)) Via.refl e5 F_nameStarts E_a0 (Or.inr ⟨(ow hw 29 rfl), rfl, hnm⟩) (ow hw 18 rfl) (ty := (.array .int)) (by decide) rfl rfl (g := (mkF m 13 #[vr a0, vr a1, vi 2] [.ref b5, .ref a0])) rfl rfl (hb hby d5_13)
  have N8 := Fr.snoc X8 N2 g_a0
  have F_nameStarts := F_nameStarts.same W8
  have E_a0 := E_a0.wr W8
  have F_bytes := F_bytes.other W8 (Or.inr (slot_ne (Or.inr (ow hw 27 rfl)) (Or.inr (ow hw 29 rfl)) (by decide) (t := (.array .byte)) (t' := (.array .int)) (by decide) (by decide)))
  have F_localNameStarts := F_localNameStarts.other W8 (Or.inr (slot_ne (Or.inr (ow hw 31 rfl)) (Or.inr (ow hw 29 rfl)) (by decide) (t := (.array .int)) (t' := (.array .int)) (by decide) (by decide)))
  have F_nameEnds := F_nameEnds.other W8 (Or.inr (slot_ne (Or.inr (ow hw 33 rfl)) (Or.inr (ow hw 29 rfl)) (by decide) (t := (.array .int)) (t' := (.array .int)) (by decide) (by decide)))
  have F_valueStarts := F_valueStarts.other W8 (Or.inr (slot_ne (Or.inr (ow hw 35 rfl)) (Or.inr (ow hw 29 rfl)) (by decide) (t := (.array .int)) (t' := (.array .int)) (by decide) (by decide)))
  have F_valueEnds := F_valueEnds.other W8 (Or.inr (slot_ne (Or.inr (ow hw 37 rfl)) (Or.inr (ow hw 29 rfl)) (by decide) (t := (.array .int)) (t' := (.array .int)) (by decide) (by decide)))
  have F_qNames := F_qNames.other W8 (Or.inr (slot_ne (Or.inr (ow hw 41 rfl)) (Or.inr (ow hw 29 rfl)) (by decide) (t := (.array (.object "java/lang/String"))) (t' := (.array .int)) (by decide) (by decide)))
  have F_localNames := F_localNames.other W8 (Or.inr (slot_ne (Or.inr (ow hw 43 rfl)) (Or.inr (ow hw 29 rfl)) (by decide) (t := (.array (.object "java/lang/String"))) (t' := (.array .int)) (by decide) (by decide)))
  have F_values := F_values.other W8 (Or.inr (slot_ne (Or.inr (ow hw 45 rfl)) (Or.inr (ow hw 29 rfl)) (by decide) (t := (.array (.object "java/lang/String"))) (t' := (.array .int)) (by decide) (by decide)))
  have F_told := F_told.other W8 (Or.inr (slot_ne (Or.inr (ow hw 47 rfl)) (Or.inr (ow hw 29 rfl)) (by decide) (t := (.array .int)) (t' := (.array .int)) (by decide) (by decide)))
  have F_uris := F_uris.other W8 (Or.inr (slot_ne (Or.inr (ow hw 49 rfl)) (Or.inr (ow hw 29 rfl)) (by decide) (t := (.array (.object "java/lang/String"))) (t' := (.array .int)) (by decide) (by decide)))
  have F_added := F_added.other W8 (Or.inr (slot_ne (Or.inl (ow hw 56 rfl)) (Or.inr (ow hw 29 rfl)) (by decide) (t := .int) (t' := (.array .int)) (by decide) (by decide)))
  have F_length := F_length.other W8 (Or.inr (slot_ne (Or.inl (ow hw 70 rfl)) (Or.inr (ow hw 29 rfl)) (by decide) (t := .int) (t' := (.array .int)) (by decide) (by decide)))
  have E_b5 := E_b5.wr W8
  have V_b5 := V_b5.other W8 (Ne.symm ne_a0_b5)
  have Zs9 := Nat.le_trans Zs6 (Keep.of_wr W8).1
  have Kp10 := Kp7.wr W8 (Or.inl (List.mem_of_getElem? (i := 0) rfl))
  refine Go.st (S' := T8.setTop (mkF m 18 #[vr a0, vr a1, vi 2] [.int 2, .ref a0])) (fun _ kk => st8 _ (XS.aloadN X8.here hx rfl (hb hby d5_16) rfl rfl (XS.iloadN X8.here hx rfl (hb hby d5_17) rfl kk))) ?_
  obtain ⟨T11, h11, k11, X11, e11, E11, A11, E_b11, st11⟩ := newPE X8 hx hZ (ow hw 16 rfl) e8 (g := (mkF m 18 #[vr a0, vr a1, vi 2] [.int 2, .ref a0])) rfl (hb hby d5_18) rfl (by decide) (cap := 2) (by decide) (by decide) (by decide : 1 + 1 ≤ _) (by decide : 2 + 2 ≤ _) (ad := "[I") rfl
  obtain ⟨b11, g11⟩ : ∃ z, z = h8.size := ⟨_, rfl⟩
  rw [← g11] at A11 E_b11 st11
  have ne_a0_b11 : a0 ≠ b11 := Nat.ne_of_lt (Nat.lt_of_lt_of_le E_a0.lt (Nat.le_of_eq g11.symm))
  have ne_b5_b11 : b5 ≠ b11 := Nat.ne_of_lt (Nat.lt_of_lt_of_le E_b5.lt (Nat.le_of_eq g11.symm))
  have g_b11 : n0 ≤ b11 := Nat.le_trans Zs9 (Nat.le_of_eq g11.symm)
  have sz_b11 : h0.size ≤ b11 := Nat.le_trans Kp10.1 (Nat.le_of_eq g11.symm)
  have E_a0 := E_a0.ext E11
  have F_bytes := F_bytes.ext E11
  have F_nameStarts := F_nameStarts.ext E11
  have F_localNameStarts := F_localNameStarts.ext E11
  have F_nameEnds := F_nameEnds.ext E11
  have F_valueStarts := F_valueStarts.ext E11
  have F_valueEnds := F_valueEnds.ext E11
  have F_qNames := F_qNames.ext E11
  have F_localNames := F_localNames.ext E11
  have F_values := F_values.ext E11
  have F_told := F_told.ext E11
  have F_uris := F_uris.ext E11
  have F_added := F_added.ext E11
  have F_length := F_length.ext E11
  have E_b5 := E_b5.ext E11
  have V_b5 := V_b5.ext E11
  have Zs12 := Nat.le_trans Zs9 E11.1
  have Kp13 := Kp10.ext E11
  have V_b11 : Arv Z h11 b11 k11 .int (2 : Int32) [(.int 0), (.int 0)] (.int 0) := (Arv.new A11 (by decide)).pad (pad_rep [] (.int 0) 2)
  refine Go.st (S' := T11.setTop (mkF m 20 #[vr a0, vr a1, vi 2] [.ref b11, .ref a0])) st11 ?_
  obtain ⟨T14, h14, X14, e14, W14, st14⟩ := putF X11 hx hZ hown (host := "") (Or.inl (ow hw 30 rfl)) Via.refl e11 F_localNameStarts E_a0 (Or.inr ⟨(ow hw 31 rfl), rfl, hnm⟩) (ow hw 18 rfl) (ty := (.array .int)) (by decide) rfl rfl (g := (mkF m 20 #[vr a0, vr a1, vi 2] [.ref b11, .ref a0])) rfl rfl (hb hby d5_20)
  have N14 := Fr.snoc X14 N8 g_a0
  have F_localNameStarts := F_localNameStarts.same W14
  have E_a0 := E_a0.wr W14
  have F_bytes := F_bytes.other W14 (Or.inr (slot_ne (Or.inr (ow hw 27 rfl)) (Or.inr (ow hw 31 rfl)) (by decide) (t := (.array .byte)) (t' := (.array .int)) (by decide) (by decide)))
  have F_nameStarts := F_nameStarts.other W14 (Or.inr (slot_ne (Or.inr (ow hw 29 rfl)) (Or.inr (ow hw 31 rfl)) (by decide) (t := (.array .int)) (t' := (.array .int)) (by decide) (by decide)))
  have F_nameEnds := F_nameEnds.other W14 (Or.inr (slot_ne (Or.inr (ow hw 33 rfl)) (Or.inr (ow hw 31 rfl)) (by decide) (t := (.array .int)) (t' := (.array .int)) (by decide) (by decide)))
  have F_valueStarts := F_valueStarts.other W14 (Or.inr (slot_ne (Or.inr (ow hw 35 rfl)) (Or.inr (ow hw 31 rfl)) (by decide) (t := (.array .int)) (t' := (.array .int)) (by decide) (by decide)))
  have F_valueEnds := F_valueEnds.other W14 (Or.inr (slot_ne (Or.inr (ow hw 37 rfl)) (Or.inr (ow hw 31 rfl)) (by decide) (t := (.array .int)) (t' := (.array .int)) (by decide) (by decide)))
  have F_qNames := F_qNames.other W14 (Or.inr (slot_ne (Or.inr (ow hw 41 rfl)) (Or.inr (ow hw 31 rfl)) (by decide) (t := (.array (.object "java/lang/String"))) (t' := (.array .int)) (by decide) (by decide)))
  have F_localNames := F_localNames.other W14 (Or.inr (slot_ne (Or.inr (ow hw 43 rfl)) (Or.inr (ow hw 31 rfl)) (by decide) (t := (.array (.object "java/lang/String"))) (t' := (.array .int)) (by decide) (by decide)))
  have F_values := F_values.other W14 (Or.inr (slot_ne (Or.inr (ow hw 45 rfl)) (Or.inr (ow hw 31 rfl)) (by decide) (t := (.array (.object "java/lang/String"))) (t' := (.array .int)) (by decide) (by decide)))
  have F_told := F_told.other W14 (Or.inr (slot_ne (Or.inr (ow hw 47 rfl)) (Or.inr (ow hw 31 rfl)) (by decide) (t := (.array .int)) (t' := (.array .int)) (by decide) (by decide)))
  have F_uris := F_uris.other W14 (Or.inr (slot_ne (Or.inr (ow hw 49 rfl)) (Or.inr (ow hw 31 rfl)) (by decide) (t := (.array (.object "java/lang/String"))) (t' := (.array .int)) (by decide) (by decide)))
  have F_added := F_added.other W14 (Or.inr (slot_ne (Or.inl (ow hw 56 rfl)) (Or.inr (ow hw 31 rfl)) (by decide) (t := .int) (t' := (.array .int)) (by decide) (by decide)))
  have F_length := F_length.other W14 (Or.inr (slot_ne (Or.inl (ow hw 70 rfl)) (Or.inr (ow hw 31 rfl)) (by decide) (t := .int) (t' := (.array .int)) (by decide) (by decide)))
  have E_b5 := E_b5.wr W14
  have V_b5 := V_b5.other W14 (Ne.symm ne_a0_b5)
  have E_b11 := E_b11.wr W14
  have V_b11 := V_b11.other W14 (Ne.symm ne_a0_b11)
  have Zs15 := Nat.le_trans Zs12 (Keep.of_wr W14).1
  have Kp16 := Kp13.wr W14 (Or.inl (List.mem_of_getElem? (i := 0) rfl))
  refine Go.st (S' := T14.setTop (mkF m 25 #[vr a0, vr a1, vi 2] [.int 2, .ref a0])) (fun _ kk => st14 _ (XS.aloadN X14.here hx rfl (hb hby d5_23) rfl rfl (XS.iloadN X14.here hx rfl (hb hby d5_24) rfl kk))) ?_
  obtain ⟨T17, h17, k17, X17, e17, E17, A17, E_b17, st17⟩ := newPE X14 hx hZ (ow hw 16 rfl) e14 (g := (mkF m 25 #[vr a0, vr a1, vi 2] [.int 2, .ref a0])) rfl (hb hby d5_25) rfl (by decide) (cap := 2) (by decide) (by decide) (by decide : 2 + 1 ≤ _) (by decide : 4 + 2 ≤ _) (ad := "[I") rfl
  obtain ⟨b17, g17⟩ : ∃ z, z = h14.size := ⟨_, rfl⟩
  rw [← g17] at A17 E_b17 st17
  have ne_a0_b17 : a0 ≠ b17 := Nat.ne_of_lt (Nat.lt_of_lt_of_le E_a0.lt (Nat.le_of_eq g17.symm))
  have ne_b5_b17 : b5 ≠ b17 := Nat.ne_of_lt (Nat.lt_of_lt_of_le E_b5.lt (Nat.le_of_eq g17.symm))
  have ne_b11_b17 : b11 ≠ b17 := Nat.ne_of_lt (Nat.lt_of_lt_of_le E_b11.lt (Nat.le_of_eq g17.symm))
  have g_b17 : n0 ≤ b17 := Nat.le_trans Zs15 (Nat.le_of_eq g17.symm)
  have sz_b17 : h0.size ≤ b17 := Nat.le_trans Kp16.1 (Nat.le_of_eq g17.symm)
  have E_a0 := E_a0.ext E17
  have F_bytes := F_bytes.ext E17
  have F_nameStarts := F_nameStarts.ext E17
  have F_localNameStarts := F_localNameStarts.ext E17
  have F_nameEnds := F_nameEnds.ext E17
  have F_valueStarts := F_valueStarts.ext E17
  have F_valueEnds := F_valueEnds.ext E17
  have F_qNames := F_qNames.ext E17
  have F_localNames := F_localNames.ext E17
  have F_values := F_values.ext E17
  have F_told := F_told.ext E17
  have F_uris := F_uris.ext E17
  have F_added := F_added.ext E17
  have F_length := F_length.ext E17
  have E_b5 := E_b5.ext E17
  have V_b5 := V_b5.ext E17
  have E_b11 := E_b11.ext E17
  have V_b11 := V_b11.ext E17
  have Zs18 := Nat.le_trans Zs15 E17.1
  have Kp19 := Kp16.ext E17
  have V_b17 : Arv Z h17 b17 k17 .int (2 : Int32) [(.int 0), (.int 0)] (.int 0) := (Arv.new A17 (by decide)).pad (pad_rep [] (.int 0) 2)
  refine Go.st (S' := T17.setTop (mkF m 27 #[vr a0, vr a1, vi 2] [.ref b17, .ref a0])) st17 ?_
  obtain ⟨T20, h20, X20, e20, W20, st20⟩ := putF X17 hx hZ hown (host := "") (Or.inl (ow hw 32 rfl)) Via.refl e17 F_nameEnds E_a0 (Or.inr ⟨(ow hw 33 rfl), rfl, hnm⟩) (ow hw 18 rfl) (ty := (.array .int)) (by decide) rfl rfl (g := (mkF m 27 #[vr a0, vr a1, vi 2] [.ref b17, .ref a0])) rfl rfl (hb hby d5_27)
  have N20 := Fr.snoc X20 N14 g_a0
  have F_nameEnds := F_nameEnds.same W20
  have E_a0 := E_a0.wr W20
  have F_bytes := F_bytes.other W20 (Or.inr (slot_ne (Or.inr (ow hw 27 rfl)) (Or.inr (ow hw 33 rfl)) (by decide) (t := (.array .byte)) (t' := (.array .int)) (by decide) (by decide)))
  have F_nameStarts := F_nameStarts.other W20 (Or.inr (slot_ne (Or.inr (ow hw 29 rfl)) (Or.inr (ow hw 33 rfl)) (by decide) (t := (.array .int)) (t' := (.array .int)) (by decide) (by decide)))
  have F_localNameStarts := F_localNameStarts.other W20 (Or.inr (slot_ne (Or.inr (ow hw 31 rfl)) (Or.inr (ow hw 33 rfl)) (by decide) (t := (.array .int)) (t' := (.array .int)) (by decide) (by decide)))
  have F_valueStarts := F_valueStarts.other W20 (Or.inr (slot_ne (Or.inr (ow hw 35 rfl)) (Or.inr (ow hw 33 rfl)) (by decide) (t := (.array .int)) (t' := (.array .int)) (by decide) (by decide)))
  have F_valueEnds := F_valueEnds.other W20 (Or.inr (slot_ne (Or.inr (ow hw 37 rfl)) (Or.inr (ow hw 33 rfl)) (by decide) (t := (.array .int)) (t' := (.array .int)) (by decide) (by decide)))
  have F_qNames := F_qNames.other W20 (Or.inr (slot_ne (Or.inr (ow hw 41 rfl)) (Or.inr (ow hw 33 rfl)) (by decide) (t := (.array (.object "java/lang/String"))) (t' := (.array .int)) (by decide) (by decide)))
  have F_localNames := F_localNames.other W20 (Or.inr (slot_ne (Or.inr (ow hw 43 rfl)) (Or.inr (ow hw 33 rfl)) (by decide) (t := (.array (.object "java/lang/String"))) (t' := (.array .int)) (by decide) (by decide)))
  have F_values := F_values.other W20 (Or.inr (slot_ne (Or.inr (ow hw 45 rfl)) (Or.inr (ow hw 33 rfl)) (by decide) (t := (.array (.object "java/lang/String"))) (t' := (.array .int)) (by decide) (by decide)))
  have F_told := F_told.other W20 (Or.inr (slot_ne (Or.inr (ow hw 47 rfl)) (Or.inr (ow hw 33 rfl)) (by decide) (t := (.array .int)) (t' := (.array .int)) (by decide) (by decide)))
  have F_uris := F_uris.other W20 (Or.inr (slot_ne (Or.inr (ow hw 49 rfl)) (Or.inr (ow hw 33 rfl)) (by decide) (t := (.array (.object "java/lang/String"))) (t' := (.array .int)) (by decide) (by decide)))
  have F_added := F_added.other W20 (Or.inr (slot_ne (Or.inl (ow hw 56 rfl)) (Or.inr (ow hw 33 rfl)) (by decide) (t := .int) (t' := (.array .int)) (by decide) (by decide)))
  have F_length := F_length.other W20 (Or.inr (slot_ne (Or.inl (ow hw 70 rfl)) (Or.inr (ow hw 33 rfl)) (by decide) (t := .int) (t' := (.array .int)) (by decide) (by decide)))
  have E_b5 := E_b5.wr W20
  have V_b5 := V_b5.other W20 (Ne.symm ne_a0_b5)
  have E_b11 := E_b11.wr W20
  have V_b11 := V_b11.other W20 (Ne.symm ne_a0_b11)
  have E_b17 := E_b17.wr W20
  have V_b17 := V_b17.other W20 (Ne.symm ne_a0_b17)
  have Zs21 := Nat.le_trans Zs18 (Keep.of_wr W20).1
  have Kp22 := Kp19.wr W20 (Or.inl (List.mem_of_getElem? (i := 0) rfl))
  refine Go.st (S' := T20.setTop (mkF m 32 #[vr a0, vr a1, vi 2] [.int 2, .ref a0])) (fun _ kk => st20 _ (XS.aloadN X20.here hx rfl (hb hby d5_30) rfl rfl (XS.iloadN X20.here hx rfl (hb hby d5_31) rfl kk))) ?_
  obtain ⟨T23, h23, k23, X23, e23, E23, A23, E_b23, st23⟩ := newPE X20 hx hZ (ow hw 16 rfl) e20 (g := (mkF m 32 #[vr a0, vr a1, vi 2] [.int 2, .ref a0])) rfl (hb hby d5_32) rfl (by decide) (cap := 2) (by decide) (by decide) (by decide : 3 + 1 ≤ _) (by decide : 6 + 2 ≤ _) (ad := "[I") rfl
  obtain ⟨b23, g23⟩ : ∃ z, z = h20.size := ⟨_, rfl⟩
  rw [← g23] at A23 E_b23 st23
  have ne_a0_b23 : a0 ≠ b23 := Nat.ne_of_lt (Nat.lt_of_lt_of_le E_a0.lt (Nat.le_of_eq g23.symm))
  have ne_b5_b23 : b5 ≠ b23 := Nat.ne_of_lt (Nat.lt_of_lt_of_le E_b5.lt (Nat.le_of_eq g23.symm))
  have ne_b11_b23 : b11 ≠ b23 := Nat.ne_of_lt (Nat.lt_of_lt_of_le E_b11.lt (Nat.le_of_eq g23.symm))
  have ne_b17_b23 : b17 ≠ b23 := Nat.ne_of_lt (Nat.lt_of_lt_of_le E_b17.lt (Nat.le_of_eq g23.symm))
  have g_b23 : n0 ≤ b23 := Nat.le_trans Zs21 (Nat.le_of_eq g23.symm)
  have sz_b23 : h0.size ≤ b23 := Nat.le_trans Kp22.1 (Nat.le_of_eq g23.symm)
  have E_a0 := E_a0.ext E23
  have F_bytes := F_bytes.ext E23
  have F_nameStarts := F_nameStarts.ext E23
  have F_localNameStarts := F_localNameStarts.ext E23
  have F_nameEnds := F_nameEnds.ext E23
  have F_valueStarts := F_valueStarts.ext E23
  have F_valueEnds := F_valueEnds.ext E23
  have F_qNames := F_qNames.ext E23
  have F_localNames := F_localNames.ext E23
  have F_values := F_values.ext E23
  have F_told := F_told.ext E23
  have F_uris := F_uris.ext E23
  have F_added := F_added.ext E23
  have F_length := F_length.ext E23
  have E_b5 := E_b5.ext E23
  have V_b5 := V_b5.ext E23
  have E_b11 := E_b11.ext E23
  have V_b11 := V_b11.ext E23
  have E_b17 := E_b17.ext E23
  have V_b17 := V_b17.ext E23
  have Zs24 := Nat.le_trans Zs21 E23.1
  have Kp25 := Kp22.ext E23
  have V_b23 : Arv Z h23 b23 k23 .int (2 : Int32) [(.int 0), (.int 0)] (.int 0) := (Arv.new A23 (by decide)).pad (pad_rep [] (.int 0) 2)
  refine Go.st (S' := T23.setTop (mkF m 34 #[vr a0, vr a1, vi 2] [.ref b23, .ref a0])) st23 ?_
  obtain ⟨T26, h26, X26, e26, W26, st26⟩ := putF X23 hx hZ hown (host := "") (Or.inl (ow hw 34 rfl)) Via.refl e23 F_valueStarts E_a0 (Or.inr ⟨(ow hw 35 rfl), rfl, hnm⟩) (ow hw 18 rfl) (ty := (.array .int)) (by decide) rfl rfl (g := (mkF m 34 #[vr a0, vr a1, vi 2] [.ref b23, .ref a0])) rfl rfl (hb hby d5_34)
  have N26 := Fr.snoc X26 N20 g_a0
  have F_valueStarts := F_valueStarts.same W26
  have E_a0 := E_a0.wr W26
  have F_bytes := F_bytes.other W26 (Or.inr (slot_ne (Or.inr (ow hw 27 rfl)) (Or.inr (ow hw 35 rfl)) (by decide) (t := (.array .byte)) (t' := (.array .int)) (by decide) (by decide)))
  have F_nameStarts := F_nameStarts.other W26 (Or.inr (slot_ne (Or.inr (ow hw 29 rfl)) (Or.inr (ow hw 35 rfl)) (by decide) (t := (.array .int)) (t' := (.array .int)) (by decide) (by decide)))
  have F_localNameStarts := F_localNameStarts.other W26 (Or.inr (slot_ne (Or.inr (ow hw 31 rfl)) (Or.inr (ow hw 35 rfl)) (by decide) (t := (.array .int)) (t' := (.array .int)) (by decide) (by decide)))
  have F_nameEnds := F_nameEnds.other W26 (Or.inr (slot_ne (Or.inr (ow hw 33 rfl)) (Or.inr (ow hw 35 rfl)) (by decide) (t := (.array .int)) (t' := (.array .int)) (by decide) (by decide)))
  have F_valueEnds := F_valueEnds.other W26 (Or.inr (slot_ne (Or.inr (ow hw 37 rfl)) (Or.inr (ow hw 35 rfl)) (by decide) (t := (.array .int)) (t' := (.array .int)) (by decide) (by decide)))
  have F_qNames := F_qNames.other W26 (Or.inr (slot_ne (Or.inr (ow hw 41 rfl)) (Or.inr (ow hw 35 rfl)) (by decide) (t := (.array (.object "java/lang/String"))) (t' := (.array .int)) (by decide) (by decide)))
  have F_localNames := F_localNames.other W26 (Or.inr (slot_ne (Or.inr (ow hw 43 rfl)) (Or.inr (ow hw 35 rfl)) (by decide) (t := (.array (.object "java/lang/String"))) (t' := (.array .int)) (by decide) (by decide)))
  have F_values := F_values.other W26 (Or.inr (slot_ne (Or.inr (ow hw 45 rfl)) (Or.inr (ow hw 35 rfl)) (by decide) (t := (.array (.object "java/lang/String"))) (t' := (.array .int)) (by decide) (by decide)))
  have F_told := F_told.other W26 (Or.inr (slot_ne (Or.inr (ow hw 47 rfl)) (Or.inr (ow hw 35 rfl)) (by decide) (t := (.array .int)) (t' := (.array .int)) (by decide) (by decide)))
  have F_uris := F_uris.other W26 (Or.inr (slot_ne (Or.inr (ow hw 49 rfl)) (Or.inr (ow hw 35 rfl)) (by decide) (t := (.array (.object "java/lang/String"))) (t' := (.array .int)) (by decide) (by decide)))
  have F_added := F_added.other W26 (Or.inr (slot_ne (Or.inl (ow hw 56 rfl)) (Or.inr (ow hw 35 rfl)) (by decide) (t := .int) (t' := (.array .int)) (by decide) (by decide)))
  have F_length := F_length.other W26 (Or.inr (slot_ne (Or.inl (ow hw 70 rfl)) (Or.inr (ow hw 35 rfl)) (by decide) (t := .int) (t' := (.array .int)) (by decide) (by decide)))
  have E_b5 := E_b5.wr W26
  have V_b5 := V_b5.other W26 (Ne.symm ne_a0_b5)
  have E_b11 := E_b11.wr W26
  have V_b11 := V_b11.other W26 (Ne.symm ne_a0_b11)
  have E_b17 := E_b17.wr W26
  have V_b17 := V_b17.other W26 (Ne.symm ne_a0_b17)
  have E_b23 := E_b23.wr W26
  have V_b23 := V_b23.other W26 (Ne.symm ne_a0_b23)
  have Zs27 := Nat.le_trans Zs24 (Keep.of_wr W26).1
  have Kp28 := Kp25.wr W26 (Or.inl (List.mem_of_getElem? (i := 0) rfl))
  refine Go.st (S' := T26.setTop (mkF m 39 #[vr a0, vr a1, vi 2] [.int 2, .ref a0])) (fun _ kk => st26 _ (XS.aloadN X26.here hx rfl (hb hby d5_37) rfl rfl (XS.iloadN X26.here hx rfl (hb hby d5_38) rfl kk))) ?_
  obtain ⟨T29, h29, k29, X29, e29, E29, A29, E_b29, st29⟩ := newPE X26 hx hZ (ow hw 16 rfl) e26 (g := (mkF m 39 #[vr a0, vr a1, vi 2] [.int 2, .ref a0])) rfl (hb hby d5_39) rfl (by decide) (cap := 2) (by decide) (by decide) (by decide : 4 + 1 ≤ _) (by decide : 8 + 2 ≤ _) (ad := "[I") rfl
  obtain ⟨b29, g29⟩ : ∃ z, z = h26.size := ⟨_, rfl⟩
  rw [← g29] at A29 E_b29 st29
  have ne_a0_b29 : a0 ≠ b29 := Nat.ne_of_lt (Nat.lt_of_lt_of_le E_a0.lt (Nat.le_of_eq g29.symm))
  have ne_b5_b29 : b5 ≠ b29 := Nat.ne_of_lt (Nat.lt_of_lt_of_le E_b5.lt (Nat.le_of_eq g29.symm))
  have ne_b11_b29 : b11 ≠ b29 := Nat.ne_of_lt (Nat.lt_of_lt_of_le E_b11.lt (Nat.le_of_eq g29.symm))
  have ne_b17_b29 : b17 ≠ b29 := Nat.ne_of_lt (Nat.lt_of_lt_of_le E_b17.lt (Nat.le_of_eq g29.symm))
  have ne_b23_b29 : b23 ≠ b29 := Nat.ne_of_lt (Nat.lt_of_lt_of_le E_b23.lt (Nat.le_of_eq g29.symm))
  have g_b29 : n0 ≤ b29 := Nat.le_trans Zs27 (Nat.le_of_eq g29.symm)
  have sz_b29 : h0.size ≤ b29 := Nat.le_trans Kp28.1 (Nat.le_of_eq g29.symm)
  have E_a0 := E_a0.ext E29
  have F_bytes := F_bytes.ext E29
  have F_nameStarts := F_nameStarts.ext E29
  have F_localNameStarts := F_localNameStarts.ext E29
  have F_nameEnds := F_nameEnds.ext E29
  have F_valueStarts := F_valueStarts.ext E29
  have F_valueEnds := F_valueEnds.ext E29
  have F_qNames := F_qNames.ext E29
  have F_localNames := F_localNames.ext E29
  have F_values := F_values.ext E29
  have F_told := F_told.ext E29
  have F_uris := F_uris.ext E29
  have F_added := F_added.ext E29
  have F_length := F_length.ext E29
  have E_b5 := E_b5.ext E29
  have V_b5 := V_b5.ext E29
  have E_b11 := E_b11.ext E29
  have V_b11 := V_b11.ext E29
  have E_b17 := E_b17.ext E29
  have V_b17 := V_b17.ext E29
  have E_b23 := E_b23.ext E29
  have V_b23 := V_b23.ext E29
  have Zs30 := Nat.le_trans Zs27 E29.1
  have Kp31 := Kp28.ext E29
  have V_b29 : Arv Z h29 b29 k29 .int (2 : Int32) [(.int 0), (.int 0)] (.int 0) := (Arv.new A29 (by decide)).pad (pad_rep [] (.int 0) 2)
  refine Go.st (S' := T29.setTop (mkF m 41 #[vr a0, vr a1, vi 2] [.ref b29, .ref a0])) st29 ?_
  obtain ⟨T32, h32, X32, e32, W32, st32⟩ := putF X29 hx hZ hown (host := "") (Or.inl (ow hw 36 rfl)) Via.refl e29 F_valueEnds E_a0 (Or.inr ⟨(ow hw 37 rfl), rfl, hnm⟩) (ow hw 18 rfl) (ty := (.array .int)) (by decide) rfl rfl (g := (mkF m 41 #[vr a0, vr a1, vi 2] [.ref b29, .ref a0])) rfl rfl (hb hby d5_41)
  have N32 := Fr.snoc X32 N26 g_a0
  have F_valueEnds := F_valueEnds.same W32
  have E_a0 := E_a0.wr W32
  have F_bytes := F_bytes.other W32 (Or.inr (slot_ne (Or.inr (ow hw 27 rfl)) (Or.inr (ow hw 37 rfl)) (by decide) (t := (.array .byte)) (t' := (.array .int)) (by decide) (by decide)))
  have F_nameStarts := F_nameStarts.other W32 (Or.inr (slot_ne (Or.inr (ow hw 29 rfl)) (Or.inr (ow hw 37 rfl)) (by decide) (t := (.array .int)) (t' := (.array .int)) (by decide) (by decide)))
  have F_localNameStarts := F_localNameStarts.other W32 (Or.inr (slot_ne (Or.inr (ow hw 31 rfl)) (Or.inr (ow hw 37 rfl)) (by decide) (t := (.array .int)) (t' := (.array .int)) (by decide) (by decide)))
  have F_nameEnds := F_nameEnds.other W32 (Or.inr (slot_ne (Or.inr (ow hw 33 rfl)) (Or.inr (ow hw 37 rfl)) (by decide) (t := (.array .int)) (t' := (.array .int)) (by decide) (by decide)))
  have F_valueStarts := F_valueStarts.other W32 (Or.inr (slot_ne (Or.inr (ow hw 35 rfl)) (Or.inr (ow hw 37 rfl)) (by decide) (t := (.array .int)) (t' := (.array .int)) (by decide) (by decide)))
  have F_qNames := F_qNames.other W32 (Or.inr (slot_ne (Or.inr (ow hw 41 rfl)) (Or.inr (ow hw 37 rfl)) (by decide) (t := (.array (.object "java/lang/String"))) (t' := (.array .int)) (by decide) (by decide)))
  have F_localNames := F_localNames.other W32 (Or.inr (slot_ne (Or.inr (ow hw 43 rfl)) (Or.inr (ow hw 37 rfl)) (by decide) (t := (.array (.object "java/lang/String"))) (t' := (.array .int)) (by decide) (by decide)))
  have F_values := F_values.other W32 (Or.inr (slot_ne (Or.inr (ow hw 45 rfl)) (Or.inr (ow hw 37 rfl)) (by decide) (t := (.array (.object "java/lang/String"))) (t' := (.array .int)) (by decide) (by decide)))
  have F_told := F_told.other W32 (Or.inr (slot_ne (Or.inr (ow hw 47 rfl)) (Or.inr (ow hw 37 rfl)) (by decide) (t := (.array .int)) (t' := (.array .int)) (by decide) (by decide)))
  have F_uris := F_uris.other W32 (Or.inr (slot_ne (Or.inr (ow hw 49 rfl)) (Or.inr (ow hw 37 rfl)) (by decide) (t := (.array (.object "java/lang/String"))) (t' := (.array .int)) (by decide) (by decide)))
  have F_added := F_added.other W32 (Or.inr (slot_ne (Or.inl (ow hw 56 rfl)) (Or.inr (ow hw 37 rfl)) (by decide) (t := .int) (t' := (.array .int)) (by decide) (by decide)))
  have F_length := F_length.other W32 (Or.inr (slot_ne (Or.inl (ow hw 70 rfl)) (Or.inr (ow hw 37 rfl)) (by decide) (t := .int) (t' := (.array .int)) (by decide) (by decide)))
  have E_b5 := E_b5.wr W32
  have V_b5 := V_b5.other W32 (Ne.symm ne_a0_b5)
  have E_b11 := E_b11.wr W32
  have V_b11 := V_b11.other W32 (Ne.symm ne_a0_b11)
  have E_b17 := E_b17.wr W32
  have V_b17 := V_b17.other W32 (Ne.symm ne_a0_b17)
  have E_b23 := E_b23.wr W32
  have V_b23 := V_b23.other W32 (Ne.symm ne_a0_b23)
  have E_b29 := E_b29.wr W32
  have V_b29 := V_b29.other W32 (Ne.symm ne_a0_b29)
  have Zs33 := Nat.le_trans Zs30 (Keep.of_wr W32).1
  have Kp34 := Kp31.wr W32 (Or.inl (List.mem_of_getElem? (i := 0) rfl))
  refine Go.st (S' := T32.setTop (mkF m 46 #[vr a0, vr a1, vi 2] [.int 2, .ref a0])) (fun _ kk => st32 _ (XS.aloadN X32.here hx rfl (hb hby d5_44) rfl rfl (XS.iloadN X32.here hx rfl (hb hby d5_45) rfl kk))) ?_
  obtain ⟨T35, h35, k35, X35, e35, E35, A35, E_b35, O35, st35⟩ := newRE X32 hx hZ hown (ow hw 38 rfl) (ow hw 39 rfl) e32 (g := (mkF m 46 #[vr a0, vr a1, vi 2] [.int 2, .ref a0])) rfl (hb hby d5_46) rfl (by decide) (cap := 2) (by decide) (by decide) (by decide : 5 + 1 ≤ _) (by decide : 10 + 2 ≤ _) (ad := "[Ljava/lang/String;") rfl
  obtain ⟨b35, g35⟩ : ∃ z, z = h32.size := ⟨_, rfl⟩
  rw [← g35] at A35 E_b35 st35
  have ne_a0_b35 : a0 ≠ b35 := Nat.ne_of_lt (Nat.lt_of_lt_of_le E_a0.lt (Nat.le_of_eq g35.symm))
  have ne_b5_b35 : b5 ≠ b35 := Nat.ne_of_lt (Nat.lt_of_lt_of_le E_b5.lt (Nat.le_of_eq g35.symm))
  have ne_b11_b35 : b11 ≠ b35 := Nat.ne_of_lt (Nat.lt_of_lt_of_le E_b11.lt (Nat.le_of_eq g35.symm))
  have ne_b17_b35 : b17 ≠ b35 := Nat.ne_of_lt (Nat.lt_of_lt_of_le E_b17.lt (Nat.le_of_eq g35.symm))
  have ne_b23_b35 : b23 ≠ b35 := Nat.ne_of_lt (Nat.lt_of_lt_of_le E_b23.lt (Nat.le_of_eq g35.symm))
  have ne_b29_b35 : b29 ≠ b35 := Nat.ne_of_lt (Nat.lt_of_lt_of_le E_b29.lt (Nat.le_of_eq g35.symm))
  have g_b35 : n0 ≤ b35 := Nat.le_trans Zs33 (Nat.le_of_eq g35.symm)
  have sz_b35 : h0.size ≤ b35 := Nat.le_trans Kp34.1 (Nat.le_of_eq g35.symm)
  have E_a0 := E_a0.ext E35
  have F_bytes := F_bytes.ext E35
  have F_nameStarts := F_nameStarts.ext E35
  have F_localNameStarts := F_localNameStarts.ext E35
  have F_nameEnds := F_nameEnds.ext E35
  have F_valueStarts := F_valueStarts.ext E35
  have F_valueEnds := F_valueEnds.ext E35
  have F_qNames := F_qNames.ext E35
  have F_localNames := F_localNames.ext E35
  have F_values := F_values.ext E35
  have F_told := F_told.ext E35
  have F_uris := F_uris.ext E35
  have F_added := F_added.ext E35
  have F_length := F_length.ext E35
  have E_b5 := E_b5.ext E35
  have V_b5 := V_b5.ext E35
  have E_b11 := E_b11.ext E35
  have V_b11 := V_b11.ext E35
  have E_b17 := E_b17.ext E35
  have V_b17 := V_b17.ext E35
  have E_b23 := E_b23.ext E35
  have V_b23 := V_b23.ext E35
  have E_b29 := E_b29.ext E35
  have V_b29 := V_b29.ext E35
  have Zs36 := Nat.le_trans Zs33 E35.1
  have Kp37 := Kp34.ext E35
  have V_b35 : Arv Z h35 b35 k35 (.object "java/lang/String") (2 : Int32) [.null, .null] .null := (Arv.new A35 (by decide)).pad (pad_rep [] .null 2)
  refine Go.st (S' := T35.setTop (mkF m 49 #[vr a0, vr a1, vi 2] [.ref b35, .ref a0])) st35 ?_
  obtain ⟨T38, h38, X38, e38, W38, st38⟩ := putF X35 hx hZ hown (host := "") (Or.inl (ow hw 40 rfl)) Via.refl e35 F_qNames E_a0 (Or.inr ⟨(ow hw 41 rfl), rfl, hnm⟩) (ow hw 18 rfl) (ty := (.array (.object "java/lang/String"))) (by decide) rfl rfl (g := (mkF m 49 #[vr a0, vr a1, vi 2] [.ref b35, .ref a0])) rfl rfl (hb hby d5_49)
  have N38 := Fr.snoc X38 N32 g_a0
  have F_qNames := F_qNames.same W38
  have E_a0 := E_a0.wr W38
  have F_bytes := F_bytes.other W38 (Or.inr (slot_ne (Or.inr (ow hw 27 rfl)) (Or.inr (ow hw 41 rfl)) (by decide) (t := (.array .byte)) (t' := (.array (.object "java/lang/String"))) (by decide) (by decide)))
  have F_nameStarts := F_nameStarts.other W38 (Or.inr (slot_ne (Or.inr (ow hw 29 rfl)) (Or.inr (ow hw 41 rfl)) (by decide) (t := (.array .int)) (t' := (.array (.object "java/lang/String"))) (by decide) (by decide)))
  have F_localNameStarts := F_localNameStarts.other W38 (Or.inr (slot_ne (Or.inr (ow hw 31 rfl)) (Or.inr (ow hw 41 rfl)) (by decide) (t := (.array .int)) (t' := (.array (.object "java/lang/String"))) (by decide) (by decide)))
  have F_nameEnds := F_nameEnds.other W38 (Or.inr (slot_ne (Or.inr (ow hw 33 rfl)) (Or.inr (ow hw 41 rfl)) (by decide) (t := (.array .int)) (t' := (.array (.object "java/lang/String"))) (by decide) (by decide)))
  have F_valueStarts := F_valueStarts.other W38 (Or.inr (slot_ne (Or.inr (ow hw 35 rfl)) (Or.inr (ow hw 41 rfl)) (by decide) (t := (.array .int)) (t' := (.array (.object "java/lang/String"))) (by decide) (by decide)))
  have F_valueEnds := F_valueEnds.other W38 (Or.inr (slot_ne (Or.inr (ow hw 37 rfl)) (Or.inr (ow hw 41 rfl)) (by decide) (t := (.array .int)) (t' := (.array (.object "java/lang/String"))) (by decide) (by decide)))
  have F_localNames := F_localNames.other W38 (Or.inr (slot_ne (Or.inr (ow hw 43 rfl)) (Or.inr (ow hw 41 rfl)) (by decide) (t := (.array (.object "java/lang/String"))) (t' := (.array (.object "java/lang/String"))) (by decide) (by decide)))
  have F_values := F_values.other W38 (Or.inr (slot_ne (Or.inr (ow hw 45 rfl)) (Or.inr (ow hw 41 rfl)) (by decide) (t := (.array (.object "java/lang/String"))) (t' := (.array (.object "java/lang/String"))) (by decide) (by decide)))
  have F_told := F_told.other W38 (Or.inr (slot_ne (Or.inr (ow hw 47 rfl)) (Or.inr (ow hw 41 rfl)) (by decide) (t := (.array .int)) (t' := (.array (.object "java/lang/String"))) (by decide) (by decide)))
  have F_uris := F_uris.other W38 (Or.inr (slot_ne (Or.inr (ow hw 49 rfl)) (Or.inr (ow hw 41 rfl)) (by decide) (t := (.array (.object "java/lang/String"))) (t' := (.array (.object "java/lang/String"))) (by decide) (by decide)))
  have F_added := F_added.other W38 (Or.inr (slot_ne (Or.inl (ow hw 56 rfl)) (Or.inr (ow hw 41 rfl)) (by decide) (t := .int) (t' := (.array (.object "java/lang/String"))) (by decide) (by decide)))
  have F_length := F_length.other W38 (Or.inr (slot_ne (Or.inl (ow hw 70 rfl)) (Or.inr (ow hw 41 rfl)) (by decide) (t := .int) (t' := (.array (.object "java/lang/String"))) (by decide) (by decide)))
  have E_b5 := E_b5.wr W38
  have V_b5 := V_b5.other W38 (Ne.symm ne_a0_b5)
  have E_b11 := E_b11.wr W38
  have V_b11 := V_b11.other W38 (Ne.symm ne_a0_b11)
  have E_b17 := E_b17.wr W38
  have V_b17 := V_b17.other W38 (Ne.symm ne_a0_b17)
  have E_b23 := E_b23.wr W38
  have V_b23 := V_b23.other W38 (Ne.symm ne_a0_b23)
  have E_b29 := E_b29.wr W38
  have V_b29 := V_b29.other W38 (Ne.symm ne_a0_b29)
  have E_b35 := E_b35.wr W38
  have V_b35 := V_b35.other W38 (Ne.symm ne_a0_b35)
  have Zs39 := Nat.le_trans Zs36 (Keep.of_wr W38).1
  have Kp40 := Kp37.wr W38 (Or.inl (List.mem_of_getElem? (i := 0) rfl))
  refine Go.st (S' := T38.setTop (mkF m 54 #[vr a0, vr a1, vi 2] [.int 2, .ref a0])) (fun _ kk => st38 _ (XS.aloadN X38.here hx rfl (hb hby d5_52) rfl rfl (XS.iloadN X38.here hx rfl (hb hby d5_53) rfl kk))) ?_
  obtain ⟨T41, h41, k41, X41, e41, E41, A41, E_b41, O41, st41⟩ := newRE X38 hx hZ hown (ow hw 38 rfl) (ow hw 39 rfl) e38 (g := (mkF m 54 #[vr a0, vr a1, vi 2] [.int 2, .ref a0])) rfl (hb hby d5_54) rfl (by decide) (cap := 2) (by decide) (by decide) (by decide : 6 + 1 ≤ _) (by decide : 12 + 2 ≤ _) (ad := "[Ljava/lang/String;") rfl
  obtain ⟨b41, g41⟩ : ∃ z, z = h38.size := ⟨_, rfl⟩
  rw [← g41] at A41 E_b41 st41
  have ne_a0_b41 : a0 ≠ b41 := Nat.ne_of_lt (Nat.lt_of_lt_of_le E_a0.lt (Nat.le_of_eq g41.symm))
  have ne_b5_b41 : b5 ≠ b41 := Nat.ne_of_lt (Nat.lt_of_lt_of_le E_b5.lt (Nat.le_of_eq g41.symm))
  have ne_b11_b41 : b11 ≠ b41 := Nat.ne_of_lt (Nat.lt_of_lt_of_le E_b11.lt (Nat.le_of_eq g41.symm))
  have ne_b17_b41 : b17 ≠ b41 := Nat.ne_of_lt (Nat.lt_of_lt_of_le E_b17.lt (Nat.le_of_eq g41.symm))
  have ne_b23_b41 : b23 ≠ b41 := Nat.ne_of_lt (Nat.lt_of_lt_of_le E_b23.lt (Nat.le_of_eq g41.symm))
  have ne_b29_b41 : b29 ≠ b41 := Nat.ne_of_lt (Nat.lt_of_lt_of_le E_b29.lt (Nat.le_of_eq g41.symm))
  have ne_b35_b41 : b35 ≠ b41 := Nat.ne_of_lt (Nat.lt_of_lt_of_le E_b35.lt (Nat.le_of_eq g41.symm))
  have g_b41 : n0 ≤ b41 := Nat.le_trans Zs39 (Nat.le_of_eq g41.symm)
  have sz_b41 : h0.size ≤ b41 := Nat.le_trans Kp40.1 (Nat.le_of_eq g41.symm)
  have E_a0 := E_a0.ext E41
  have F_bytes := F_bytes.ext E41
  have F_nameStarts := F_nameStarts.ext E41
  have F_localNameStarts := F_localNameStarts.ext E41
  have F_nameEnds := F_nameEnds.ext E41
  have F_valueStarts := F_valueStarts.ext E41
  have F_valueEnds := F_valueEnds.ext E41
  have F_qNames := F_qNames.ext E41
  have F_localNames := F_localNames.ext E41
  have F_values := F_values.ext E41
  have F_told := F_told.ext E41
  have F_uris := F_uris.ext E41
  have F_added := F_added.ext E41
  have F_length := F_length.ext E41
  have E_b5 := E_b5.ext E41
  have V_b5 := V_b5.ext E41
  have E_b11 := E_b11.ext E41
  have V_b11 := V_b11.ext E41
  have E_b17 := E_b17.ext E41
  have V_b17 := V_b17.ext E41
  have E_b23 := E_b23.ext E41
  have V_b23 := V_b23.ext E41
  have E_b29 := E_b29.ext E41
  have V_b29 := V_b29.ext E41
  have E_b35 := E_b35.ext E41
  have V_b35 := V_b35.ext E41
  have Zs42 := Nat.le_trans Zs39 E41.1
  have Kp43 := Kp40.ext E41
  have V_b41 : Arv Z h41 b41 k41 (.object "java/lang/String") (2 : Int32) [.null, .null] .null := (Arv.new A41 (by decide)).pad (pad_rep [] .null 2)
  refine Go.st (S' := T41.setTop (mkF m 57 #[vr a0, vr a1, vi 2] [.ref b41, .ref a0])) st41 ?_
  obtain ⟨T44, h44, X44, e44, W44, st44⟩ := putF X41 hx hZ hown (host := "") (Or.inl (ow hw 42 rfl)) Via.refl e41 F_localNames E_a0 (Or.inr ⟨(ow hw 43 rfl), rfl, hnm⟩) (ow hw 18 rfl) (ty := (.array (.object "java/lang/String"))) (by decide) rfl rfl (g := (mkF m 57 #[vr a0, vr a1, vi 2] [.ref b41, .ref a0])) rfl rfl (hb hby d5_57)
  have N44 := Fr.snoc X44 N38 g_a0
  have F_localNames := F_localNames.same W44
  have E_a0 := E_a0.wr W44
  have F_bytes := F_bytes.other W44 (Or.inr (slot_ne (Or.inr (ow hw 27 rfl)) (Or.inr (ow hw 43 rfl)) (by decide) (t := (.array .byte)) (t' := (.array (.object "java/lang/String"))) (by decide) (by decide)))
  have F_nameStarts := F_nameStarts.other W44 (Or.inr (slot_ne (Or.inr (ow hw 29 rfl)) (Or.inr (ow hw 43 rfl)) (by decide) (t := (.array .int)) (t' := (.array (.object "java/lang/String"))) (by decide) (by decide)))
  have F_localNameStarts := F_localNameStarts.other W44 (Or.inr (slot_ne (Or.inr (ow hw 31 rfl)) (Or.inr (ow hw 43 rfl)) (by decide) (t := (.array .int)) (t' := (.array (.object "java/lang/String"))) (by decide) (by decide)))
  have F_nameEnds := F_nameEnds.other W44 (Or.inr (slot_ne (Or.inr (ow hw 33 rfl)) (Or.inr (ow hw 43 rfl)) (by decide) (t := (.array .int)) (t' := (.array (.object "java/lang/String"))) (by decide) (by decide)))
  have F_valueStarts := F_valueStarts.other W44 (Or.inr (slot_ne (Or.inr (ow hw 35 rfl)) (Or.inr (ow hw 43 rfl)) (by decide) (t := (.array .int)) (t' := (.array (.object "java/lang/String"))) (by decide) (by decide)))
  have F_valueEnds := F_valueEnds.other W44 (Or.inr (slot_ne (Or.inr (ow hw 37 rfl)) (Or.inr (ow hw 43 rfl)) (by decide) (t := (.array .int)) (t' := (.array (.object "java/lang/String"))) (by decide) (by decide)))
  have F_qNames := F_qNames.other W44 (Or.inr (slot_ne (Or.inr (ow hw 41 rfl)) (Or.inr (ow hw 43 rfl)) (by decide) (t := (.array (.object "java/lang/String"))) (t' := (.array (.object "java/lang/String"))) (by decide) (by decide)))
  have F_values := F_values.other W44 (Or.inr (slot_ne (Or.inr (ow hw 45 rfl)) (Or.inr (ow hw 43 rfl)) (by decide) (t := (.array (.object "java/lang/String"))) (t' := (.array (.object "java/lang/String"))) (by decide) (by decide)))
  have F_told := F_told.other W44 (Or.inr (slot_ne (Or.inr (ow hw 47 rfl)) (Or.inr (ow hw 43 rfl)) (by decide) (t := (.array .int)) (t' := (.array (.object "java/lang/String"))) (by decide) (by decide)))
  have F_uris := F_uris.other W44 (Or.inr (slot_ne (Or.inr (ow hw 49 rfl)) (Or.inr (ow hw 43 rfl)) (by decide) (t := (.array (.object "java/lang/String"))) (t' := (.array (.object "java/lang/String"))) (by decide) (by decide)))
  have F_added := F_added.other W44 (Or.inr (slot_ne (Or.inl (ow hw 56 rfl)) (Or.inr (ow hw 43 rfl)) (by decide) (t := .int) (t' := (.array (.object "java/lang/String"))) (by decide) (by decide)))
  have F_length := F_length.other W44 (Or.inr (slot_ne (Or.inl (ow hw 70 rfl)) (Or.inr (ow hw 43 rfl)) (by decide) (t := .int) (t' := (.array (.object "java/lang/String"))) (by decide) (by decide)))
  have E_b5 := E_b5.wr W44
  have V_b5 := V_b5.other W44 (Ne.symm ne_a0_b5)
  have E_b11 := E_b11.wr W44
  have V_b11 := V_b11.other W44 (Ne.symm ne_a0_b11)
  have E_b17 := E_b17.wr W44
  have V_b17 := V_b17.other W44 (Ne.symm ne_a0_b17)
  have E_b23 := E_b23.wr W44
  have V_b23 := V_b23.other W44 (Ne.symm ne_a0_b23)
  have E_b29 := E_b29.wr W44
  have V_b29 := V_b29.other W44 (Ne.symm ne_a0_b29)
  have E_b35 := E_b35.wr W44
  have V_b35 := V_b35.other W44 (Ne.symm ne_a0_b35)
  have E_b41 := E_b41.wr W44
  have V_b41 := V_b41.other W44 (Ne.symm ne_a0_b41)
  have Zs45 := Nat.le_trans Zs42 (Keep.of_wr W44).1
  have Kp46 := Kp43.wr W44 (Or.inl (List.mem_of_getElem? (i := 0) rfl))
  refine Go.st (S' := T44.setTop (mkF m 62 #[vr a0, vr a1, vi 2] [.int 2, .ref a0])) (fun _ kk => st44 _ (XS.aloadN X44.here hx rfl (hb hby d5_60) rfl rfl (XS.iloadN X44.here hx rfl (hb hby d5_61) rfl kk))) ?_
  obtain ⟨T47, h47, k47, X47, e47, E47, A47, E_b47, O47, st47⟩ := newRE X44 hx hZ hown (ow hw 38 rfl) (ow hw 39 rfl) e44 (g := (mkF m 62 #[vr a0, vr a1, vi 2] [.int 2, .ref a0])) rfl (hb hby d5_62) rfl (by decide) (cap := 2) (by decide) (by decide) (by decide : 7 + 1 ≤ _) (by decide : 14 + 2 ≤ _) (ad := "[Ljava/lang/String;") rfl
  obtain ⟨b47, g47⟩ : ∃ z, z = h44.size := ⟨_, rfl⟩
  rw [← g47] at A47 E_b47 st47
  have ne_a0_b47 : a0 ≠ b47 := Nat.ne_of_lt (Nat.lt_of_lt_of_le E_a0.lt (Nat.le_of_eq g47.symm))
  have ne_b5_b47 : b5 ≠ b47 := Nat.ne_of_lt (Nat.lt_of_lt_of_le E_b5.lt (Nat.le_of_eq g47.symm))
  have ne_b11_b47 : b11 ≠ b47 := Nat.ne_of_lt (Nat.lt_of_lt_of_le E_b11.lt (Nat.le_of_eq g47.symm))
  have ne_b17_b47 : b17 ≠ b47 := Nat.ne_of_lt (Nat.lt_of_lt_of_le E_b17.lt (Nat.le_of_eq g47.symm))
  have ne_b23_b47 : b23 ≠ b47 := Nat.ne_of_lt (Nat.lt_of_lt_of_le E_b23.lt (Nat.le_of_eq g47.symm))
  have ne_b29_b47 : b29 ≠ b47 := Nat.ne_of_lt (Nat.lt_of_lt_of_le E_b29.lt (Nat.le_of_eq g47.symm))
  have ne_b35_b47 : b35 ≠ b47 := Nat.ne_of_lt (Nat.lt_of_lt_of_le E_b35.lt (Nat.le_of_eq g47.symm))
  have ne_b41_b47 : b41 ≠ b47 := Nat.ne_of_lt (Nat.lt_of_lt_of_le E_b41.lt (Nat.le_of_eq g47.symm))
  have g_b47 : n0 ≤ b47 := Nat.le_trans Zs45 (Nat.le_of_eq g47.symm)
  have sz_b47 : h0.size ≤ b47 := Nat.le_trans Kp46.1 (Nat.le_of_eq g47.symm)
  have E_a0 := E_a0.ext E47
  have F_bytes := F_bytes.ext E47
  have F_nameStarts := F_nameStarts.ext E47
  have F_localNameStarts := F_localNameStarts.ext E47
  have F_nameEnds := F_nameEnds.ext E47
  have F_valueStarts := F_valueStarts.ext E47
  have F_valueEnds := F_valueEnds.ext E47
  have F_qNames := F_qNames.ext E47
  have F_localNames := F_localNames.ext E47
  have F_values := F_values.ext E47
  have F_told := F_told.ext E47
  have F_uris := F_uris.ext E47
  have F_added := F_added.ext E47
  have F_length := F_length.ext E47
  have E_b5 := E_b5.ext E47
  have V_b5 := V_b5.ext E47
  have E_b11 := E_b11.ext E47
  have V_b11 := V_b11.ext E47
  have E_b17 := E_b17.ext E47
  have V_b17 := V_b17.ext E47
  have E_b23 := E_b23.ext E47
  have V_b23 := V_b23.ext E47
  have E_b29 := E_b29.ext E47
  have V_b29 := V_b29.ext E47
  have E_b35 := E_b35.ext E47
  have V_b35 := V_b35.ext E47
  have E_b41 := E_b41.ext E47
  have V_b41 := V_b41.ext E47
  have Zs48 := Nat.le_trans Zs45 E47.1
  have Kp49 := Kp46.ext E47
  have V_b47 : Arv Z h47 b47 k47 (.object "java/lang/String") (2 : Int32) [.null, .null] .null := (Arv.new A47 (by decide)).pad (pad_rep [] .null 2)
  refine Go.st (S' := T47.setTop (mkF m 65 #[vr a0, vr a1, vi 2] [.ref b47, .ref a0])) st47 ?_
  obtain ⟨T50, h50, X50, e50, W50, st50⟩ := putF X47 hx hZ hown (host := "") (Or.inl (ow hw 44 rfl)) Via.refl e47 F_values E_a0 (Or.inr ⟨(ow hw 45 rfl), rfl, hnm⟩) (ow hw 18 rfl) (ty := (.array (.object "java/lang/String"))) (by decide) rfl rfl (g := (mkF m 65 #[vr a0, vr a1, vi 2] [.ref b47, .ref a0])) rfl rfl (hb hby d5_65)
  have N50 := Fr.snoc X50 N44 g_a0
  have F_values := F_values.same W50
  have E_a0 := E_a0.wr W50
  have F_bytes := F_bytes.other W50 (Or.inr (slot_ne (Or.inr (ow hw 27 rfl)) (Or.inr (ow hw 45 rfl)) (by decide) (t := (.array .byte)) (t' := (.array (.object "java/lang/String"))) (by decide) (by decide)))
  have F_nameStarts := F_nameStarts.other W50 (Or.inr (slot_ne (Or.inr (ow hw 29 rfl)) (Or.inr (ow hw 45 rfl)) (by decide) (t := (.array .int)) (t' := (.array (.object "java/lang/String"))) (by decide) (by decide)))
  have F_localNameStarts := F_localNameStarts.other W50 (Or.inr (slot_ne (Or.inr (ow hw 31 rfl)) (Or.inr (ow hw 45 rfl)) (by decide) (t := (.array .int)) (t' := (.array (.object "java/lang/String"))) (by decide) (by decide)))
  have F_nameEnds := F_nameEnds.other W50 (Or.inr (slot_ne (Or.inr (ow hw 33 rfl)) (Or.inr (ow hw 45 rfl)) (by decide) (t := (.array .int)) (t' := (.array (.object "java/lang/String"))) (by decide) (by decide)))
  have F_valueStarts := F_valueStarts.other W50 (Or.inr (slot_ne (Or.inr (ow hw 35 rfl)) (Or.inr (ow hw 45 rfl)) (by decide) (t := (.array .int)) (t' := (.array (.object "java/lang/String"))) (by decide) (by decide)))
  have F_valueEnds := F_valueEnds.other W50 (Or.inr (slot_ne (Or.inr (ow hw 37 rfl)) (Or.inr (ow hw 45 rfl)) (by decide) (t := (.array .int)) (t' := (.array (.object "java/lang/String"))) (by decide) (by decide)))
  have F_qNames := F_qNames.other W50 (Or.inr (slot_ne (Or.inr (ow hw 41 rfl)) (Or.inr (ow hw 45 rfl)) (by decide) (t := (.array (.object "java/lang/String"))) (t' := (.array (.object "java/lang/String"))) (by decide) (by decide)))
  have F_localNames := F_localNames.other W50 (Or.inr (slot_ne (Or.inr (ow hw 43 rfl)) (Or.inr (ow hw 45 rfl)) (by decide) (t := (.array (.object "java/lang/String"))) (t' := (.array (.object "java/lang/String"))) (by decide) (by decide)))
  have F_told := F_told.other W50 (Or.inr (slot_ne (Or.inr (ow hw 47 rfl)) (Or.inr (ow hw 45 rfl)) (by decide) (t := (.array .int)) (t' := (.array (.object "java/lang/String"))) (by decide) (by decide)))
  have F_uris := F_uris.other W50 (Or.inr (slot_ne (Or.inr (ow hw 49 rfl)) (Or.inr (ow hw 45 rfl)) (by decide) (t := (.array (.object "java/lang/String"))) (t' := (.array (.object "java/lang/String"))) (by decide) (by decide)))
  have F_added := F_added.other W50 (Or.inr (slot_ne (Or.inl (ow hw 56 rfl)) (Or.inr (ow hw 45 rfl)) (by decide) (t := .int) (t' := (.array (.object "java/lang/String"))) (by decide) (by decide)))
  have F_length := F_length.other W50 (Or.inr (slot_ne (Or.inl (ow hw 70 rfl)) (Or.inr (ow hw 45 rfl)) (by decide) (t := .int) (t' := (.array (.object "java/lang/String"))) (by decide) (by decide)))
  have E_b5 := E_b5.wr W50
  have V_b5 := V_b5.other W50 (Ne.symm ne_a0_b5)
  have E_b11 := E_b11.wr W50
  have V_b11 := V_b11.other W50 (Ne.symm ne_a0_b11)
  have E_b17 := E_b17.wr W50
  have V_b17 := V_b17.other W50 (Ne.symm ne_a0_b17)
  have E_b23 := E_b23.wr W50
  have V_b23 := V_b23.other W50 (Ne.symm ne_a0_b23)
  have E_b29 := E_b29.wr W50
  have V_b29 := V_b29.other W50 (Ne.symm ne_a0_b29)
  have E_b35 := E_b35.wr W50
  have V_b35 := V_b35.other W50 (Ne.symm ne_a0_b35)
  have E_b41 := E_b41.wr W50
  have V_b41 := V_b41.other W50 (Ne.symm ne_a0_b41)
  have E_b47 := E_b47.wr W50
  have V_b47 := V_b47.other W50 (Ne.symm ne_a0_b47)
  have Zs51 := Nat.le_trans Zs48 (Keep.of_wr W50).1
  have Kp52 := Kp49.wr W50 (Or.inl (List.mem_of_getElem? (i := 0) rfl))
  refine Go.st (S' := T50.setTop (mkF m 70 #[vr a0, vr a1, vi 2] [.int 2, .ref a0])) (fun _ kk => st50 _ (XS.aloadN X50.here hx rfl (hb hby d5_68) rfl rfl (XS.iloadN X50.here hx rfl (hb hby d5_69) rfl kk))) ?_
  obtain ⟨T53, h53, k53, X53, e53, E53, A53, E_b53, st53⟩ := newPE X50 hx hZ (ow hw 16 rfl) e50 (g := (mkF m 70 #[vr a0, vr a1, vi 2] [.int 2, .ref a0])) rfl (hb hby d5_70) rfl (by decide) (cap := 2) (by decide) (by decide) (by decide : 8 + 1 ≤ _) (by decide : 16 + 2 ≤ _) (ad := "[I") rfl
  obtain ⟨b53, g53⟩ : ∃ z, z = h50.size := ⟨_, rfl⟩
  rw [← g53] at A53 E_b53 st53
  have ne_a0_b53 : a0 ≠ b53 := Nat.ne_of_lt (Nat.lt_of_lt_of_le E_a0.lt (Nat.le_of_eq g53.symm))
  have ne_b5_b53 : b5 ≠ b53 := Nat.ne_of_lt (Nat.lt_of_lt_of_le E_b5.lt (Nat.le_of_eq g53.symm))
  have ne_b11_b53 : b11 ≠ b53 := Nat.ne_of_lt (Nat.lt_of_lt_of_le E_b11.lt (Nat.le_of_eq g53.symm))
  have ne_b17_b53 : b17 ≠ b53 := Nat.ne_of_lt (Nat.lt_of_lt_of_le E_b17.lt (Nat.le_of_eq g53.symm))
  have ne_b23_b53 : b23 ≠ b53 := Nat.ne_of_lt (Nat.lt_of_lt_of_le E_b23.lt (Nat.le_of_eq g53.symm))
  have ne_b29_b53 : b29 ≠ b53 := Nat.ne_of_lt (Nat.lt_of_lt_of_le E_b29.lt (Nat.le_of_eq g53.symm))
  have ne_b35_b53 : b35 ≠ b53 := Nat.ne_of_lt (Nat.lt_of_lt_of_le E_b35.lt (Nat.le_of_eq g53.symm))
  have ne_b41_b53 : b41 ≠ b53 := Nat.ne_of_lt (Nat.lt_of_lt_of_le E_b41.lt (Nat.le_of_eq g53.symm))
  have ne_b47_b53 : b47 ≠ b53 := Nat.ne_of_lt (Nat.lt_of_lt_of_le E_b47.lt (Nat.le_of_eq g53.symm))
  have g_b53 : n0 ≤ b53 := Nat.le_trans Zs51 (Nat.le_of_eq g53.symm)
  have sz_b53 : h0.size ≤ b53 := Nat.le_trans Kp52.1 (Nat.le_of_eq g53.symm)
  have E_a0 := E_a0.ext E53
  have F_bytes := F_bytes.ext E53
  have F_nameStarts := F_nameStarts.ext E53
  have F_localNameStarts := F_localNameStarts.ext E53
  have F_nameEnds := F_nameEnds.ext E53
  have F_valueStarts := F_valueStarts.ext E53
  have F_valueEnds := F_valueEnds.ext E53
  have F_qNames := F_qNames.ext E53
  have F_localNames := F_localNames.ext E53
  have F_values := F_values.ext E53
  have F_told := F_told.ext E53
  have F_uris := F_uris.ext E53
  have F_added := F_added.ext E53
  have F_length := F_length.ext E53
  have E_b5 := E_b5.ext E53
  have V_b5 := V_b5.ext E53
  have E_b11 := E_b11.ext E53
  have V_b11 := V_b11.ext E53
  have E_b17 := E_b17.ext E53
  have V_b17 := V_b17.ext E53
  have E_b23 := E_b23.ext E53
  have V_b23 := V_b23.ext E53
  have E_b29 := E_b29.ext E53
  have V_b29 := V_b29.ext E53
  have E_b35 := E_b35.ext E53
  have V_b35 := V_b35.ext E53
  have E_b41 := E_b41.ext E53
  have V_b41 := V_b41.ext E53
  have E_b47 := E_b47.ext E53
  have V_b47 := V_b47.ext E53
  have Zs54 := Nat.le_trans Zs51 E53.1
  have Kp55 := Kp52.ext E53
  have V_b53 : Arv Z h53 b53 k53 .int (2 : Int32) [(.int 0), (.int 0)] (.int 0) := (Arv.new A53 (by decide)).pad (pad_rep [] (.int 0) 2)
  refine Go.st (S' := T53.setTop (mkF m 72 #[vr a0, vr a1, vi 2] [.ref b53, .ref a0])) st53 ?_
  obtain ⟨T56, h56, X56, e56, W56, st56⟩ := putF X53 hx hZ hown (host := "") (Or.inl (ow hw 46 rfl)) Via.refl e53 F_told E_a0 (Or.inr ⟨(ow hw 47 rfl), rfl, hnm⟩) (ow hw 18 rfl) (ty := (.array .int)) (by decide) rfl rfl (g := (mkF m 72 #[vr a0, vr a1, vi 2] [.ref b53, .ref a0])) rfl rfl (hb hby d5_72)
  have N56 := Fr.snoc X56 N50 g_a0
  have F_told := F_told.same W56
  have E_a0 := E_a0.wr W56
  have F_bytes := F_bytes.other W56 (Or.inr (slot_ne (Or.inr (ow hw 27 rfl)) (Or.inr (ow hw 47 rfl)) (by decide) (t := (.array .byte)) (t' := (.array .int)) (by decide) (by decide)))
  have F_nameStarts := F_nameStarts.other W56 (Or.inr (slot_ne (Or.inr (ow hw 29 rfl)) (Or.inr (ow hw 47 rfl)) (by decide) (t := (.array .int)) (t' := (.array .int)) (by decide) (by decide)))
  have F_localNameStarts := F_localNameStarts.other W56 (Or.inr (slot_ne (Or.inr (ow hw 31 rfl)) (Or.inr (ow hw 47 rfl)) (by decide) (t := (.array .int)) (t' := (.array .int)) (by decide) (by decide)))
  have F_nameEnds := F_nameEnds.other W56 (Or.inr (slot_ne (Or.inr (ow hw 33 rfl)) (Or.inr (ow hw 47 rfl)) (by decide) (t := (.array .int)) (t' := (.array .int)) (by decide) (by decide)))
  have F_valueStarts := F_valueStarts.other W56 (Or.inr (slot_ne (Or.inr (ow hw 35 rfl)) (Or.inr (ow hw 47 rfl)) (by decide) (t := (.array .int)) (t' := (.array .int)) (by decide) (by decide)))
  have F_valueEnds := F_valueEnds.other W56 (Or.inr (slot_ne (Or.inr (ow hw 37 rfl)) (Or.inr (ow hw 47 rfl)) (by decide) (t := (.array .int)) (t' := (.array .int)) (by decide) (by decide)))
  have F_qNames := F_qNames.other W56 (Or.inr (slot_ne (Or.inr (ow hw 41 rfl)) (Or.inr (ow hw 47 rfl)) (by decide) (t := (.array (.object "java/lang/String"))) (t' := (.array .int)) (by decide) (by decide)))
  have F_localNames := F_localNames.other W56 (Or.inr (slot_ne (Or.inr (ow hw 43 rfl)) (Or.inr (ow hw 47 rfl)) (by decide) (t := (.array (.object "java/lang/String"))) (t' := (.array .int)) (by decide) (by decide)))
  have F_values := F_values.other W56 (Or.inr (slot_ne (Or.inr (ow hw 45 rfl)) (Or.inr (ow hw 47 rfl)) (by decide) (t := (.array (.object "java/lang/String"))) (t' := (.array .int)) (by decide) (by decide)))
  have F_uris := F_uris.other W56 (Or.inr (slot_ne (Or.inr (ow hw 49 rfl)) (Or.inr (ow hw 47 rfl)) (by decide) (t := (.array (.object "java/lang/String"))) (t' := (.array .int)) (by decide) (by decide)))
  have F_added := F_added.other W56 (Or.inr (slot_ne (Or.inl (ow hw 56 rfl)) (Or.inr (ow hw 47 rfl)) (by decide) (t := .int) (t' := (.array .int)) (by decide) (by decide)))
  have F_length := F_length.other W56 (Or.inr (slot_ne (Or.inl (ow hw 70 rfl)) (Or.inr (ow hw 47 rfl)) (by decide) (t := .int) (t' := (.array .int)) (by decide) (by decide)))
  have E_b5 := E_b5.wr W56
  have V_b5 := V_b5.other W56 (Ne.symm ne_a0_b5)
  have E_b11 := E_b11.wr W56
  have V_b11 := V_b11.other W56 (Ne.symm ne_a0_b11)
  have E_b17 := E_b17.wr W56
  have V_b17 := V_b17.other W56 (Ne.symm ne_a0_b17)
  have E_b23 := E_b23.wr W56
  have V_b23 := V_b23.other W56 (Ne.symm ne_a0_b23)
  have E_b29 := E_b29.wr W56
  have V_b29 := V_b29.other W56 (Ne.symm ne_a0_b29)
  have E_b35 := E_b35.wr W56
  have V_b35 := V_b35.other W56 (Ne.symm ne_a0_b35)
  have E_b41 := E_b41.wr W56
  have V_b41 := V_b41.other W56 (Ne.symm ne_a0_b41)
  have E_b47 := E_b47.wr W56
  have V_b47 := V_b47.other W56 (Ne.symm ne_a0_b47)
  have E_b53 := E_b53.wr W56
  have V_b53 := V_b53.other W56 (Ne.symm ne_a0_b53)
  have Zs57 := Nat.le_trans Zs54 (Keep.of_wr W56).1
  have Kp58 := Kp55.wr W56 (Or.inl (List.mem_of_getElem? (i := 0) rfl))
  refine Go.st (S' := T56.setTop (mkF m 77 #[vr a0, vr a1, vi 2] [.int 2, .ref a0])) (fun _ kk => st56 _ (XS.aloadN X56.here hx rfl (hb hby d5_75) rfl rfl (XS.iloadN X56.here hx rfl (hb hby d5_76) rfl kk))) ?_
  obtain ⟨T59, h59, k59, X59, e59, E59, A59, E_b59, O59, st59⟩ := newRE X56 hx hZ hown (ow hw 38 rfl) (ow hw 39 rfl) e56 (g := (mkF m 77 #[vr a0, vr a1, vi 2] [.int 2, .ref a0])) rfl (hb hby d5_77) rfl (by decide) (cap := 2) (by decide) (by decide) (by decide : 9 + 1 ≤ _) (by decide : 18 + 2 ≤ _) (ad := "[Ljava/lang/String;") rfl
  obtain ⟨b59, g59⟩ : ∃ z, z = h56.size := ⟨_, rfl⟩
  rw [← g59] at A59 E_b59 st59
  have ne_a0_b59 : a0 ≠ b59 := Nat.ne_of_lt (Nat.lt_of_lt_of_le E_a0.lt (Nat.le_of_eq g59.symm))
  have ne_b5_b59 : b5 ≠ b59 := Nat.ne_of_lt (Nat.lt_of_lt_of_le E_b5.lt (Nat.le_of_eq g59.symm))
  have ne_b11_b59 : b11 ≠ b59 := Nat.ne_of_lt (Nat.lt_of_lt_of_le E_b11.lt (Nat.le_of_eq g59.symm))
  have ne_b17_b59 : b17 ≠ b59 := Nat.ne_of_lt (Nat.lt_of_lt_of_le E_b17.lt (Nat.le_of_eq g59.symm))
  have ne_b23_b59 : b23 ≠ b59 := Nat.ne_of_lt (Nat.lt_of_lt_of_le E_b23.lt (Nat.le_of_eq g59.symm))
  have ne_b29_b59 : b29 ≠ b59 := Nat.ne_of_lt (Nat.lt_of_lt_of_le E_b29.lt (Nat.le_of_eq g59.symm))
  have ne_b35_b59 : b35 ≠ b59 := Nat.ne_of_lt (Nat.lt_of_lt_of_le E_b35.lt (Nat.le_of_eq g59.symm))
  have ne_b41_b59 : b41 ≠ b59 := Nat.ne_of_lt (Nat.lt_of_lt_of_le E_b41.lt (Nat.le_of_eq g59.symm))
  have ne_b47_b59 : b47 ≠ b59 := Nat.ne_of_lt (Nat.lt_of_lt_of_le E_b47.lt (Nat.le_of_eq g59.symm))
  have ne_b53_b59 : b53 ≠ b59 := Nat.ne_of_lt (Nat.lt_of_lt_of_le E_b53.lt (Nat.le_of_eq g59.symm))
  have g_b59 : n0 ≤ b59 := Nat.le_trans Zs57 (Nat.le_of_eq g59.symm)
  have sz_b59 : h0.size ≤ b59 := Nat.le_trans Kp58.1 (Nat.le_of_eq g59.symm)
  have E_a0 := E_a0.ext E59
  have F_bytes := F_bytes.ext E59
  have F_nameStarts := F_nameStarts.ext E59
  have F_localNameStarts := F_localNameStarts.ext E59
  have F_nameEnds := F_nameEnds.ext E59
  have F_valueStarts := F_valueStarts.ext E59
  have F_valueEnds := F_valueEnds.ext E59
  have F_qNames := F_qNames.ext E59
  have F_localNames := F_localNames.ext E59
  have F_values := F_values.ext E59
  have F_told := F_told.ext E59
  have F_uris := F_uris.ext E59
  have F_added := F_added.ext E59
  have F_length := F_length.ext E59
  have E_b5 := E_b5.ext E59
  have V_b5 := V_b5.ext E59
  have E_b11 := E_b11.ext E59
  have V_b11 := V_b11.ext E59
  have E_b17 := E_b17.ext E59
  have V_b17 := V_b17.ext E59
  have E_b23 := E_b23.ext E59
  have V_b23 := V_b23.ext E59
  have E_b29 := E_b29.ext E59
  have V_b29 := V_b29.ext E59
  have E_b35 := E_b35.ext E59
  have V_b35 := V_b35.ext E59
  have E_b41 := E_b41.ext E59
  have V_b41 := V_b41.ext E59
  have E_b47 := E_b47.ext E59
  have V_b47 := V_b47.ext E59
  have E_b53 := E_b53.ext E59
  have V_b53 := V_b53.ext E59
  have Zs60 := Nat.le_trans Zs57 E59.1
  have Kp61 := Kp58.ext E59
  have V_b59 : Arv Z h59 b59 k59 (.object "java/lang/String") (2 : Int32) [.null, .null] .null := (Arv.new A59 (by decide)).pad (pad_rep [] .null 2)
  refine Go.st (S' := T59.setTop (mkF m 80 #[vr a0, vr a1, vi 2] [.ref b59, .ref a0])) st59 ?_
  obtain ⟨T62, h62, X62, e62, W62, st62⟩ := putF X59 hx hZ hown (host := "") (Or.inl (ow hw 48 rfl)) Via.refl e59 F_uris E_a0 (Or.inr ⟨(ow hw 49 rfl), rfl, hnm⟩) (ow hw 18 rfl) (ty := (.array (.object "java/lang/String"))) (by decide) rfl rfl (g := (mkF m 80 #[vr a0, vr a1, vi 2] [.ref b59, .ref a0])) rfl rfl (hb hby d5_80)
  have N62 := Fr.snoc X62 N56 g_a0
  have F_uris := F_uris.same W62
  have E_a0 := E_a0.wr W62
  have F_bytes := F_bytes.other W62 (Or.inr (slot_ne (Or.inr (ow hw 27 rfl)) (Or.inr (ow hw 49 rfl)) (by decide) (t := (.array .byte)) (t' := (.array (.object "java/lang/String"))) (by decide) (by decide)))
  have F_nameStarts := F_nameStarts.other W62 (Or.inr (slot_ne (Or.inr (ow hw 29 rfl)) (Or.inr (ow hw 49 rfl)) (by decide) (t := (.array .int)) (t' := (.array (.object "java/lang/String"))) (by decide) (by decide)))
  have F_localNameStarts := F_localNameStarts.other W62 (Or.inr (slot_ne (Or.inr (ow hw 31 rfl)) (Or.inr (ow hw 49 rfl)) (by decide) (t := (.array .int)) (t' := (.array (.object "java/lang/String"))) (by decide) (by decide)))
  have F_nameEnds := F_nameEnds.other W62 (Or.inr (slot_ne (Or.inr (ow hw 33 rfl)) (Or.inr (ow hw 49 rfl)) (by decide) (t := (.array .int)) (t' := (.array (.object "java/lang/String"))) (by decide) (by decide)))
  have F_valueStarts := F_valueStarts.other W62 (Or.inr (slot_ne (Or.inr (ow hw 35 rfl)) (Or.inr (ow hw 49 rfl)) (by decide) (t := (.array .int)) (t' := (.array (.object "java/lang/String"))) (by decide) (by decide)))
  have F_valueEnds := F_valueEnds.other W62 (Or.inr (slot_ne (Or.inr (ow hw 37 rfl)) (Or.inr (ow hw 49 rfl)) (by decide) (t := (.array .int)) (t' := (.array (.object "java/lang/String"))) (by decide) (by decide)))
  have F_qNames := F_qNames.other W62 (Or.inr (slot_ne (Or.inr (ow hw 41 rfl)) (Or.inr (ow hw 49 rfl)) (by decide) (t := (.array (.object "java/lang/String"))) (t' := (.array (.object "java/lang/String"))) (by decide) (by decide)))
  have F_localNames := F_localNames.other W62 (Or.inr (slot_ne (Or.inr (ow hw 43 rfl)) (Or.inr (ow hw 49 rfl)) (by decide) (t := (.array (.object "java/lang/String"))) (t' := (.array (.object "java/lang/String"))) (by decide) (by decide)))
  have F_values := F_values.other W62 (Or.inr (slot_ne (Or.inr (ow hw 45 rfl)) (Or.inr (ow hw 49 rfl)) (by decide) (t := (.array (.object "java/lang/String"))) (t' := (.array (.object "java/lang/String"))) (by decide) (by decide)))
  have F_told := F_told.other W62 (Or.inr (slot_ne (Or.inr (ow hw 47 rfl)) (Or.inr (ow hw 49 rfl)) (by decide) (t := (.array .int)) (t' := (.array (.object "java/lang/String"))) (by decide) (by decide)))
  have F_added := F_added.other W62 (Or.inr (slot_ne (Or.inl (ow hw 56 rfl)) (Or.inr (ow hw 49 rfl)) (by decide) (t := .int) (t' := (.array (.object "java/lang/String"))) (by decide) (by decide)))
  have F_length := F_length.other W62 (Or.inr (slot_ne (Or.inl (ow hw 70 rfl)) (Or.inr (ow hw 49 rfl)) (by decide) (t := .int) (t' := (.array (.object "java/lang/String"))) (by decide) (by decide)))
  have E_b5 := E_b5.wr W62
  have V_b5 := V_b5.other W62 (Ne.symm ne_a0_b5)
  have E_b11 := E_b11.wr W62
  have V_b11 := V_b11.other W62 (Ne.symm ne_a0_b11)
  have E_b17 := E_b17.wr W62
  have V_b17 := V_b17.other W62 (Ne.symm ne_a0_b17)
  have E_b23 := E_b23.wr W62
  have V_b23 := V_b23.other W62 (Ne.symm ne_a0_b23)
  have E_b29 := E_b29.wr W62
  have V_b29 := V_b29.other W62 (Ne.symm ne_a0_b29)
  have E_b35 := E_b35.wr W62
  have V_b35 := V_b35.other W62 (Ne.symm ne_a0_b35)
  have E_b41 := E_b41.wr W62
  have V_b41 := V_b41.other W62 (Ne.symm ne_a0_b41)
  have E_b47 := E_b47.wr W62
  have V_b47 := V_b47.other W62 (Ne.symm ne_a0_b47)
  have E_b53 := E_b53.wr W62
  have V_b53 := V_b53.other W62 (Ne.symm ne_a0_b53)
  have E_b59 := E_b59.wr W62
  have V_b59 := V_b59.other W62 (Ne.symm ne_a0_b59)
  have Zs63 := Nat.le_trans Zs60 (Keep.of_wr W62).1
  have Kp64 := Kp61.wr W62 (Or.inl (List.mem_of_getElem? (i := 0) rfl))
  refine Go.st (S' := T62.setTop (mkF m 83 #[vr a0, vr a1, vi 2] [])) st62 ?_
  exact Go.ret0 X62 hx hlk Bd.returns (hb hby d5_83) (by rw [e62]; exact ⟨b5, b11, b17, b23, b29, b35, b41, b47, b53, b59, _, _, _, _, _, _, _, _, _, _, rfl, N62, Kp64, ⟨_, _, _, _, _, _, _, _, _, _, _, E_a0, F_bytes, F_nameStarts, F_localNameStarts, F_nameEnds, F_valueStarts, F_valueEnds, F_qNames, F_localNames, F_values, F_told, F_uris, F_added, F_length, V_b5, V_b11, V_b17, V_b23, V_b29, V_b35, V_b41, V_b47, V_b53, V_b59, O35, O41, O47, O59⟩, (allS sz_b5 (allS sz_b11 (allS sz_b17 (allS sz_b23 (allS sz_b29 (allS sz_b35 (allS sz_b41 (allS sz_b47 (allS sz_b53 (allS sz_b59 all0)))))))))), (own_ndS (ninS ne_a0_b5 (ninS ne_a0_b11 (ninS ne_a0_b17 (ninS ne_a0_b23 (ninS ne_a0_b29 (ninS ne_a0_b35 (ninS ne_a0_b41 (ninS ne_a0_b47 (ninS ne_a0_b53 (ninS ne_a0_b59 nin0)))))))))) (own_ndS (ninS ne_b5_b11 (ninS ne_b5_b17 (ninS ne_b5_b23 (ninS ne_b5_b29 (ninS ne_b5_b35 (ninS ne_b5_b41 (ninS ne_b5_b47 (ninS ne_b5_b53 (ninS ne_b5_b59 nin0))))))))) (own_ndS (ninS ne_b11_b17 (ninS ne_b11_b23 (ninS ne_b11_b29 (ninS ne_b11_b35 (ninS ne_b11_b41 (ninS ne_b11_b47 (ninS ne_b11_b53 (ninS ne_b11_b59 nin0)))))))) (own_ndS (ninS ne_b17_b23 (ninS ne_b17_b29 (ninS ne_b17_b35 (ninS ne_b17_b41 (ninS ne_b17_b47 (ninS ne_b17_b53 (ninS ne_b17_b59 nin0))))))) (own_ndS (ninS ne_b23_b29 (ninS ne_b23_b35 (ninS ne_b23_b41 (ninS ne_b23_b47 (ninS ne_b23_b53 (ninS ne_b23_b59 nin0)))))) (own_ndS (ninS ne_b29_b35 (ninS ne_b29_b41 (ninS ne_b29_b47 (ninS ne_b29_b53 (ninS ne_b29_b59 nin0))))) (own_ndS (ninS ne_b35_b41 (ninS ne_b35_b47 (ninS ne_b35_b53 (ninS ne_b35_b59 nin0)))) (own_ndS (ninS ne_b41_b47 (ninS ne_b41_b53 (ninS ne_b41_b59 nin0))) (own_ndS (ninS ne_b47_b53 (ninS ne_b47_b59 nin0)) (own_ndS (ninS ne_b53_b59 nin0) (own_ndS nin0 List.nodup_nil)))))))))))⟩) (by decide) (by decide)
def Q_ad0 (Z : State) (a0 : Addr) (bb r_1 r_2 r_3 r_4 r_5 r_6 r_7 r_8 r_9 r_10 : Addr) (kr_1 kr_2 kr_3 kr_4 kr_5 kr_6 kr_7 kr_8 kr_9 kr_10 : ClassId) (ln x_1 x_2 x_3 x_4 x_5 : Int32) (c_1 c_2 c_3 : Value) (t : Int32) (p1 p2 p3 p4 p5 : Int32) (h0 : Heap) (n0 : Nat) (v : Option Value) (h : Heap) (L : List Loc) : Prop := v = some (.int 0) ∧ Fr n0 L ∧ Keep h0 h [a0, r_1, r_2, r_3, r_4, r_5, r_6, r_7, r_8, r_9, r_10] ∧ PAt Z h a0 bb r_1 r_2 r_3 r_4 r_5 r_6 r_7 r_8 r_9 r_10 kr_1 kr_2 kr_3 kr_4 kr_5 kr_6 kr_7 kr_8 kr_9 kr_10 1 ln p1 p2 p3 p4 p5 .null .null .null t
theorem d7_0 : decode prog_21_method_3_code 0 = .ok (.aload_n 0, 1) := by decide +kernel
theorem d7_1 : decode prog_21_method_3_code 1 = .ok (.getfield 13, 3) := by decide +kernel
theorem d7_4 : decode prog_21_method_3_code 4 = .ok (.aload_n 0, 1) := by decide +kernel
theorem d7_5 : decode prog_21_method_3_code 5 = .ok (.getfield 47, 3) := by decide +kernel
theorem d7_8 : decode prog_21_method_3_code 8 = .ok (.iload_n 1, 1) := by decide +kernel
theorem d7_9 : decode prog_21_method_3_code 9 = .ok (.iastore, 1) := by decide +kernel
theorem d7_10 : decode prog_21_method_3_code 10 = .ok (.aload_n 0, 1) := by decide +kernel
theorem d7_11 : decode prog_21_method_3_code 11 = .ok (.getfield 17, 3) := by decide +kernel
theorem d7_14 : decode prog_21_method_3_code 14 = .ok (.aload_n 0, 1) := by decide +kernel
theorem d7_15 : decode prog_21_method_3_code 15 = .ok (.getfield 47, 3) := by decide +kernel
theorem d7_18 : decode prog_21_method_3_code 18 = .ok (.iload_n 2, 1) := by decide +kernel
theorem d7_19 : decode prog_21_method_3_code 19 = .ok (.iastore, 1) := by decide +kernel
theorem d7_20 : decode prog_21_method_3_code 20 = .ok (.aload_n 0, 1) := by decide +kernel
theorem d7_21 : decode prog_21_method_3_code 21 = .ok (.getfield 20, 3) := by decide +kernel
theorem d7_24 : decode prog_21_method_3_code 24 = .ok (.aload_n 0, 1) := by decide +kernel
theorem d7_25 : decode prog_21_method_3_code 25 = .ok (.getfield 47, 3) := by decide +kernel
theorem d7_28 : decode prog_21_method_3_code 28 = .ok (.iload_n 3, 1) := by decide +kernel
theorem d7_29 : decode prog_21_method_3_code 29 = .ok (.iastore, 1) := by decide +kernel
theorem d7_30 : decode prog_21_method_3_code 30 = .ok (.aload_n 0, 1) := by decide +kernel
theorem d7_31 : decode prog_21_method_3_code 31 = .ok (.getfield 23, 3) := by decide +kernel
theorem d7_34 : decode prog_21_method_3_code 34 = .ok (.aload_n 0, 1) := by decide +kernel
theorem d7_35 : decode prog_21_method_3_code 35 = .ok (.getfield 47, 3) := by decide +kernel
theorem d7_38 : decode prog_21_method_3_code 38 = .ok (.iload 4, 2) := by decide +kernel
theorem d7_40 : decode prog_21_method_3_code 40 = .ok (.iastore, 1) := by decide +kernel
theorem d7_41 : decode prog_21_method_3_code 41 = .ok (.aload_n 0, 1) := by decide +kernel
theorem d7_42 : decode prog_21_method_3_code 42 = .ok (.getfield 26, 3) := by decide +kernel
theorem d7_45 : decode prog_21_method_3_code 45 = .ok (.aload_n 0, 1) := by decide +kernel
theorem d7_46 : decode prog_21_method_3_code 46 = .ok (.getfield 47, 3) := by decide +kernel
theorem d7_49 : decode prog_21_method_3_code 49 = .ok (.iload 5, 2) := by decide +kernel
theorem d7_51 : decode prog_21_method_3_code 51 = .ok (.iastore, 1) := by decide +kernel
theorem d7_52 : decode prog_21_method_3_code 52 = .ok (.aload_n 0, 1) := by decide +kernel
theorem d7_53 : decode prog_21_method_3_code 53 = .ok (.getfield 31, 3) := by decide +kernel
theorem d7_56 : decode prog_21_method_3_code 56 = .ok (.aload_n 0, 1) := by decide +kernel
theorem d7_57 : decode prog_21_method_3_code 57 = .ok (.getfield 47, 3) := by decide +kernel
theorem d7_60 : decode prog_21_method_3_code 60 = .ok (.aconst_null, 1) := by decide +kernel
theorem d7_61 : decode prog_21_method_3_code 61 = .ok (.aastore, 1) := by decide +kernel
theorem d7_62 : decode prog_21_method_3_code 62 = .ok (.aload_n 0, 1) := by decide +kernel
theorem d7_63 : decode prog_21_method_3_code 63 = .ok (.getfield 35, 3) := by decide +kernel
theorem d7_66 : decode prog_21_method_3_code 66 = .ok (.aload_n 0, 1) := by decide +kernel
theorem d7_67 : decode prog_21_method_3_code 67 = .ok (.getfield 47, 3) := by decide +kernel
theorem d7_70 : decode prog_21_method_3_code 70 = .ok (.aconst_null, 1) := by decide +kernel
theorem d7_71 : decode prog_21_method_3_code 71 = .ok (.aastore, 1) := by decide +kernel
theorem d7_72 : decode prog_21_method_3_code 72 = .ok (.aload_n 0, 1) := by decide +kernel
theorem d7_73 : decode prog_21_method_3_code 73 = .ok (.getfield 38, 3) := by decide +kernel
theorem d7_76 : decode prog_21_method_3_code 76 = .ok (.aload_n 0, 1) := by decide +kernel
theorem d7_77 : decode prog_21_method_3_code 77 = .ok (.getfield 47, 3) := by decide +kernel
theorem d7_80 : decode prog_21_method_3_code 80 = .ok (.aconst_null, 1) := by decide +kernel
theorem d7_81 : decode prog_21_method_3_code 81 = .ok (.aastore, 1) := by decide +kernel
theorem d7_82 : decode prog_21_method_3_code 82 = .ok (.aload_n 0, 1) := by decide +kernel
theorem d7_83 : decode prog_21_method_3_code 83 = .ok (.dup, 1) := by decide +kernel
theorem d7_84 : decode prog_21_method_3_code 84 = .ok (.getfield 47, 3) := by decide +kernel
theorem d7_87 : decode prog_21_method_3_code 87 = .ok (.dup_x1, 1) := by decide +kernel
theorem d7_88 : decode prog_21_method_3_code 88 = .ok (.iconst 1, 1) := by decide +kernel
theorem d7_89 : decode prog_21_method_3_code 89 = .ok (.iadd, 1) := by decide +kernel
theorem d7_90 : decode prog_21_method_3_code 90 = .ok (.putfield 47, 3) := by decide +kernel
theorem d7_93 : decode prog_21_method_3_code 93 = .ok (.ireturn, 1) := by decide +kernel
theorem ef_7 (m : MethodId) (a0 : Addr) (p1 : Int32) (p2 : Int32) (p3 : Int32) (p4 : Int32) (p5 : Int32) : entryFrame m #[(.ref a0), (.int p1), (.int p2), (.int p3), (.int p4), (.int p5)] 6 = mkF m 0 #[.val (.ref a0), .val (.int p1), .val (.int p2), .val (.int p3), .val (.int p4), .val (.int p5)] [] := by first | (simp [entryFrame, mkF, argsToLocals, Value.category]; done) | rfl
theorem rmAd0 (l : Launch) (Z : State) (az : Array Value) (hw : HW az Z) (ws : List Jvm.Cond) (a0 : Addr) (p1 : Int32) (p2 : Int32) (p3 : Int32) (p4 : Int32) (p5 : Int32) (bb r_1 r_2 r_3 r_4 r_5 r_6 r_7 r_8 r_9 r_10 : Addr) (kr_1 kr_2 kr_3 kr_4 kr_5 kr_6 kr_7 kr_8 kr_9 kr_10 : ClassId) (ln x_1 x_2 x_3 x_4 x_5 : Int32) (c_1 c_2 c_3 : Value) (t : Int32) (h0 : Heap) (n0 : Nat) (Z0 : n0 ≤ h0.size) (PA : PAt Z h0 a0 bb r_1 r_2 r_3 r_4 r_5 r_6 r_7 r_8 r_9 r_10 kr_1 kr_2 kr_3 kr_4 kr_5 kr_6 kr_7 kr_8 kr_9 kr_10 0 ln x_1 x_2 x_3 x_4 x_5 c_1 c_2 c_3 t) (hnd : [a0, r_1, r_2, r_3, r_4, r_5, r_6, r_7, r_8, r_9, r_10].Nodup) (hg : ∀ x ∈ [a0, r_1, r_2, r_3, r_4, r_5, r_6, r_7, r_8, r_9, r_10], n0 ≤ x) :
    MF l mN1 (Jvm.Cond.code mN1 prog_21_method_3_code 6 (some .int) :: ws) (rO 0 0 0 0) #[(.ref a0), (.int p1), (.int p2), (.int p3), (.int p4), (.int p5)] Z h0 (Q_ad0 Z a0 bb r_1 r_2 r_3 r_4 r_5 r_6 r_7 r_8 r_9 r_10 kr_1 kr_2 kr_3 kr_4 kr_5 kr_6 kr_7 kr_8 kr_9 kr_10 ln x_1 x_2 x_3 x_4 x_5 c_1 c_2 c_3 t p1 p2 p3 p4 p5 h0 n0) := by
  refine MetFree.of_bodySF (plainFor_of_name pn_7) hisR ?_
  intro p e s m args below meth c s₁ Bd hml0 hP hK
  obtain ⟨rfl, hZ, hh⟩ := hP
  have hx := Bd.exec
  have hby := Bd.bytes
  have hlk : meth.locks = false := Bd.notSynchronized
  have hml : c.maxLocals = 6 := hml0
  have hown : s.vm.findClass "com/example/grantbook/grantbook/licence/PlainAttributes" = some m.cls := findClass_of_methodNamed Bd.named
  have X0 : Stand p l e (rO 0 0 0 0) s m #[(.ref a0), (.int p1), (.int p2), (.int p3), (.int p4), (.int p5)] below meth c s₁ [] 0 0 := Stand.of_body Bd
  have e0 : s₁.heap = h0 := by rw [← hh, Bd.state]; rfl
  have N0 := Fr.nil n0
  show Go p e below s ((Q_ad0 Z a0 bb r_1 r_2 r_3 r_4 r_5 r_6 r_7 r_8 r_9 r_10 kr_1 kr_2 kr_3 kr_4 kr_5 kr_6 kr_7 kr_8 kr_9 kr_10 ln x_1 x_2 x_3 x_4 x_5 c_1 c_2 c_3 t p1 p2 p3 p4 p5 h0 n0)) (rO 0 0 0 0).cells (rO 0 0 0 0).slots (s₁.setTop (entryFrame m #[(.ref a0), (.int p1), (.int p2), (.int p3), (.int p4), (.int p5)] 6))
  rw [ef_7 m a0 p1 p2 p3 p4 p5]
  obtain ⟨y_1, y_2, y_3, y_4, y_5, t_1, d_1, d_2, d_3, u_0, u_1, E_a0, F_bytes, F_nameStarts, F_localNameStarts, F_nameEnds, F_valueStarts, F_valueEnds, F_qNames, F_localNames, F_values, F_told, F_uris, F_added, F_length, V_r_1, V_r_2, V_r_3, V_r_4, V_r_5, V_r_6, V_r_7, V_r_8, V_r_9, V_r_10, O_6, O_7, O_8, O_10⟩ := PA
  have g_a0 : n0 ≤ a0 := hg _ (List.mem_of_getElem? (i := 0) rfl)
  have g_r_1 : n0 ≤ r_1 := hg _ (List.mem_of_getElem? (i := 1) rfl)
  have g_r_2 : n0 ≤ r_2 := hg _ (List.mem_of_getElem? (i := 2) rfl)
  have g_r_3 : n0 ≤ r_3 := hg _ (List.mem_of_getElem? (i := 3) rfl)
  have g_r_4 : n0 ≤ r_4 := hg _ (List.mem_of_getElem? (i := 4) rfl)
  have g_r_5 : n0 ≤ r_5 := hg _ (List.mem_of_getElem? (i := 5) rfl)
  have g_r_6 : n0 ≤ r_6 := hg _ (List.mem_of_getElem? (i := 6) rfl)
  have g_r_7 : n0 ≤ r_7 := hg _ (List.mem_of_getElem? (i := 7) rfl)
  have g_r_8 : n0 ≤ r_8 := hg _ (List.mem_of_getElem? (i := 8) rfl)
  have g_r_9 : n0 ≤ r_9 := hg _ (List.mem_of_getElem? (i := 9) rfl)
  have g_r_10 : n0 ≤ r_10 := hg _ (List.mem_of_getElem? (i := 10) rfl)
  refine Go.st (S' := s₁.setTop (mkF m 1 #[vr a0, vi p1, vi p2, vi p3, vi p4, vi p5] [.ref a0])) (fun _ kk => XS.aloadN X0.here hx rfl (hb hby d7_0) rfl rfl kk) ?_
  obtain ⟨T1, X1, e1, st1⟩ := getF X0 hx hZ hown (host := "") (Or.inl (ow hw 28 rfl)) Via.refl e0 F_nameStarts (g := (mkF m 1 #[vr a0, vi p1, vi p2, vi p3, vi p4, vi p5] [.ref a0])) rfl rfl (hb hby d7_1)
  refine Go.st (S' := T1.setTop (mkF m 5 #[vr a0, vi p1, vi p2, vi p3, vi p4, vi p5] [.ref a0, .ref r_1])) (fun _ kk => st1 _ (XS.aloadN X1.here hx rfl (hb hby d7_4) rfl rfl kk)) ?_
  obtain ⟨T2, X2, e2, st2⟩ := getF X1 hx hZ hown (host := "") (Or.inl (ow hw 55 rfl)) Via.refl e1 F_added (g := (mkF m 5 #[vr a0, vi p1, vi p2, vi p3, vi p4, vi p5] [.ref a0, .ref r_1])) rfl rfl (hb hby d7_5)
  refine Go.st (S' := T2.setTop (mkF m 9 #[vr a0, vi p1, vi p2, vi p3, vi p4, vi p5] [.int p1, .int 0, .ref r_1])) (fun _ kk => st2 _ (XS.iloadN X2.here hx rfl (hb hby d7_8) rfl kk)) ?_
  obtain ⟨cl3, Ar3, qk3, S3, Ng3, H3, G3⟩ := (id V_r_1)
  have hin3 : ¬ ((0 : Int32) < 0 ∨ cl3.slots.size ≤ ((0 : Int32)).toNatClampNeg) := inb_of S3 ⟨by decide, by decide⟩
  obtain ⟨T3, h3, X3, e3, W3, st3⟩ := stI X2 hx hZ e2 Ar3 (j := (0 : Int32)) hin3 (g := (mkF m 9 #[vr a0, vi p1, vi p2, vi p3, vi p4, vi p5] [.int p1, .int 0, .ref r_1])) rfl rfl (hb hby d7_9)
  have V_r_1 : Arv Z h3 r_1 kr_1 .int (2 : Int32) [(.int p1), (.int y_1)] (.int 0) := Arv.set Ar3 qk3 S3 Ng3 H3 G3 rfl W3 0 rfl (Nat.le_of_ble_eq_true rfl)
  have N3 := Fr.snoc X3 N0 g_r_1
  have E_a0 := E_a0.wr W3
  have F_bytes := F_bytes.other W3 (Or.inl (own_ndi hnd 0 1 rfl rfl (by decide)))
  have F_nameStarts := F_nameStarts.other W3 (Or.inl (own_ndi hnd 0 1 rfl rfl (by decide)))
  have F_localNameStarts := F_localNameStarts.other W3 (Or.inl (own_ndi hnd 0 1 rfl rfl (by decide)))
  have F_nameEnds := F_nameEnds.other W3 (Or.inl (own_ndi hnd 0 1 rfl rfl (by decide)))
  have F_valueStarts := F_valueStarts.other W3 (Or.inl (own_ndi hnd 0 1 rfl rfl (by decide)))
  have F_valueEnds := F_valueEnds.other W3 (Or.inl (own_ndi hnd 0 1 rfl rfl (by decide)))
  have F_qNames := F_qNames.other W3 (Or.inl (own_ndi hnd 0 1 rfl rfl (by decide)))
  have F_localNames := F_localNames.other W3 (Or.inl (own_ndi hnd 0 1 rfl rfl (by decide)))
  have F_values := F_values.other W3 (Or.inl (own_ndi hnd 0 1 rfl rfl (by decide)))
  have F_told := F_told.other W3 (Or.inl (own_ndi hnd 0 1 rfl rfl (by decide)))
  have F_uris := F_uris.other W3 (Or.inl (own_ndi hnd 0 1 rfl rfl (by decide)))
  have F_added := F_added.other W3 (Or.inl (own_ndi hnd 0 1 rfl rfl (by decide)))
  have F_length := F_length.other W3 (Or.inl (own_ndi hnd 0 1 rfl rfl (by decide)))
  have V_r_2 := V_r_2.other W3 (Ne.symm (own_ndi hnd 1 2 rfl rfl (by decide)))
  have V_r_3 := V_r_3.other W3 (Ne.symm (own_ndi hnd 1 3 rfl rfl (by decide)))
  have V_r_4 := V_r_4.other W3 (Ne.symm (own_ndi hnd 1 4 rfl rfl (by decide)))
  have V_r_5 := V_r_5.other W3 (Ne.symm (own_ndi hnd 1 5 rfl rfl (by decide)))
  have V_r_6 := V_r_6.other W3 (Ne.symm (own_ndi hnd 1 6 rfl rfl (by decide)))
  have V_r_7 := V_r_7.other W3 (Ne.symm (own_ndi hnd 1 7 rfl rfl (by decide)))
  have V_r_8 := V_r_8.other W3 (Ne.symm (own_ndi hnd 1 8 rfl rfl (by decide)))
  have V_r_9 := V_r_9.other W3 (Ne.symm (own_ndi hnd 1 9 rfl rfl (by decide)))
  have V_r_10 := V_r_10.other W3 (Ne.symm (own_ndi hnd 1 10 rfl rfl (by decide)))
  have Zs4 := Nat.le_trans Z0 (Keep.of_wr W3).1
  have Kp5 := (Keep.refl h0 [a0, r_1, r_2, r_3, r_4, r_5, r_6, r_7, r_8, r_9, r_10]).wr W3 (Or.inl (List.mem_of_getElem? (i := 1) rfl))
  refine Go.st (S' := T3.setTop (mkF m 11 #[vr a0, vi p1, vi p2, vi p3, vi p4, vi p5] [.ref a0])) (fun _ kk => st3 _ (XS.aloadN X3.here hx rfl (hb hby d7_10) rfl rfl kk)) ?_
  obtain ⟨T6, X6, e6, st6⟩ := getF X3 hx hZ hown (host := "") (Or.inl (ow hw 30 rfl)) Via.refl e3 F_localNameStarts (g := (mkF m 11 #[vr a0, vi p1, vi p2, vi p3, vi p4, vi p5] [.ref a0])) rfl rfl (hb hby d7_11)
  refine Go.st (S' := T6.setTop (mkF m 15 #[vr a0, vi p1, vi p2, vi p3, vi p4, vi p5] [.ref a0, .ref r_2])) (fun _ kk => st6 _ (XS.aloadN X6.here hx rfl (hb hby d7_14) rfl rfl kk)) ?_
  obtain ⟨T7, X7, e7, st7⟩ := getF X6 hx hZ hown (host := "") (Or.inl (ow hw 55 rfl)) Via.refl e6 F_added (g := (mkF m 15 #[vr a0, vi p1, vi p2, vi p3, vi p4, vi p5] [.ref a0, .ref r_2])) rfl rfl (hb hby d7_15)
  refine Go.st (S' := T7.setTop (mkF m 19 #[vr a0, vi p1, vi p2, vi p3, vi p4, vi p5] [.int p2, .int 0, .ref r_2])) (fun _ kk => st7 _ (XS.iloadN X7.here hx rfl (hb hby d7_18) rfl kk)) ?_
  obtain ⟨cl8, Ar8, qk8, S8, Ng8, H8, G8⟩ := (id V_r_2)
  have hin8 : ¬ ((0 : Int32) < 0 ∨ cl8.slots.size ≤ ((0 : Int32)).toNatClampNeg) := inb_of S8 ⟨by decide, by decide⟩
  obtain ⟨T8, h8, X8, e8, W8, st8⟩ := stI X7 hx hZ e7 Ar8 (j := (0 : Int32)) hin8 (g := (mkF m 19 #[vr a0, vi p1, vi p2, vi p3, vi p4, vi p5] [.int p2, .int 0, .ref r_2])) rfl rfl (hb hby d7_19)
  have V_r_2 : Arv Z h8 r_2 kr_2 .int (2 : Int32) [(.int p2), (.int y_2)] (.int 0) := Arv.set Ar8 qk8 S8 Ng8 H8 G8 rfl W8 0 rfl (Nat.le_of_ble_eq_true rfl)
  have N8 := Fr.snoc X8 N3 g_r_2
  have E_a0 := E_a0.wr W8
  have F_bytes := F_bytes.other W8 (Or.inl (own_ndi hnd 0 2 rfl rfl (by decide)))
  have F_nameStarts := F_nameStarts.other W8 (Or.inl (own_ndi hnd 0 2 rfl rfl (by decide)))
  have F_localNameStarts := F_localNameStarts.other W8 (Or.inl (own_ndi hnd 0 2 rfl rfl (by decide)))
  have F_nameEnds := F_nameEnds.other W8 (Or.inl (own_ndi hnd 0 2 rfl rfl (by decide)))
  have F_valueStarts := F_valueStarts.other W8 (Or.inl (own_ndi hnd 0 2 rfl rfl (by decide)))
  have F_valueEnds := F_valueEnds.other W8 (Or.inl (own_ndi hnd 0 2 rfl rfl (by decide)))
  have F_qNames := F_qNames.other W8 (Or.inl (own_ndi hnd 0 2 rfl rfl (by decide)))
  have F_localNames := F_localNames.other W8 (Or.inl (own_ndi hnd 0 2 rfl rfl (by decide)))
  have F_values := F_values.other W8 (Or.inl (own_ndi hnd 0 2 rfl rfl (by decide)))
  have F_told := F_told.other W8 (Or.inl (own_ndi hnd 0 2 rfl rfl (by decide)))
  have F_uris := F_uris.other W8 (Or.inl (own_ndi hnd 0 2 rfl rfl (by decide)))
  have F_added := F_added.other W8 (Or.inl (own_ndi hnd 0 2 rfl rfl (by decide)))
  have F_length := F_length.other W8 (Or.inl (own_ndi hnd 0 2 rfl rfl (by decide)))
  have V_r_1 := V_r_1.other W8 (own_ndi hnd 1 2 rfl rfl (by decide))
  have V_r_3 := V_r_3.other W8 (Ne.symm (own_ndi hnd 2 3 rfl rfl (by decide)))
  have V_r_4 := V_r_4.other W8 (Ne.symm (own_ndi hnd 2 4 rfl rfl (by decide)))
  have V_r_5 := V_r_5.other W8 (Ne.symm (own_ndi hnd 2 5 rfl rfl (by decide)))
  have V_r_6 := V_r_6.other W8 (Ne.symm (own_ndi hnd 2 6 rfl rfl (by decide)))
  have V_r_7 := V_r_7.other W8 (Ne.symm (own_ndi hnd 2 7 rfl rfl (by decide)))
  have V_r_8 := V_r_8.other W8 (Ne.symm (own_ndi hnd 2 8 rfl rfl (by decide)))
  have V_r_9 := V_r_9.other W8 (Ne.symm (own_ndi hnd 2 9 rfl rfl (by decide)))
  have V_r_10 := V_r_10.other W8 (Ne.symm (own_ndi hnd 2 10 rfl rfl (by decide)))
  have Zs9 := Nat.le_trans Zs4 (Keep.of_wr W8).1
  have Kp10 := Kp5.wr W8 (Or.inl (List.mem_of_getElem? (i := 2) rfl))
  refine Go.st (S' := T8.setTop (mkF m 21 #[vr a0, vi p1, vi p2, vi p3, vi p4, vi p5] [.ref a0])) (fun _ kk => st8 _ (XS.aloadN X8.here hx rfl (hb hby d7_20) rfl rfl kk)) ?_
  obtain ⟨T11, X11, e11, st11⟩ := getF X8 hx hZ hown (host := "") (Or.inl (ow hw 32 rfl)) Via.refl e8 F_nameEnds (g := (mkF m 21 #[vr a0, vi p1, vi p2, vi p3, vi p4, vi p5] [.ref a0])) rfl rfl (hb hby d7_21)
  refine Go.st (S' := T11.setTop (mkF m 25 #[vr a0, vi p1, vi p2, vi p3, vi p4, vi p5] [.ref a0, .ref r_3])) (fun _ kk => st11 _ (XS.aloadN X11.here hx rfl (hb hby d7_24) rfl rfl kk)) ?_
  obtain ⟨T12, X12, e12, st12⟩ := getF X11 hx hZ hown (host := "") (Or.inl (ow hw 55 rfl)) Via.refl e11 F_added (g := (mkF m 25 #[vr a0, vi p1, vi p2, vi p3, vi p4, vi p5] [.ref a0, .ref r_3])) rfl rfl (hb hby d7_25)
  refine Go.st (S' := T12.setTop (mkF m 29 #[vr a0, vi p1, vi p2, vi p3, vi p4, vi p5] [.int p3, .int 0, .ref r_3])) (fun _ kk => st12 _ (XS.iloadN X12.here hx rfl (hb hby d7_28) rfl kk)) ?_
  obtain ⟨cl13, Ar13, qk13, S13, Ng13, H13, G13⟩ := (id V_r_3)
  have hin13 : ¬ ((0 : Int32) < 0 ∨ cl13.slots.size ≤ ((0 : Int32)).toNatClampNeg) := inb_of S13 ⟨by decide, by decide⟩
  obtain ⟨T13, h13, X13, e13, W13, st13⟩ := stI X12 hx hZ e12 Ar13 (j := (0 : Int32)) hin13 (g := (mkF m 29 #[vr a0, vi p1, vi p2, vi p3, vi p4, vi p5] [.int p3, .int 0, .ref r_3])) rfl rfl (hb hby d7_29)
  have V_r_3 : Arv Z h13 r_3 kr_3 .int (2 : Int32) [(.int p3), (.int y_3)] (.int 0) := Arv.set Ar13 qk13 S13 Ng13 H13 G13 rfl W13 0 rfl (Nat.le_of_ble_eq_true rfl)
  have N13 := Fr.snoc X13 N8 g_r_3
  have E_a0 := E_a0.wr W13
  have F_bytes := F_bytes.other W13 (Or.inl (own_ndi hnd 0 3 rfl rfl (by decide)))
  have F_nameStarts := F_nameStarts.other W13 (Or.inl (own_ndi hnd 0 3 rfl rfl (by decide)))
  have F_localNameStarts := F_localNameStarts.other W13 (Or.inl (own_ndi hnd 0 3 rfl rfl (by decide)))
  have F_nameEnds := F_nameEnds.other W13 (Or.inl (own_ndi hnd 0 3 rfl rfl (by decide)))
  have F_valueStarts := F_valueStarts.other W13 (Or.inl (own_ndi hnd 0 3 rfl rfl (by decide)))
  have F_valueEnds := F_valueEnds.other W13 (Or.inl (own_ndi hnd 0 3 rfl rfl (by decide)))
  have F_qNames := F_qNames.other W13 (Or.inl (own_ndi hnd 0 3 rfl rfl (by decide)))
  have F_localNames := F_localNames.other W13 (Or.inl (own_ndi hnd 0 3 rfl rfl (by decide)))
  have F_values := F_values.other W13 (Or.inl (own_ndi hnd 0 3 rfl rfl (by decide)))
  have F_told := F_told.other W13 (Or.inl (own_ndi hnd 0 3 rfl rfl (by decide)))
  have F_uris := F_uris.other W13 (Or.inl (own_ndi hnd 0 3 rfl rfl (by decide)))
  have F_added := F_added.other W13 (Or.inl (own_ndi hnd 0 3 rfl rfl (by decide)))
  have F_length := F_length.other W13 (Or.inl (own_ndi hnd 0 3 rfl rfl (by decide)))
  have V_r_1 := V_r_1.other W13 (own_ndi hnd 1 3 rfl rfl (by decide))
  have V_r_2 := V_r_2.other W13 (own_ndi hnd 2 3 rfl rfl (by decide))
  have V_r_4 := V_r_4.other W13 (Ne.symm (own_ndi hnd 3 4 rfl rfl (by decide)))
  have V_r_5 := V_r_5.other W13 (Ne.symm (own_ndi hnd 3 5 rfl rfl (by decide)))
  have V_r_6 := V_r_6.other W13 (Ne.symm (own_ndi hnd 3 6 rfl rfl (by decide)))
  have V_r_7 := V_r_7.other W13 (Ne.symm (own_ndi hnd 3 7 rfl rfl (by decide)))
  have V_r_8 := V_r_8.other W13 (Ne.symm (own_ndi hnd 3 8 rfl rfl (by decide)))
  have V_r_9 := V_r_9.other W13 (Ne.symm (own_ndi hnd 3 9 rfl rfl (by decide)))
  have V_r_10 := V_r_10.other W13 (Ne.symm (own_ndi hnd 3 10 rfl rfl (by decide)))
  have Zs14 := Nat.le_trans Zs9 (Keep.of_wr W13).1
  have Kp15 := Kp10.wr W13 (Or.inl (List.mem_of_getElem? (i := 3) rfl))
  refine Go.st (S' := T13.setTop (mkF m 31 #[vr a0, vi p1, vi p2, vi p3, vi p4, vi p5] [.ref a0])) (fun _ kk => st13 _ (XS.aloadN X13.here hx rfl (hb hby d7_30) rfl rfl kk)) ?_
  obtain ⟨T16, X16, e16, st16⟩ := getF X13 hx hZ hown (host := "") (Or.inl (ow hw 34 rfl)) Via.refl e13 F_valueStarts (g := (mkF m 31 #[vr a0, vi p1, vi p2, vi p3, vi p4, vi p5] [.ref a0])) rfl rfl (hb hby d7_31)
  refine Go.st (S' := T16.setTop (mkF m 35 #[vr a0, vi p1, vi p2, vi p3, vi p4, vi p5] [.ref a0, .ref r_4])) (fun _ kk => st16 _ (XS.aloadN X16.here hx rfl (hb hby d7_34) rfl rfl kk)) ?_
  obtain ⟨T17, X17, e17, st17⟩ := getF X16 hx hZ hown (host := "") (Or.inl (ow hw 55 rfl)) Via.refl e16 F_added (g := (mkF m 35 #[vr a0, vi p1, vi p2, vi p3, vi p4, vi p5] [.ref a0, .ref r_4])) rfl rfl (hb hby d7_35)
  refine Go.st (S' := T17.setTop (mkF m 40 #[vr a0, vi p1, vi p2, vi p3, vi p4, vi p5] [.int p4, .int 0, .ref r_4])) (fun _ kk => st17 _ (XS.iload X17.here hx rfl (hb hby d7_38) rfl kk)) ?_
  obtain ⟨cl18, Ar18, qk18, S18, Ng18, H18, G18⟩ := (id V_r_4)
  have hin18 : ¬ ((0 : Int32) < 0 ∨ cl18.slots.size ≤ ((0 : Int32)).toNatClampNeg) := inb_of S18 ⟨by decide, by decide⟩
  obtain ⟨T18, h18, X18, e18, W18, st18⟩ := stI X17 hx hZ e17 Ar18 (j := (0 : Int32)) hin18 (g := (mkF m 40 #[vr a0, vi p1, vi p2, vi p3, vi p4, vi p5] [.int p4, .int 0, .ref r_4])) rfl rfl (hb hby d7_40)
  have V_r_4 : Arv Z h18 r_4 kr_4 .int (2 : Int32) [(.int p4), (.int y_4)] (.int 0) := Arv.set Ar18 qk18 S18 Ng18 H18 G18 rfl W18 0 rfl (Nat.le_of_ble_eq_true rfl)
  have N18 := Fr.snoc X18 N13 g_r_4
  have E_a0 := E_a0.wr W18
  have F_bytes := F_bytes.other W18 (Or.inl (own_ndi hnd 0 4 rfl rfl (by decide)))
  have F_nameStarts := F_nameStarts.other W18 (Or.inl (own_ndi hnd 0 4 rfl rfl (by decide)))
  have F_localNameStarts := F_localNameStarts.other W18 (Or.inl (own_ndi hnd 0 4 rfl rfl (by decide)))
  have F_nameEnds := F_nameEnds.other W18 (Or.inl (own_ndi hnd 0 4 rfl rfl (by decide)))
  have F_valueStarts := F_valueStarts.other W18 (Or.inl (own_ndi hnd 0 4 rfl rfl (by decide)))
  have F_valueEnds := F_valueEnds.other W18 (Or.inl (own_ndi hnd 0 4 rfl rfl (by decide)))
  have F_qNames := F_qNames.other W18 (Or.inl (own_ndi hnd 0 4 rfl rfl (by decide)))
  have F_localNames := F_localNames.other W18 (Or.inl (own_ndi hnd 0 4 rfl rfl (by decide)))
  have F_values := F_values.other W18 (Or.inl (own_ndi hnd 0 4 rfl rfl (by decide)))
  have F_told := F_told.other W18 (Or.inl (own_ndi hnd 0 4 rfl rfl (by decide)))
  have F_uris := F_uris.other W18 (Or.inl (own_ndi hnd 0 4 rfl rfl (by decide)))
  have F_added := F_added.other W18 (Or.inl (own_ndi hnd 0 4 rfl rfl (by decide)))
  have F_length := F_length.other W18 (Or.inl (own_ndi hnd 0 4 rfl rfl (by decide)))
  have V_r_1 := V_r_1.other W18 (own_ndi hnd 1 4 rfl rfl (by decide))
  have V_r_2 := V_r_2.other W18 (own_ndi hnd 2 4 rfl rfl (by decide))
  have V_r_3 := V_r_3.other W18 (own_ndi hnd 3 4 rfl rfl (by decide))
  have V_r_5 := V_r_5.other W18 (Ne.symm (own_ndi hnd 4 5 rfl rfl (by decide)))
  have V_r_6 := V_r_6.other W18 (Ne.symm (own_ndi hnd 4 6 rfl rfl (by decide)))
  have V_r_7 := V_r_7.other W18 (Ne.symm (own_ndi hnd 4 7 rfl rfl (by decide)))
  have V_r_8 := V_r_8.other W18 (Ne.symm (own_ndi hnd 4 8 rfl rfl (by decide)))
  have V_r_9 := V_r_9.other W18 (Ne.symm (own_ndi hnd 4 9 rfl rfl (by decide)))
  have V_r_10 := V_r_10.other W18 (Ne.symm (own_ndi hnd 4 10 rfl rfl (by decide)))
  have Zs19 := Nat.le_trans Zs14 (Keep.of_wr W18).1
  have Kp20 := Kp15.wr W18 (Or.inl (List.mem_of_getElem? (i := 4) rfl))
  refine Go.st (S' := T18.setTop (mkF m 42 #[vr a0, vi p1, vi p2, vi p3, vi p4, vi p5] [.ref a0])) (fun _ kk => st18 _ (XS.aloadN X18.here hx rfl (hb hby d7_41) rfl rfl kk)) ?_
  obtain ⟨T21, X21, e21, st21⟩ := getF X18 hx hZ hown (host := "") (Or.inl (ow hw 36 rfl)) Via.refl e18 F_valueEnds (g := (mkF m 42 #[vr a0, vi p1, vi p2, vi p3, vi p4, vi p5] [.ref a0])) rfl rfl (hb hby d7_42)
  refine Go.st (S' := T21.setTop (mkF m 46 #[vr a0, vi p1, vi p2, vi p3, vi p4, vi p5] [.ref a0, .ref r_5])) (fun _ kk => st21 _ (XS.aloadN X21.here hx rfl (hb hby d7_45) rfl rfl kk)) ?_
  obtain ⟨T22, X22, e22, st22⟩ := getF X21 hx hZ hown (host := "") (Or.inl (ow hw 55 rfl)) Via.refl e21 F_added (g := (mkF m 46 #[vr a0, vi p1, vi p2, vi p3, vi p4, vi p5] [.ref a0, .ref r_5])) rfl rfl (hb hby d7_46)
  refine Go.st (S' := T22.setTop (mkF m 51 #[vr a0, vi p1, vi p2, vi p3, vi p4, vi p5] [.int p5, .int 0, .ref r_5])) (fun _ kk => st22 _ (XS.iload X22.here hx rfl (hb hby d7_49) rfl kk)) ?_
  obtain ⟨cl23, Ar23, qk23, S23, Ng23, H23, G23⟩ := (id V_r_5)
  have hin23 : ¬ ((0 : Int32) < 0 ∨ cl23.slots.size ≤ ((0 : Int32)).toNatClampNeg) := inb_of S23 ⟨by decide, by decide⟩
  obtain ⟨T23, h23, X23, e23, W23, st23⟩ := stI X22 hx hZ e22 Ar23 (j := (0 : Int32)) hin23 (g := (mkF m 51 #[vr a0, vi p1, vi p2, vi p3, vi p4, vi p5] [.int p5, .int 0, .ref r_5])) rfl rfl (hb hby d7_51)
  have V_r_5 : Arv Z h23 r_5 kr_5 .int (2 : Int32) [(.int p5), (.int y_5)] (.int 0) := Arv.set Ar23 qk23 S23 Ng23 H23 G23 rfl W23 0 rfl (Nat.le_of_ble_eq_true rfl)
  have N23 := Fr.snoc X23 N18 g_r_5
  have E_a0 := E_a0.wr W23
  have F_bytes := F_bytes.other W23 (Or.inl (own_ndi hnd 0 5 rfl rfl (by decide)))
  have F_nameStarts := F_nameStarts.other W23 (Or.inl (own_ndi hnd 0 5 rfl rfl (by decide)))
  have F_localNameStarts := F_localNameStarts.other W23 (Or.inl (own_ndi hnd 0 5 rfl rfl (by decide)))
  have F_nameEnds := F_nameEnds.other W23 (Or.inl (own_ndi hnd 0 5 rfl rfl (by decide)))
  have F_valueStarts := F_valueStarts.other W23 (Or.inl (own_ndi hnd 0 5 rfl rfl (by decide)))
  have F_valueEnds := F_valueEnds.other W23 (Or.inl (own_ndi hnd 0 5 rfl rfl (by decide)))
  have F_qNames := F_qNames.other W23 (Or.inl (own_ndi hnd 0 5 rfl rfl (by decide)))
  have F_localNames := F_localNames.other W23 (Or.inl (own_ndi hnd 0 5 rfl rfl (by decide)))
  have F_values := F_values.other W23 (Or.inl (own_ndi hnd 0 5 rfl rfl (by decide)))
  have F_told := F_told.other W23 (Or.inl (own_ndi hnd 0 5 rfl rfl (by decide)))
  have F_uris := F_uris.other W23 (Or.inl (own_ndi hnd 0 5 rfl rfl (by decide)))
  have F_added := F_added.other W23 (Or.inl (own_ndi hnd 0 5 rfl rfl (by decide)))
  have F_length := F_length.other W23 (Or.inl (own_ndi hnd 0 5 rfl rfl (by decide)))
  have V_r_1 := V_r_1.other W23 (own_ndi hnd 1 5 rfl rfl (by decide))
  have V_r_2 := V_r_2.other W23 (own_ndi hnd 2 5 rfl rfl (by decide))
  have V_r_3 := V_r_3.other W23 (own_ndi hnd 3 5 rfl rfl (by decide))
  have V_r_4 := V_r_4.other W23 (own_ndi hnd 4 5 rfl rfl (by decide))
  have V_r_6 := V_r_6.other W23 (Ne.symm (own_ndi hnd 5 6 rfl rfl (by decide)))
  have V_r_7 := V_r_7.other W23 (Ne.symm (own_ndi hnd 5 7 rfl rfl (by decide)))
  have V_r_8 := V_r_8.other W23 (Ne.symm (own_ndi hnd 5 8 rfl rfl (by decide)))
  have V_r_9 := V_r_9.other W23 (Ne.symm (own_ndi hnd 5 9 rfl rfl (by decide)))
  have V_r_10 := V_r_10.other W23 (Ne.symm (own_ndi hnd 5 10 rfl rfl (by decide)))
  have Zs24 := Nat.le_trans Zs19 (Keep.of_wr W23).1
  have Kp25 := Kp20.wr W23 (Or.inl (List.mem_of_getElem? (i := 5) rfl))
  refine Go.st (S' := T23.setTop (mkF m 53 #[vr a0, vi p1, vi p2, vi p3, vi p4, vi p5] [.ref a0])) (fun _ kk => st23 _ (XS.aloadN X23.here hx rfl (hb hby d7_52) rfl rfl kk)) ?_
  obtain ⟨T26, X26, e26, st26⟩ := getF X23 hx hZ hown (host := "") (Or.inl (ow hw 40 rfl)) Via.refl e23 F_qNames (g := (mkF m 53 #[vr a0, vi p1, vi p2, vi p3, vi p4, vi p5] [.ref a0])) rfl rfl (hb hby d7_53)
  refine Go.st (S' := T26.setTop (mkF m 57 #[vr a0, vi p1, vi p2, vi p3, vi p4, vi p5] [.ref a0, .ref r_6])) (fun _ kk => st26 _ (XS.aloadN X26.here hx rfl (hb hby d7_56) rfl rfl kk)) ?_
  obtain ⟨T27, X27, e27, st27⟩ := getF X26 hx hZ hown (host := "") (Or.inl (ow hw 55 rfl)) Via.refl e26 F_added (g := (mkF m 57 #[vr a0, vi p1, vi p2, vi p3, vi p4, vi p5] [.ref a0, .ref r_6])) rfl rfl (hb hby d7_57)
  refine Go.st (S' := T27.setTop (mkF m 61 #[vr a0, vi p1, vi p2, vi p3, vi p4, vi p5] [.null, .int 0, .ref r_6])) (fun _ kk => st27 _ (XS.aconstNull X27.here hx rfl (hb hby d7_60) kk)) ?_
  obtain ⟨cl28, Ar28, qk28, S28, Ng28, H28, G28⟩ := (id V_r_6)
  have hin28 : ¬ ((0 : Int32) < 0 ∨ cl28.slots.size ≤ ((0 : Int32)).toNatClampNeg) := inb_of S28 ⟨by decide, by decide⟩
  obtain ⟨T28, h28, X28, e28, W28, st28⟩ := stR X27 hx hZ e27 Ar28 (j := (0 : Int32)) hin28 rfl (Or.inl rfl) (g := (mkF m 61 #[vr a0, vi p1, vi p2, vi p3, vi p4, vi p5] [.null, .int 0, .ref r_6])) rfl rfl (hb hby d7_61)
  have V_r_6 : Arv Z h28 r_6 kr_6 (.object "java/lang/String") (2 : Int32) [.null, d_1] .null := Arv.set Ar28 qk28 S28 Ng28 H28 G28 rfl W28 0 rfl (Nat.le_of_ble_eq_true rfl)
  have N28 := Fr.snoc X28 N23 g_r_6
  have E_a0 := E_a0.wr W28
  have F_bytes := F_bytes.other W28 (Or.inl (own_ndi hnd 0 6 rfl rfl (by decide)))
  have F_nameStarts := F_nameStarts.other W28 (Or.inl (own_ndi hnd 0 6 rfl rfl (by decide)))
  have F_localNameStarts := F_localNameStarts.other W28 (Or.inl (own_ndi hnd 0 6 rfl rfl (by decide)))
  have F_nameEnds := F_nameEnds.other W28 (Or.inl (own_ndi hnd 0 6 rfl rfl (by decide)))
  have F_valueStarts := F_valueStarts.other W28 (Or.inl (own_ndi hnd 0 6 rfl rfl (by decide)))
  have F_valueEnds := F_valueEnds.other W28 (Or.inl (own_ndi hnd 0 6 rfl rfl (by decide)))
  have F_qNames := F_qNames.other W28 (Or.inl (own_ndi hnd 0 6 rfl rfl (by decide)))
  have F_localNames := F_localNames.other W28 (Or.inl (own_ndi hnd 0 6 rfl rfl (by decide)))
  have F_values := F_values.other W28 (Or.inl (own_ndi hnd 0 6 rfl rfl (by decide)))
  have F_told := F_told.other W28 (Or.inl (own_ndi hnd 0 6 rfl rfl (by decide)))
  have F_uris := F_uris.other W28 (Or.inl (own_ndi hnd 0 6 rfl rfl (by decide)))
  have F_added := F_added.other W28 (Or.inl (own_ndi hnd 0 6 rfl rfl (by decide)))
  have F_length := F_length.other W28 (Or.inl (own_ndi hnd 0 6 rfl rfl (by decide)))
  have V_r_1 := V_r_1.other W28 (own_ndi hnd 1 6 rfl rfl (by decide))
  have V_r_2 := V_r_2.other W28 (own_ndi hnd 2 6 rfl rfl (by decide))
  have V_r_3 := V_r_3.other W28 (own_ndi hnd 3 6 rfl rfl (by decide))
  have V_r_4 := V_r_4.other W28 (own_ndi hnd 4 6 rfl rfl (by decide))
  have V_r_5 := V_r_5.other W28 (own_ndi hnd 5 6 rfl rfl (by decide))
  have V_r_7 := V_r_7.other W28 (Ne.symm (own_ndi hnd 6 7 rfl rfl (by decide)))
  have V_r_8 := V_r_8.other W28 (Ne.symm (own_ndi hnd 6 8 rfl rfl (by decide)))
  have V_r_9 := V_r_9.other W28 (Ne.symm (own_ndi hnd 6 9 rfl rfl (by decide)))
  have V_r_10 := V_r_10.other W28 (Ne.symm (own_ndi hnd 6 10 rfl rfl (by decide)))
  have Zs29 := Nat.le_trans Zs24 (Keep.of_wr W28).1
  have Kp30 := Kp25.wr W28 (Or.inl (List.mem_of_getElem? (i := 6) rfl))
  refine Go.st (S' := T28.setTop (mkF m 63 #[vr a0, vi p1, vi p2, vi p3, vi p4, vi p5] [.ref a0])) (fun _ kk => st28 _ (XS.aloadN X28.here hx rfl (hb hby d7_62) rfl rfl kk)) ?_
  obtain ⟨T31, X31, e31, st31⟩ := getF X28 hx hZ hown (host := "") (Or.inl (ow hw 42 rfl)) Via.refl e28 F_localNames (g := (mkF m 63 #[vr a0, vi p1, vi p2, vi p3, vi p4, vi p5] [.ref a0])) rfl rfl (hb hby d7_63)
  refine Go.st (S' := T31.setTop (mkF m 67 #[vr a0, vi p1, vi p2, vi p3, vi p4, vi p5] [.ref a0, .ref r_7])) (fun _ kk => st31 _ (XS.aloadN X31.here hx rfl (hb hby d7_66) rfl rfl kk)) ?_
  obtain ⟨T32, X32, e32, st32⟩ := getF X31 hx hZ hown (host := "") (Or.inl (ow hw 55 rfl)) Via.refl e31 F_added (g := (mkF m 67 #[vr a0, vi p1, vi p2, vi p3, vi p4, vi p5] [.ref a0, .ref r_7])) rfl rfl (hb hby d7_67)
  refine Go.st (S' := T32.setTop (mkF m 71 #[vr a0, vi p1, vi p2, vi p3, vi p4, vi p5] [.null, .int 0, .ref r_7])) (fun _ kk => st32 _ (XS.aconstNull X32.here hx rfl (hb hby d7_70) kk)) ?_
  obtain ⟨cl33, Ar33, qk33, S33, Ng33, H33, G33⟩ := (id V_r_7)
  have hin33 : ¬ ((0 : Int32) < 0 ∨ cl33.slots.size ≤ ((0 : Int32)).toNatClampNeg) := inb_of S33 ⟨by decide, by decide⟩
  obtain ⟨T33, h33, X33, e33, W33, st33⟩ := stR X32 hx hZ e32 Ar33 (j := (0 : Int32)) hin33 rfl (Or.inl rfl) (g := (mkF m 71 #[vr a0, vi p1, vi p2, vi p3, vi p4, vi p5] [.null, .int 0, .ref r_7])) rfl rfl (hb hby d7_71)
  have V_r_7 : Arv Z h33 r_7 kr_7 (.object "java/lang/String") (2 : Int32) [.null, d_2] .null := Arv.set Ar33 qk33 S33 Ng33 H33 G33 rfl W33 0 rfl (Nat.le_of_ble_eq_true rfl)
  have N33 := Fr.snoc X33 N28 g_r_7
  have E_a0 := E_a0.wr W33
  have F_bytes := F_bytes.other W33 (Or.inl (own_ndi hnd 0 7 rfl rfl (by decide)))
  have F_nameStarts := F_nameStarts.other W33 (Or.inl (own_ndi hnd 0 7 rfl rfl (by decide)))
  have F_localNameStarts := F_localNameStarts.other W33 (Or.inl (own_ndi hnd 0 7 rfl rfl (by decide)))
  have F_nameEnds := F_nameEnds.other W33 (Or.inl (own_ndi hnd 0 7 rfl rfl (by decide)))
  have F_valueStarts := F_valueStarts.other W33 (Or.inl (own_ndi hnd 0 7 rfl rfl (by decide)))
  have F_valueEnds := F_valueEnds.other W33 (Or.inl (own_ndi hnd 0 7 rfl rfl (by decide)))
  have F_qNames := F_qNames.other W33 (Or.inl (own_ndi hnd 0 7 rfl rfl (by decide)))
  have F_localNames := F_localNames.other W33 (Or.inl (own_ndi hnd 0 7 rfl rfl (by decide)))
  have F_values := F_values.other W33 (Or.inl (own_ndi hnd 0 7 rfl rfl (by decide)))
  have F_told := F_told.other W33 (Or.inl (own_ndi hnd 0 7 rfl rfl (by decide)))
  have F_uris := F_uris.other W33 (Or.inl (own_ndi hnd 0 7 rfl rfl (by decide)))
  have F_added := F_added.other W33 (Or.inl (own_ndi hnd 0 7 rfl rfl (by decide)))
  have F_length := F_length.other W33 (Or.inl (own_ndi hnd 0 7 rfl rfl (by decide)))
  have V_r_1 := V_r_1.other W33 (own_ndi hnd 1 7 rfl rfl (by decide))
  have V_r_2 := V_r_2.other W33 (own_ndi hnd 2 7 rfl rfl (by decide))
  have V_r_3 := V_r_3.other W33 (own_ndi hnd 3 7 rfl rfl (by decide))
  have V_r_4 := V_r_4.other W33 (own_ndi hnd 4 7 rfl rfl (by decide))
  have V_r_5 := V_r_5.other W33 (own_ndi hnd 5 7 rfl rfl (by decide))
  have V_r_6 := V_r_6.other W33 (own_ndi hnd 6 7 rfl rfl (by decide))
  have V_r_8 := V_r_8.other W33 (Ne.symm (own_ndi hnd 7 8 rfl rfl (by decide)))
  have V_r_9 := V_r_9.other W33 (Ne.symm (own_ndi hnd 7 9 rfl rfl (by decide)))
  have V_r_10 := V_r_10.other W33 (Ne.symm (own_ndi hnd 7 10 rfl rfl (by decide)))
  have Zs34 := Nat.le_trans Zs29 (Keep.of_wr W33).1
  have Kp35 := Kp30.wr W33 (Or.inl (List.mem_of_getElem? (i := 7) rfl))
  refine Go.st (S' := T33.setTop (mkF m 73 #[vr a0, vi p1, vi p2, vi p3, vi p4, vi p5] [.ref a0])) (fun _ kk => st33 _ (XS.aloadN X33.here hx rfl (hb hby d7_72) rfl rfl kk)) ?_
  obtain ⟨T36, X36, e36, st36⟩ := getF X33 hx hZ hown (host := "") (Or.inl (ow hw 44 rfl)) Via.refl e33 F_values (g := (mkF m 73 #[vr a0, vi p1, vi p2, vi p3, vi p4, vi p5] [.ref a0])) rfl rfl (hb hby d7_73)
  refine Go.st (S' := T36.setTop (mkF m 77 #[vr a0, vi p1, vi p2, vi p3, vi p4, vi p5] [.ref a0, .ref r_8])) (fun _ kk => st36 _ (XS.aloadN X36.here hx rfl (hb hby d7_76) rfl rfl kk)) ?_
  obtain ⟨T37, X37, e37, st37⟩ := getF X36 hx hZ hown (host := "") (Or.inl (ow hw 55 rfl)) Via.refl e36 F_added (g := (mkF m 77 #[vr a0, vi p1, vi p2, vi p3, vi p4, vi p5] [.ref a0, .ref r_8])) rfl rfl (hb hby d7_77)
  refine Go.st (S' := T37.setTop (mkF m 81 #[vr a0, vi p1, vi p2, vi p3, vi p4, vi p5] [.null, .int 0, .ref r_8])) (fun _ kk => st37 _ (XS.aconstNull X37.here hx rfl (hb hby d7_80) kk)) ?_
  obtain ⟨cl38, Ar38, qk38, S38, Ng38, H38, G38⟩ := (id V_r_8)
  have hin38 : ¬ ((0 : Int32) < 0 ∨ cl38.slots.size ≤ ((0 : Int32)).toNatClampNeg) := inb_of S38 ⟨by decide, by decide⟩
  obtain ⟨T38, h38, X38, e38, W38, st38⟩ := stR X37 hx hZ e37 Ar38 (j := (0 : Int32)) hin38 rfl (Or.inl rfl) (g := (mkF m 81 #[vr a0, vi p1, vi p2, vi p3, vi p4, vi p5] [.null, .int 0, .ref r_8])) rfl rfl (hb hby d7_81)
  have V_r_8 : Arv Z h38 r_8 kr_8 (.object "java/lang/String") (2 : Int32) [.null, d_3] .null := Arv.set Ar38 qk38 S38 Ng38 H38 G38 rfl W38 0 rfl (Nat.le_of_ble_eq_true rfl)
  have N38 := Fr.snoc X38 N33 g_r_8
  have E_a0 := E_a0.wr W38
  have F_bytes := F_bytes.other W38 (Or.inl (own_ndi hnd 0 8 rfl rfl (by decide)))
  have F_nameStarts := F_nameStarts.other W38 (Or.inl (own_ndi hnd 0 8 rfl rfl (by decide)))
  have F_localNameStarts := F_localNameStarts.other W38 (Or.inl (own_ndi hnd 0 8 rfl rfl (by decide)))
  have F_nameEnds := F_nameEnds.other W38 (Or.inl (own_ndi hnd 0 8 rfl rfl (by decide)))
  have F_valueStarts := F_valueStarts.other W38 (Or.inl (own_ndi hnd 0 8 rfl rfl (by decide)))
  have F_valueEnds := F_valueEnds.other W38 (Or.inl (own_ndi hnd 0 8 rfl rfl (by decide)))
  have F_qNames := F_qNames.other W38 (Or.inl (own_ndi hnd 0 8 rfl rfl (by decide)))
  have F_localNames := F_localNames.other W38 (Or.inl (own_ndi hnd 0 8 rfl rfl (by decide)))
  have F_values := F_values.other W38 (Or.inl (own_ndi hnd 0 8 rfl rfl (by decide)))
  have F_told := F_told.other W38 (Or.inl (own_ndi hnd 0 8 rfl rfl (by decide)))
  have F_uris := F_uris.other W38 (Or.inl (own_ndi hnd 0 8 rfl rfl (by decide)))
  have F_added := F_added.other W38 (Or.inl (own_ndi hnd 0 8 rfl rfl (by decide)))
  have F_length := F_length.other W38 (Or.inl (own_ndi hnd 0 8 rfl rfl (by decide)))
  have V_r_1 := V_r_1.other W38 (own_ndi hnd 1 8 rfl rfl (by decide))
  have V_r_2 := V_r_2.other W38 (own_ndi hnd 2 8 rfl rfl (by decide))
  have V_r_3 := V_r_3.other W38 (own_ndi hnd 3 8 rfl rfl (by decide))
  have V_r_4 := V_r_4.other W38 (own_ndi hnd 4 8 rfl rfl (by decide))
  have V_r_5 := V_r_5.other W38 (own_ndi hnd 5 8 rfl rfl (by decide))
  have V_r_6 := V_r_6.other W38 (own_ndi hnd 6 8 rfl rfl (by decide))
  have V_r_7 := V_r_7.other W38 (own_ndi hnd 7 8 rfl rfl (by decide))
  have V_r_9 := V_r_9.other W38 (Ne.symm (own_ndi hnd 8 9 rfl rfl (by decide)))
  have V_r_10 := V_r_10.other W38 (Ne.symm (own_ndi hnd 8 10 rfl rfl (by decide)))
  have Zs39 := Nat.le_trans Zs34 (Keep.of_wr W38).1
  have Kp40 := Kp35.wr W38 (Or.inl (List.mem_of_getElem? (i := 8) rfl))
  refine Go.st (S' := T38.setTop (mkF m 84 #[vr a0, vi p1, vi p2, vi p3, vi p4, vi p5] [.ref a0, .ref a0])) (fun _ kk => st38 _ (XS.aloadN X38.here hx rfl (hb hby d7_82) rfl rfl (XS.dup X38.here hx rfl (hb hby d7_83) rfl rfl kk))) ?_
  obtain ⟨T41, X41, e41, st41⟩ := getF X38 hx hZ hown (host := "") (Or.inl (ow hw 55 rfl)) Via.refl e38 F_added (g := (mkF m 84 #[vr a0, vi p1, vi p2, vi p3, vi p4, vi p5] [.ref a0, .ref a0])) rfl rfl (hb hby d7_84)
  refine Go.st (S' := T41.setTop (mkF m 90 #[vr a0, vi p1, vi p2, vi p3, vi p4, vi p5] [.int 1, .ref a0, .int 0])) (fun _ kk => st41 _ (XS.dupX1 X41.here hx rfl (hb hby d7_87) rfl rfl rfl (XS.iconst X41.here hx rfl (hb hby d7_88) (XS.iadd X41.here hx rfl (hb hby d7_89) rfl kk)))) ?_
  obtain ⟨T42, h42, X42, e42, W42, st42⟩ := putF X41 hx hZ hown (host := "") (Or.inl (ow hw 55 rfl)) Via.refl e41 F_added E_a0 (Or.inl (ow hw 56 rfl)) (ow hw 18 rfl) (ty := .int) (by decide) rfl rfl (g := (mkF m 90 #[vr a0, vi p1, vi p2, vi p3, vi p4, vi p5] [.int 1, .ref a0, .int 0])) rfl rfl (hb hby d7_90)
  have N42 := Fr.snoc X42 N38 g_a0
  have F_added := F_added.same W42
  have E_a0 := E_a0.wr W42
  have F_bytes := F_bytes.other W42 (Or.inr (slot_ne (Or.inr (ow hw 27 rfl)) (Or.inl (ow hw 56 rfl)) (by decide) (t := (.array .byte)) (t' := .int) (by decide) (by decide)))
  have F_nameStarts := F_nameStarts.other W42 (Or.inr (slot_ne (Or.inr (ow hw 29 rfl)) (Or.inl (ow hw 56 rfl)) (by decide) (t := (.array .int)) (t' := .int) (by decide) (by decide)))
  have F_localNameStarts := F_localNameStarts.other W42 (Or.inr (slot_ne (Or.inr (ow hw 31 rfl)) (Or.inl (ow hw 56 rfl)) (by decide) (t := (.array .int)) (t' := .int) (by decide) (by decide)))
  have F_nameEnds := F_nameEnds.other W42 (Or.inr (slot_ne (Or.inr (ow hw 33 rfl)) (Or.inl (ow hw 56 rfl)) (by decide) (t := (.array .int)) (t' := .int) (by decide) (by decide)))
  have F_valueStarts := F_valueStarts.other W42 (Or.inr (slot_ne (Or.inr (ow hw 35 rfl)) (Or.inl (ow hw 56 rfl)) (by decide) (t := (.array .int)) (t' := .int) (by decide) (by decide)))
  have F_valueEnds := F_valueEnds.other W42 (Or.inr (slot_ne (Or.inr (ow hw 37 rfl)) (Or.inl (ow hw 56 rfl)) (by decide) (t := (.array .int)) (t' := .int) (by decide) (by decide)))
  have F_qNames := F_qNames.other W42 (Or.inr (slot_ne (Or.inr (ow hw 41 rfl)) (Or.inl (ow hw 56 rfl)) (by decide) (t := (.array (.object "java/lang/String"))) (t' := .int) (by decide) (by decide)))
  have F_localNames := F_localNames.other W42 (Or.inr (slot_ne (Or.inr (ow hw 43 rfl)) (Or.inl (ow hw 56 rfl)) (by decide) (t := (.array (.object "java/lang/String"))) (t' := .int) (by decide) (by decide)))
  have F_values := F_values.other W42 (Or.inr (slot_ne (Or.inr (ow hw 45 rfl)) (Or.inl (ow hw 56 rfl)) (by decide) (t := (.array (.object "java/lang/String"))) (t' := .int) (by decide) (by decide)))
  have F_told := F_told.other W42 (Or.inr (slot_ne (Or.inr (ow hw 47 rfl)) (Or.inl (ow hw 56 rfl)) (by decide) (t := (.array .int)) (t' := .int) (by decide) (by decide)))
  have F_uris := F_uris.other W42 (Or.inr (slot_ne (Or.inr (ow hw 49 rfl)) (Or.inl (ow hw 56 rfl)) (by decide) (t := (.array (.object "java/lang/String"))) (t' := .int) (by decide) (by decide)))
  have F_length := F_length.other W42 (Or.inr (slot_ne (Or.inl (ow hw 70 rfl)) (Or.inl (ow hw 56 rfl)) (by decide) (t := .int) (t' := .int) (by decide) (by decide)))
  have V_r_1 := V_r_1.other W42 (Ne.symm (own_ndi hnd 0 1 rfl rfl (by decide)))
  have V_r_2 := V_r_2.other W42 (Ne.symm (own_ndi hnd 0 2 rfl rfl (by decide)))
  have V_r_3 := V_r_3.other W42 (Ne.symm (own_ndi hnd 0 3 rfl rfl (by decide)))
  have V_r_4 := V_r_4.other W42 (Ne.symm (own_ndi hnd 0 4 rfl rfl (by decide)))
  have V_r_5 := V_r_5.other W42 (Ne.symm (own_ndi hnd 0 5 rfl rfl (by decide)))
  have V_r_6 := V_r_6.other W42 (Ne.symm (own_ndi hnd 0 6 rfl rfl (by decide)))
  have V_r_7 := V_r_7.other W42 (Ne.symm (own_ndi hnd 0 7 rfl rfl (by decide)))
  have V_r_8 := V_r_8.other W42 (Ne.symm (own_ndi hnd 0 8 rfl rfl (by decide)))
  have V_r_9 := V_r_9.other W42 (Ne.symm (own_ndi hnd 0 9 rfl rfl (by decide)))
  have V_r_10 := V_r_10.other W42 (Ne.symm (own_ndi hnd 0 10 rfl rfl (by decide)))
  have Zs43 := Nat.le_trans Zs39 (Keep.of_wr W42).1
  have Kp44 := Kp40.wr W42 (Or.inl (List.mem_of_getElem? (i := 0) rfl))
  refine Go.st (S' := T42.setTop (mkF m 93 #[vr a0, vi p1, vi p2, vi p3, vi p4, vi p5] [.int 0])) st42 ?_
  exact Go.retI X42 hx hlk Bd.returns (hb hby d7_93) (by rw [e42]; exact ⟨rfl, N42, Kp44, ⟨_, _, _, _, _, _, _, _, _, _, _, E_a0, F_bytes, F_nameStarts, F_localNameStarts, F_nameEnds, F_valueStarts, F_valueEnds, F_qNames, F_localNames, F_values, F_told, F_uris, F_added, F_length, V_r_1, V_r_2, V_r_3, V_r_4, V_r_5, V_r_6, V_r_7, V_r_8, V_r_9, V_r_10, O_6, O_7, O_8, O_10⟩⟩) (by decide) (by decide)
def Q_ad1 (Z : State) (a0 : Addr) (bb r_1 r_2 r_3 r_4 r_5 r_6 r_7 r_8 r_9 r_10 : Addr) (kr_1 kr_2 kr_3 kr_4 kr_5 kr_6 kr_7 kr_8 kr_9 kr_10 : ClassId) (ln x_1 x_2 x_3 x_4 x_5 : Int32) (c_1 c_2 c_3 : Value) (t : Int32) (p1 p2 p3 p4 p5 : Int32) (h0 : Heap) (n0 : Nat) (v : Option Value) (h : Heap) (L : List Loc) : Prop := v = some (.int 1) ∧ Fr n0 L ∧ Keep h0 h [a0, r_1, r_2, r_3, r_4, r_5, r_6, r_7, r_8, r_9, r_10] ∧ PAt Z h a0 bb r_1 r_2 r_3 r_4 r_5 r_6 r_7 r_8 r_9 r_10 kr_1 kr_2 kr_3 kr_4 kr_5 kr_6 kr_7 kr_8 kr_9 kr_10 2 ln x_1 x_2 x_3 x_4 x_5 c_1 c_2 c_3 t
theorem rmAd1 (l : Launch) (Z : State) (az : Array Value) (hw : HW az Z) (ws : List Jvm.Cond) (a0 : Addr) (p1 : Int32) (p2 : Int32) (p3 : Int32) (p4 : Int32) (p5 : Int32) (bb r_1 r_2 r_3 r_4 r_5 r_6 r_7 r_8 r_9 r_10 : Addr) (kr_1 kr_2 kr_3 kr_4 kr_5 kr_6 kr_7 kr_8 kr_9 kr_10 : ClassId) (ln x_1 x_2 x_3 x_4 x_5 : Int32) (c_1 c_2 c_3 : Value) (t : Int32) (h0 : Heap) (n0 : Nat) (Z0 : n0 ≤ h0.size) (PA : PAt Z h0 a0 bb r_1 r_2 r_3 r_4 r_5 r_6 r_7 r_8 r_9 r_10 kr_1 kr_2 kr_3 kr_4 kr_5 kr_6 kr_7 kr_8 kr_9 kr_10 1 ln x_1 x_2 x_3 x_4 x_5 c_1 c_2 c_3 t) (hnd : [a0, r_1, r_2, r_3, r_4, r_5, r_6, r_7, r_8, r_9, r_10].Nodup) (hg : ∀ x ∈ [a0, r_1, r_2, r_3, r_4, r_5, r_6, r_7, r_8, r_9, r_10], n0 ≤ x) :
    MF l mN1 (Jvm.Cond.code mN1 prog_21_method_3_code 6 (some .int) :: ws) (rO 0 0 0 0) #[(.ref a0), (.int p1), (.int p2), (.int p3), (.int p4), (.int p5)] Z h0 (Q_ad1 Z a0 bb r_1 r_2 r_3 r_4 r_5 r_6 r_7 r_8 r_9 r_10 kr_1 kr_2 kr_3 kr_4 kr_5 kr_6 kr_7 kr_8 kr_9 kr_10 ln x_1 x_2 x_3 x_4 x_5 c_1 c_2 c_3 t p1 p2 p3 p4 p5 h0 n0) := by
  refine MetFree.of_bodySF (plainFor_of_name pn_7) hisR ?_
  intro p e s m args below meth c s₁ Bd hml0 hP hK
  obtain ⟨rfl, hZ, hh⟩ := hP
  have hx := Bd.exec
  have hby := Bd.bytes
  have hlk : meth.locks = false := Bd.notSynchronized
  have hml : c.maxLocals = 6 := hml0
  have hown : s.vm.findClass "com/example/grantbook/grantbook/licence/PlainAttributes" = some m.cls := findClass_of_methodNamed Bd.named
  have X0 : Stand p l e (rO 0 0 0 0) s m #[(.ref a0), (.int p1), (.int p2), (.int p3), (.int p4), (.int p5)] below meth c s₁ [] 0 0 := Stand.of_body Bd
  have e0 : s₁.heap = h0 := by rw [← hh, Bd.state]; rfl
  have N0 := Fr.nil n0
  show Go p e below s ((Q_ad1 Z a0 bb r_1 r_2 r_3 r_4 r_5 r_6 r_7 r_8 r_9 r_10 kr_1 kr_2 kr_3 kr_4 kr_5 kr_6 kr_7 kr_8 kr_9 kr_10 ln x_1 x_2 x_3 x_4 x_5 c_1 c_2 c_3 t p1 p2 p3 p4 p5 h0 n0)) (rO 0 0 0 0).cells (rO 0 0 0 0).slots (s₁.setTop (entryFrame m #[(.ref a0), (.int p1), (.int p2), (.int p3), (.int p4), (.int p5)] 6))
  rw [ef_7 m a0 p1 p2 p3 p4 p5]
  obtain ⟨y_1, y_2, y_3, y_4, y_5, t_1, d_1, d_2, d_3, u_0, u_1, E_a0, F_bytes, F_nameStarts, F_localNameStarts, F_nameEnds, F_valueStarts, F_valueEnds, F_qNames, F_localNames, F_values, F_told, F_uris, F_added, F_length, V_r_1, V_r_2, V_r_3, V_r_4, V_r_5, V_r_6, V_r_7, V_r_8, V_r_9, V_r_10, O_6, O_7, O_8, O_10⟩ := PA
  have g_a0 : n0 ≤ a0 := hg _ (List.mem_of_getElem? (i := 0) rfl)
  have g_r_1 : n0 ≤ r_1 := hg _ (List.mem_of_getElem? (i := 1) rfl)
  have g_r_2 : n0 ≤ r_2 := hg _ (List.mem_of_getElem? (i := 2) rfl)
  have g_r_3 : n0 ≤ r_3 := hg _ (List.mem_of_getElem? (i := 3) rfl)
  have g_r_4 : n0 ≤ r_4 := hg _ (List.mem_of_getElem? (i := 4) rfl)
  have g_r_5 : n0 ≤ r_5 := hg _ (List.mem_of_getElem? (i := 5) rfl)
  have g_r_6 : n0 ≤ r_6 := hg _ (List.mem_of_getElem? (i := 6) rfl)
  have g_r_7 : n0 ≤ r_7 := hg _ (List.mem_of_getElem? (i := 7) rfl)
  have g_r_8 : n0 ≤ r_8 := hg _ (List.mem_of_getElem? (i := 8) rfl)
  have g_r_9 : n0 ≤ r_9 := hg _ (List.mem_of_getElem? (i := 9) rfl)
  have g_r_10 : n0 ≤ r_10 := hg _ (List.mem_of_getElem? (i := 10) rfl)
  refine Go.st (S' := s₁.setTop (mkF m 1 #[vr a0, vi p1, vi p2, vi p3, vi p4, vi p5] [.ref a0])) (fun _ kk => XS.aloadN X0.here hx rfl (hb hby d7_0) rfl rfl kk) ?_
  obtain ⟨T1, X1, e1, st1⟩ := getF X0 hx hZ hown (host := "") (Or.inl (ow hw 28 rfl)) Via.refl e0 F_nameStarts (g := (mkF m 1 #[vr a0, vi p1, vi p2, vi p3, vi p4, vi p5] [.ref a0])) rfl rfl (hb hby d7_1)
  refine Go.st (S' := T1.setTop (mkF m 5 #[vr a0, vi p1, vi p2, vi p3, vi p4, vi p5] [.ref a0, .ref r_1])) (fun _ kk => st1 _ (XS.aloadN X1.here hx rfl (hb hby d7_4) rfl rfl kk)) ?_
  obtain ⟨T2, X2, e2, st2⟩ := getF X1 hx hZ hown (host := "") (Or.inl (ow hw 55 rfl)) Via.refl e1 F_added (g := (mkF m 5 #[vr a0, vi p1, vi p2, vi p3, vi p4, vi p5] [.ref a0, .ref r_1])) rfl rfl (hb hby d7_5)
  refine Go.st (S' := T2.setTop (mkF m 9 #[vr a0, vi p1, vi p2, vi p3, vi p4, vi p5] [.int p1, .int 1, .ref r_1])) (fun _ kk => st2 _ (XS.iloadN X2.here hx rfl (hb hby d7_8) rfl kk)) ?_
  obtain ⟨cl3, Ar3, qk3, S3, Ng3, H3, G3⟩ := (id V_r_1)
  have hin3 : ¬ ((1 : Int32) < 0 ∨ cl3.slots.size ≤ ((1 : Int32)).toNatClampNeg) := inb_of S3 ⟨by decide, by decide⟩
  obtain ⟨T3, h3, X3, e3, W3, st3⟩ := stI X2 hx hZ e2 Ar3 (j := (1 : Int32)) hin3 (g := (mkF m 9 #[vr a0, vi p1, vi p2, vi p3, vi p4, vi p5] [.int p1, .int 1, .ref r_1])) rfl rfl (hb hby d7_9)
  have V_r_1 : Arv Z h3 r_1 kr_1 .int (2 : Int32) [(.int x_1), (.int p1)] (.int 0) := Arv.set Ar3 qk3 S3 Ng3 H3 G3 rfl W3 1 rfl (Nat.le_of_ble_eq_true rfl)
  have N3 := Fr.snoc X3 N0 g_r_1
  have E_a0 := E_a0.wr W3
  have F_bytes := F_bytes.other W3 (Or.inl (own_ndi hnd 0 1 rfl rfl (by decide)))
  have F_nameStarts := F_nameStarts.other W3 (Or.inl (own_ndi hnd 0 1 rfl rfl (by decide)))
  have F_localNameStarts := F_localNameStarts.other W3 (Or.inl (own_ndi hnd 0 1 rfl rfl (by decide)))
  have F_nameEnds := F_nameEnds.other W3 (Or.inl (own_ndi hnd 0 1 rfl rfl (by decide)))
  have F_valueStarts := F_valueStarts.other W3 (Or.inl (own_ndi hnd 0 1 rfl rfl (by decide)))
  have F_valueEnds := F_valueEnds.other W3 (Or.inl (own_ndi hnd 0 1 rfl rfl (by decide)))
  have F_qNames := F_qNames.other W3 (Or.inl (own_ndi hnd 0 1 rfl rfl (by decide)))
  have F_localNames := F_localNames.other W3 (Or.inl (own_ndi hnd 0 1 rfl rfl (by decide)))
  have F_values := F_values.other W3 (Or.inl (own_ndi hnd 0 1 rfl rfl (by decide)))
  have F_told := F_told.other W3 (Or.inl (own_ndi hnd 0 1 rfl rfl (by decide)))
  have F_uris := F_uris.other W3 (Or.inl (own_ndi hnd 0 1 rfl rfl (by decide)))
  have F_added := F_added.other W3 (Or.inl (own_ndi hnd 0 1 rfl rfl (by decide)))
  have F_length := F_length.other W3 (Or.inl (own_ndi hnd 0 1 rfl rfl (by decide)))
  have V_r_2 := V_r_2.other W3 (Ne.symm (own_ndi hnd 1 2 rfl rfl (by decide)))
  have V_r_3 := V_r_3.other W3 (Ne.symm (own_ndi hnd 1 3 rfl rfl (by decide)))
  have V_r_4 := V_r_4.other W3 (Ne.symm (own_ndi hnd 1 4 rfl rfl (by decide)))
  have V_r_5 := V_r_5.other W3 (Ne.symm (own_ndi hnd 1 5 rfl rfl (by decide)))
  have V_r_6 := V_r_6.other W3 (Ne.symm (own_ndi hnd 1 6 rfl rfl (by decide)))
  have V_r_7 := V_r_7.other W3 (Ne.symm (own_ndi hnd 1 7 rfl rfl (by decide)))
  have V_r_8 := V_r_8.other W3 (Ne.symm (own_ndi hnd 1 8 rfl rfl (by decide)))
  have V_r_9 := V_r_9.other W3 (Ne.symm (own_ndi hnd 1 9 rfl rfl (by decide)))
  have V_r_10 := V_r_10.other W3 (Ne.symm (own_ndi hnd 1 10 rfl rfl (by decide)))
  have Zs4 := Nat.le_trans Z0 (Keep.of_wr W3).1
  have Kp5 := (Keep.refl h0 [a0, r_1, r_2, r_3, r_4, r_5, r_6, r_7, r_8, r_9, r_10]).wr W3 (Or.inl (List.mem_of_getElem? (i := 1) rfl))
  refine Go.st (S' := T3.setTop (mkF m 11 #[vr a0, vi p1, vi p2, vi p3, vi p4, vi p5] [.ref a0])) (fun _ kk => st3 _ (XS.aloadN X3.here hx rfl (hb hby d7_10) rfl rfl kk)) ?_
  obtain ⟨T6, X6, e6, st6⟩ := getF X3 hx hZ hown (host := "") (Or.inl (ow hw 30 rfl)) Via.refl e3 F_localNameStarts (g := (mkF m 11 #[vr a0, vi p1, vi p2, vi p3, vi p4, vi p5] [.ref a0])) rfl rfl (hb hby d7_11)
  refine Go.st (S' := T6.setTop (mkF m 15 #[vr a0, vi p1, vi p2, vi p3, vi p4, vi p5] [.ref a0, .ref r_2])) (fun _ kk => st6 _ (XS.aloadN X6.here hx rfl (hb hby d7_14) rfl rfl kk)) ?_
  obtain ⟨T7, X7, e7, st7⟩ := getF X6 hx hZ hown (host := "") (Or.inl (ow hw 55 rfl)) Via.refl e6 F_added (g := (mkF m 15 #[vr a0, vi p1, vi p2, vi p3, vi p4, vi p5] [.ref a0, .ref r_2])) rfl rfl (hb hby d7_15)
  refine Go.st (S' := T7.setTop (mkF m 19 #[vr a0, vi p1, vi p2, vi p3, vi p4, vi p5] [.int p2, .int 1, .ref r_2])) (fun _ kk => st7 _ (XS.iloadN X7.here hx rfl (hb hby d7_18) rfl kk)) ?_
  obtain ⟨cl8, Ar8, qk8, S8, Ng8, H8, G8⟩ := (id V_r_2)
  have hin8 : ¬ ((1 : Int32) < 0 ∨ cl8.slots.size ≤ ((1 : Int32)).toNatClampNeg) := inb_of S8 ⟨by decide, by decide⟩
  obtain ⟨T8, h8, X8, e8, W8, st8⟩ := stI X7 hx hZ e7 Ar8 (j := (1 : Int32)) hin8 (g := (mkF m 19 #[vr a0, vi p1, vi p2, vi p3, vi p4, vi p5] [.int p2, .int 1, .ref r_2])) rfl rfl (hb hby d7_19)
  have V_r_2 : Arv Z h8 r_2 kr_2 .int (2 : Int32) [(.int x_2), (.int p2)] (.int 0) := Arv.set Ar8 qk8 S8 Ng8 H8 G8 rfl W8 1 rfl (Nat.le_of_ble_eq_true rfl)
  have N8 := Fr.snoc X8 N3 g_r_2
  have E_a0 := E_a0.wr W8
  have F_bytes := F_bytes.other W8 (Or.inl (own_ndi hnd 0 2 rfl rfl (by decide)))
  have F_nameStarts := F_nameStarts.other W8 (Or.inl (own_ndi hnd 0 2 rfl rfl (by decide)))
  have F_localNameStarts := F_localNameStarts.other W8 (Or.inl (own_ndi hnd 0 2 rfl rfl (by decide)))
  have F_nameEnds := F_nameEnds.other W8 (Or.inl (own_ndi hnd 0 2 rfl rfl (by decide)))
  have F_valueStarts := F_valueStarts.other W8 (Or.inl (own_ndi hnd 0 2 rfl rfl (by decide)))
  have F_valueEnds := F_valueEnds.other W8 (Or.inl (own_ndi hnd 0 2 rfl rfl (by decide)))
  have F_qNames := F_qNames.other W8 (Or.inl (own_ndi hnd 0 2 rfl rfl (by decide)))
  have F_localNames := F_localNames.other W8 (Or.inl (own_ndi hnd 0 2 rfl rfl (by decide)))
  have F_values := F_values.other W8 (Or.inl (own_ndi hnd 0 2 rfl rfl (by decide)))
  have F_told := F_told.other W8 (Or.inl (own_ndi hnd 0 2 rfl rfl (by decide)))
  have F_uris := F_uris.other W8 (Or.inl (own_ndi hnd 0 2 rfl rfl (by decide)))
  have F_added := F_added.other W8 (Or.inl (own_ndi hnd 0 2 rfl rfl (by decide)))
  have F_length := F_length.other W8 (Or.inl (own_ndi hnd 0 2 rfl rfl (by decide)))
  have V_r_1 := V_r_1.other W8 (own_ndi hnd 1 2 rfl rfl (by decide))
  have V_r_3 := V_r_3.other W8 (Ne.symm (own_ndi hnd 2 3 rfl rfl (by decide)))
  have V_r_4 := V_r_4.other W8 (Ne.symm (own_ndi hnd 2 4 rfl rfl (by decide)))
  have V_r_5 := V_r_5.other W8 (Ne.symm (own_ndi hnd 2 5 rfl rfl (by decide)))
  have V_r_6 := V_r_6.other W8 (Ne.symm (own_ndi hnd 2 6 rfl rfl (by decide)))
  have V_r_7 := V_r_7.other W8 (Ne.symm (own_ndi hnd 2 7 rfl rfl (by decide)))
  have V_r_8 := V_r_8.other W8 (Ne.symm (own_ndi hnd 2 8 rfl rfl (by decide)))
  have V_r_9 := V_r_9.other W8 (Ne.symm (own_ndi hnd 2 9 rfl rfl (by decide)))
  have V_r_10 := V_r_10.other W8 (Ne.symm (own_ndi hnd 2 10 rfl rfl (by decide)))
  have Zs9 := Nat.le_trans Zs4 (Keep.of_wr W8).1
  have Kp10 := Kp5.wr W8 (Or.inl (List.mem_of_getElem? (i := 2) rfl))
  refine Go.st (S' := T8.setTop (mkF m 21 #[vr a0, vi p1, vi p2, vi p3, vi p4, vi p5] [.ref a0])) (fun _ kk => st8 _ (XS.aloadN X8.here hx rfl (hb hby d7_20) rfl rfl kk)) ?_
  obtain ⟨T11, X11, e11, st11⟩ := getF X8 hx hZ hown (host := "") (Or.inl (ow hw 32 rfl)) Via.refl e8 F_nameEnds (g := (mkF m 21 #[vr a0, vi p1, vi p2, vi p3, vi p4, vi p5] [.ref a0])) rfl rfl (hb hby d7_21)
  refine Go.st (S' := T11.setTop (mkF m 25 #[vr a0, vi p1, vi p2, vi p3, vi p4, vi p5] [.ref a0, .ref r_3])) (fun _ kk => st11 _ (XS.aloadN X11.here hx rfl (hb hby d7_24) rfl rfl kk)) ?_
  obtain ⟨T12, X12, e12, st12⟩ := getF X11 hx hZ hown (host := "") (Or.inl (ow hw 55 rfl)) Via.refl e11 F_added (g := (mkF m 25 #[vr a0, vi p1, vi p2, vi p3, vi p4, vi p5] [.ref a0, .ref r_3])) rfl rfl (hb hby d7_25)
  refine Go.st (S' := T12.setTop (mkF m 29 #[vr a0, vi p1, vi p2, vi p3, vi p4, vi p5] [.int p3, .int 1, .ref r_3])) (fun _ kk => st12 _ (XS.iloadN X12.here hx rfl (hb hby d7_28) rfl kk)) ?_
  obtain ⟨cl13, Ar13, qk13, S13, Ng13, H13, G13⟩ := (id V_r_3)
  have hin13 : ¬ ((1 : Int32) < 0 ∨ cl13.slots.size ≤ ((1 : Int32)).toNatClampNeg) := inb_of S13 ⟨by decide, by decide⟩
  obtain ⟨T13, h13, X13, e13, W13, st13⟩ := stI X12 hx hZ e12 Ar13 (j := (1 : Int32)) hin13 (g := (mkF m 29 #[vr a0, vi p1, vi p2, vi p3, vi p4, vi p5] [.int p3, .int 1, .ref r_3])) rfl rfl (hb hby d7_29)
  have V_r_3 : Arv Z h13 r_3 kr_3 .int (2 : Int32) [(.int x_3), (.int p3)] (.int 0) := Arv.set Ar13 qk13 S13 Ng13 H13 G13 rfl W13 1 rfl (Nat.le_of_ble_eq_true rfl)
  have N13 := Fr.snoc X13 N8 g_r_3
  have E_a0 := E_a0.wr W13
  have F_bytes := F_bytes.other W13 (Or.inl (own_ndi hnd 0 3 rfl rfl (by decide)))
  have F_nameStarts := F_nameStarts.other W13 (Or.inl (own_ndi hnd 0 3 rfl rfl (by decide)))
  have F_localNameStarts := F_localNameStarts.other W13 (Or.inl (own_ndi hnd 0 3 rfl rfl (by decide)))
  have F_nameEnds := F_nameEnds.other W13 (Or.inl (own_ndi hnd 0 3 rfl rfl (by decide)))
  have F_valueStarts := F_valueStarts.other W13 (Or.inl (own_ndi hnd 0 3 rfl rfl (by decide)))
  have F_valueEnds := F_valueEnds.other W13 (Or.inl (own_ndi hnd 0 3 rfl rfl (by decide)))
  have F_qNames := F_qNames.other W13 (Or.inl (own_ndi hnd 0 3 rfl rfl (by decide)))
  have F_localNames := F_localNames.other W13 (Or.inl (own_ndi hnd 0 3 rfl rfl (by decide)))
  have F_values := F_values.other W13 (Or.inl (own_ndi hnd 0 3 rfl rfl (by decide)))
  have F_told := F_told.other W13 (Or.inl (own_ndi hnd 0 3 rfl rfl (by decide)))
  have F_uris := F_uris.other W13 (Or.inl (own_ndi hnd 0 3 rfl rfl (by decide)))
  have F_added := F_added.other W13 (Or.inl (own_ndi hnd 0 3 rfl rfl (by decide)))
  have F_length := F_length.other W13 (Or.inl (own_ndi hnd 0 3 rfl rfl (by decide)))
  have V_r_1 := V_r_1.other W13 (own_ndi hnd 1 3 rfl rfl (by decide))
  have V_r_2 := V_r_2.other W13 (own_ndi hnd 2 3 rfl rfl (by decide))
  have V_r_4 := V_r_4.other W13 (Ne.symm (own_ndi hnd 3 4 rfl rfl (by decide)))
  have V_r_5 := V_r_5.other W13 (Ne.symm (own_ndi hnd 3 5 rfl rfl (by decide)))
  have V_r_6 := V_r_6.other W13 (Ne.symm (own_ndi hnd 3 6 rfl rfl (by decide)))
  have V_r_7 := V_r_7.other W13 (Ne.symm (own_ndi hnd 3 7 rfl rfl (by decide)))
  have V_r_8 := V_r_8.other W13 (Ne.symm (own_ndi hnd 3 8 rfl rfl (by decide)))
  have V_r_9 := V_r_9.other W13 (Ne.symm (own_ndi hnd 3 9 rfl rfl (by decide)))
  have V_r_10 := V_r_10.other W13 (Ne.symm (own_ndi hnd 3 10 rfl rfl (by decide)))
  have Zs14 := Nat.le_trans Zs9 (Keep.of_wr W13).1
  have Kp15 := Kp10.wr W13 (Or.inl (List.mem_of_getElem? (i := 3) rfl))
  refine Go.st (S' := T13.setTop (mkF m 31 #[vr a0, vi p1, vi p2, vi p3, vi p4, vi p5] [.ref a0])) (fun _ kk => st13 _ (XS.aloadN X13.here hx rfl (hb hby d7_30) rfl rfl kk)) ?_
  obtain ⟨T16, X16, e16, st16⟩ := getF X13 hx hZ hown (host := "") (Or.inl (ow hw 34 rfl)) Via.refl e13 F_valueStarts (g := (mkF m 31 #[vr a0, vi p1, vi p2, vi p3, vi p4, vi p5] [.ref a0])) rfl rfl (hb hby d7_31)
  refine Go.st (S' := T16.setTop (mkF m 35 #[vr a0, vi p1, vi p2, vi p3, vi p4, vi p5] [.ref a0, .ref r_4])) (fun _ kk => st16 _ (XS.aloadN X16.here hx rfl (hb hby d7_34) rfl rfl kk)) ?_
  obtain ⟨T17, X17, e17, st17⟩ := getF X16 hx hZ hown (host := "") (Or.inl (ow hw 55 rfl)) Via.refl e16 F_added (g := (mkF m 35 #[vr a0, vi p1, vi p2, vi p3, vi p4, vi p5] [.ref a0, .ref r_4])) rfl rfl (hb hby d7_35)
  refine Go.st (S' := T17.setTop (mkF m 40 #[vr a0, vi p1, vi p2, vi p3, vi p4, vi p5] [.int p4, .int 1, .ref r_4])) (fun _ kk => st17 _ (XS.iload X17.here hx rfl (hb hby d7_38) rfl kk)) ?_
  obtain ⟨cl18, Ar18, qk18, S18, Ng18, H18, G18⟩ := (id V_r_4)
  have hin18 : ¬ ((1 : Int32) < 0 ∨ cl18.slots.size ≤ ((1 : Int32)).toNatClampNeg) := inb_of S18 ⟨by decide, by decide⟩
  obtain ⟨T18, h18, X18, e18, W18, st18⟩ := stI X17 hx hZ e17 Ar18 (j := (1 : Int32)) hin18 (g := (mkF m 40 #[vr a0, vi p1, vi p2, vi p3, vi p4, vi p5] [.int p4, .int 1, .ref r_4])) rfl rfl (hb hby d7_40)
  have V_r_4 : Arv Z h18 r_4 kr_4 .int (2 : Int32) [(.int x_4), (.int p4)] (.int 0) := Arv.set Ar18 qk18 S18 Ng18 H18 G18 rfl W18 1 rfl (Nat.le_of_ble_eq_true rfl)
  have N18 := Fr.snoc X18 N13 g_r_4
  have E_a0 := E_a0.wr W18
  have F_bytes := F_bytes.other W18 (Or.inl (own_ndi hnd 0 4 rfl rfl (by decide)))
  have F_nameStarts := F_nameStarts.other W18 (Or.inl (own_ndi hnd 0 4 rfl rfl (by decide)))
  have F_localNameStarts := F_localNameStarts.other W18 (Or.inl (own_ndi hnd 0 4 rfl rfl (by decide)))
  have F_nameEnds := F_nameEnds.other W18 (Or.inl (own_ndi hnd 0 4 rfl rfl (by decide)))
  have F_valueStarts := F_valueStarts.other W18 (Or.inl (own_ndi hnd 0 4 rfl rfl (by decide)))
  have F_valueEnds := F_valueEnds.other W18 (Or.inl (own_ndi hnd 0 4 rfl rfl (by decide)))
  have F_qNames := F_qNames.other W18 (Or.inl (own_ndi hnd 0 4 rfl rfl (by decide)))
  have F_localNames := F_localNames.other W18 (Or.inl (own_ndi hnd 0 4 rfl rfl (by decide)))
  have F_values := F_values.other W18 (Or.inl (own_ndi hnd 0 4 rfl rfl (by decide)))
  have F_told := F_told.other W18 (Or.inl (own_ndi hnd 0 4 rfl rfl (by decide)))
  have F_uris := F_uris.other W18 (Or.inl (own_ndi hnd 0 4 rfl rfl (by decide)))
  have F_added := F_added.other W18 (Or.inl (own_ndi hnd 0 4 rfl rfl (by decide)))
  have F_length := F_length.other W18 (Or.inl (own_ndi hnd 0 4 rfl rfl (by decide)))
  have V_r_1 := V_r_1.other W18 (own_ndi hnd 1 4 rfl rfl (by decide))
  have V_r_2 := V_r_2.other W18 (own_ndi hnd 2 4 rfl rfl (by decide))
  have V_r_3 := V_r_3.other W18 (own_ndi hnd 3 4 rfl rfl (by decide))
  have V_r_5 := V_r_5.other W18 (Ne.symm (own_ndi hnd 4 5 rfl rfl (by decide)))
  have V_r_6 := V_r_6.other W18 (Ne.symm (own_ndi hnd 4 6 rfl rfl (by decide)))
  have V_r_7 := V_r_7.other W18 (Ne.symm (own_ndi hnd 4 7 rfl rfl (by decide)))
  have V_r_8 := V_r_8.other W18 (Ne.symm (own_ndi hnd 4 8 rfl rfl (by decide)))
  have V_r_9 := V_r_9.other W18 (Ne.symm (own_ndi hnd 4 9 rfl rfl (by decide)))
  have V_r_10 := V_r_10.other W18 (Ne.symm (own_ndi hnd 4 10 rfl rfl (by decide)))
  have Zs19 := Nat.le_trans Zs14 (Keep.of_wr W18).1
  have Kp20 := Kp15.wr W18 (Or.inl (List.mem_of_getElem? (i := 4) rfl))
  refine Go.st (S' := T18.setTop (mkF m 42 #[vr a0, vi p1, vi p2, vi p3, vi p4, vi p5] [.ref a0])) (fun _ kk => st18 _ (XS.aloadN X18.here hx rfl (hb hby d7_41) rfl rfl kk)) ?_
  obtain ⟨T21, X21, e21, st21⟩ := getF X18 hx hZ hown (host := "") (Or.inl (ow hw 36 rfl)) Via.refl e18 F_valueEnds (g := (mkF m 42 #[vr a0, vi p1, vi p2, vi p3, vi p4, vi p5] [.ref a0])) rfl rfl (hb hby d7_42)
  refine Go.st (S' := T21.setTop (mkF m 46 #[vr a0, vi p1, vi p2, vi p3, vi p4, vi p5] [.ref a0, .ref r_5])) (fun _ kk => st21 _ (XS.aloadN X21.here hx rfl (hb hby d7_45) rfl rfl kk)) ?_
  obtain ⟨T22, X22, e22, st22⟩ := getF X21 hx hZ hown (host := "") (Or.inl (ow hw 55 rfl)) Via.refl e21 F_added (g := (mkF m 46 #[vr a0, vi p1, vi p2, vi p3, vi p4, vi p5] [.ref a0, .ref r_5])) rfl rfl (hb hby d7_46)
  refine Go.st (S' := T22.setTop (mkF m 51 #[vr a0, vi p1, vi p2, vi p3, vi p4, vi p5] [.int p5, .int 1, .ref r_5])) (fun _ kk => st22 _ (XS.iload X22.here hx rfl (hb hby d7_49) rfl kk)) ?_
  obtain ⟨cl23, Ar23, qk23, S23, Ng23, H23, G23⟩ := (id V_r_5)
  have hin23 : ¬ ((1 : Int32) < 0 ∨ cl23.slots.size ≤ ((1 : Int32)).toNatClampNeg) := inb_of S23 ⟨by decide, by decide⟩
  obtain ⟨T23, h23, X23, e23, W23, st23⟩ := stI X22 hx hZ e22 Ar23 (j := (1 : Int32)) hin23 (g := (mkF m 51 #[vr a0, vi p1, vi p2, vi p3, vi p4, vi p5] [.int p5, .int 1, .ref r_5])) rfl rfl (hb hby d7_51)
  have V_r_5 : Arv Z h23 r_5 kr_5 .int (2 : Int32) [(.int x_5), (.int p5)] (.int 0) := Arv.set Ar23 qk23 S23 Ng23 H23 G23 rfl W23 1 rfl (Nat.le_of_ble_eq_true rfl)
  have N23 := Fr.snoc X23 N18 g_r_5
  have E_a0 := E_a0.wr W23
  have F_bytes := F_bytes.other W23 (Or.inl (own_ndi hnd 0 5 rfl rfl (by decide)))
  have F_nameStarts := F_nameStarts.other W23 (Or.inl (own_ndi hnd 0 5 rfl rfl (by decide)))
  have F_localNameStarts := F_localNameStarts.other W23 (Or.inl (own_ndi hnd 0 5 rfl rfl (by decide)))
  have F_nameEnds := F_nameEnds.other W23 (Or.inl (own_ndi hnd 0 5 rfl rfl (by decide)))
  have F_valueStarts := F_valueStarts.other W23 (Or.inl (own_ndi hnd 0 5 rfl rfl (by decide)))
  have F_valueEnds := F_valueEnds.other W23 (Or.inl (own_ndi hnd 0 5 rfl rfl (by decide)))
  have F_qNames := F_qNames.other W23 (Or.inl (own_ndi hnd 0 5 rfl rfl (by decide)))
  have F_localNames := F_localNames.other W23 (Or.inl (own_ndi hnd 0 5 rfl rfl (by decide)))
  have F_values := F_values.other W23 (Or.inl (own_ndi hnd 0 5 rfl rfl (by decide)))
  have F_told := F_told.other W23 (Or.inl (own_ndi hnd 0 5 rfl rfl (by decide)))
  have F_uris := F_uris.other W23 (Or.inl (own_ndi hnd 0 5 rfl rfl (by decide)))
  have F_added := F_added.other W23 (Or.inl (own_ndi hnd 0 5 rfl rfl (by decide)))
  have F_length := F_length.other W23 (Or.inl (own_ndi hnd 0 5 rfl rfl (by decide)))
  have V_r_1 := V_r_1.other W23 (own_ndi hnd 1 5 rfl rfl (by decide))
  have V_r_2 := V_r_2.other W23 (own_ndi hnd 2 5 rfl rfl (by decide))
  have V_r_3 := V_r_3.other W23 (own_ndi hnd 3 5 rfl rfl (by decide))
  have V_r_4 := V_r_4.other W23 (own_ndi hnd 4 5 rfl rfl (by decide))
  have V_r_6 := V_r_6.other W23 (Ne.symm (own_ndi hnd 5 6 rfl rfl (by decide)))
  have V_r_7 := V_r_7.other W23 (Ne.symm (own_ndi hnd 5 7 rfl rfl (by decide)))
  have V_r_8 := V_r_8.other W23 (Ne.symm (own_ndi hnd 5 8 rfl rfl (by decide)))
  have V_r_9 := V_r_9.other W23 (Ne.symm (own_ndi hnd 5 9 rfl rfl (by decide)))
  have V_r_10 := V_r_10.other W23 (Ne.symm (own_ndi hnd 5 10 rfl rfl (by decide)))
  have Zs24 := Nat.le_trans Zs19 (Keep.of_wr W23).1
  have Kp25 := Kp20.wr W23 (Or.inl (List.mem_of_getElem? (i := 5) rfl))
  refine Go.st (S' := T23.setTop (mkF m 53 #[vr a0, vi p1, vi p2, vi p3, vi p4, vi p5] [.ref a0])) (fun _ kk => st23 _ (XS.aloadN X23.here hx rfl (hb hby d7_52) rfl rfl kk)) ?_
  obtain ⟨T26, X26, e26, st26⟩ := getF X23 hx hZ hown (host := "") (Or.inl (ow hw 40 rfl)) Via.refl e23 F_qNames (g := (mkF m 53 #[vr a0, vi p1, vi p2, vi p3, vi p4, vi p5] [.ref a0])) rfl rfl (hb hby d7_53)
  refine Go.st (S' := T26.setTop (mkF m 57 #[vr a0, vi p1, vi p2, vi p3, vi p4, vi p5] [.ref a0, .ref r_6])) (fun _ kk => st26 _ (XS.aloadN X26.here hx rfl (hb hby d7_56) rfl rfl kk)) ?_
  obtain ⟨T27, X27, e27, st27⟩ := getF X26 hx hZ hown (host := "") (Or.inl (ow hw 55 rfl)) Via.refl e26 F_added (g := (mkF m 57 #[vr a0, vi p1, vi p2, vi p3, vi p4, vi p5] [.ref a0, .ref r_6])) rfl rfl (hb hby d7_57)
  refine Go.st (S' := T27.setTop (mkF m 61 #[vr a0, vi p1, vi p2, vi p3, vi p4, vi p5] [.null, .int 1, .ref r_6])) (fun _ kk => st27 _ (XS.aconstNull X27.here hx rfl (hb hby d7_60) kk)) ?_
  obtain ⟨cl28, Ar28, qk28, S28, Ng28, H28, G28⟩ := (id V_r_6)
  have hin28 : ¬ ((1 : Int32) < 0 ∨ cl28.slots.size ≤ ((1 : Int32)).toNatClampNeg) := inb_of S28 ⟨by decide, by decide⟩
  obtain ⟨T28, h28, X28, e28, W28, st28⟩ := stR X27 hx hZ e27 Ar28 (j := (1 : Int32)) hin28 rfl (Or.inl rfl) (g := (mkF m 61 #[vr a0, vi p1, vi p2, vi p3, vi p4, vi p5] [.null, .int 1, .ref r_6])) rfl rfl (hb hby d7_61)
  have V_r_6 : Arv Z h28 r_6 kr_6 (.object "java/lang/String") (2 : Int32) [c_1, .null] .null := Arv.set Ar28 qk28 S28 Ng28 H28 G28 rfl W28 1 rfl (Nat.le_of_ble_eq_true rfl)
  have N28 := Fr.snoc X28 N23 g_r_6
  have E_a0 := E_a0.wr W28
  have F_bytes := F_bytes.other W28 (Or.inl (own_ndi hnd 0 6 rfl rfl (by decide)))
  have F_nameStarts := F_nameStarts.other W28 (Or.inl (own_ndi hnd 0 6 rfl rfl (by decide)))
  have F_localNameStarts := F_localNameStarts.other W28 (Or.inl (own_ndi hnd 0 6 rfl rfl (by decide)))
  have F_nameEnds := F_nameEnds.other W28 (Or.inl (own_ndi hnd 0 6 rfl rfl (by decide)))
  have F_valueStarts := F_valueStarts.other W28 (Or.inl (own_ndi hnd 0 6 rfl rfl (by decide)))
  have F_valueEnds := F_valueEnds.other W28 (Or.inl (own_ndi hnd 0 6 rfl rfl (by decide)))
  have F_qNames := F_qNames.other W28 (Or.inl (own_ndi hnd 0 6 rfl rfl (by decide)))
  have F_localNames := F_localNames.other W28 (Or.inl (own_ndi hnd 0 6 rfl rfl (by decide)))
  have F_values := F_values.other W28 (Or.inl (own_ndi hnd 0 6 rfl rfl (by decide)))
  have F_told := F_told.other W28 (Or.inl (own_ndi hnd 0 6 rfl rfl (by decide)))
  have F_uris := F_uris.other W28 (Or.inl (own_ndi hnd 0 6 rfl rfl (by decide)))
  have F_added := F_added.other W28 (Or.inl (own_ndi hnd 0 6 rfl rfl (by decide)))
  have F_length := F_length.other W28 (Or.inl (own_ndi hnd 0 6 rfl rfl (by decide)))
  have V_r_1 := V_r_1.other W28 (own_ndi hnd 1 6 rfl rfl (by decide))
  have V_r_2 := V_r_2.other W28 (own_ndi hnd 2 6 rfl rfl (by decide))
  have V_r_3 := V_r_3.other W28 (own_ndi hnd 3 6 rfl rfl (by decide))
  have V_r_4 := V_r_4.other W28 (own_ndi hnd 4 6 rfl rfl (by decide))
  have V_r_5 := V_r_5.other W28 (own_ndi hnd 5 6 rfl rfl (by decide))
  have V_r_7 := V_r_7.other W28 (Ne.symm (own_ndi hnd 6 7 rfl rfl (by decide)))
  have V_r_8 := V_r_8.other W28 (Ne.symm (own_ndi hnd 6 8 rfl rfl (by decide)))
  have V_r_9 := V_r_9.other W28 (Ne.symm (own_ndi hnd 6 9 rfl rfl (by decide)))
  have V_r_10 := V_r_10.other W28 (Ne.symm (own_ndi hnd 6 10 rfl rfl (by decide)))
  have Zs29 := Nat.le_trans Zs24 (Keep.of_wr W28).1
  have Kp30 := Kp25.wr W28 (Or.inl (List.mem_of_getElem? (i := 6) rfl))
  refine Go.st (S' := T28.setTop (mkF m 63 #[vr a0, vi p1, vi p2, vi p3, vi p4, vi p5] [.ref a0])) (fun _ kk => st28 _ (XS.aloadN X28.here hx rfl (hb hby d7_62) rfl rfl kk)) ?_
  obtain ⟨T31, X31, e31, st31⟩ := getF X28 hx hZ hown (host := "") (Or.inl (ow hw 42 rfl)) Via.refl e28 F_localNames (g := (mkF m 63 #[vr a0, vi p1, vi p2, vi p3, vi p4, vi p5] [.ref a0])) rfl rfl (hb hby d7_63)
  refine Go.st (S' := T31.setTop (mkF m 67 #[vr a0, vi p1, vi p2, vi p3, vi p4, vi p5] [.ref a0, .ref r_7])) (fun _ kk => st31 _ (XS.aloadN X31.here hx rfl (hb hby d7_66) rfl rfl kk)) ?_
  obtain ⟨T32, X32, e32, st32⟩ := getF X31 hx hZ hown (host := "") (Or.inl (ow hw 55 rfl)) Via.refl e31 F_added (g := (mkF m 67 #[vr a0, vi p1, vi p2, vi p3, vi p4, vi p5] [.ref a0, .ref r_7])) rfl rfl (hb hby d7_67)
  refine Go.st (S' := T32.setTop (mkF m 71 #[vr a0, vi p1, vi p2, vi p3, vi p4, vi p5] [.null, .int 1, .ref r_7])) (fun _ kk => st32 _ (XS.aconstNull X32.here hx rfl (hb hby d7_70) kk)) ?_
  obtain ⟨cl33, Ar33, qk33, S33, Ng33, H33, G33⟩ := (id V_r_7)
  have hin33 : ¬ ((1 : Int32) < 0 ∨ cl33.slots.size ≤ ((1 : Int32)).toNatClampNeg) := inb_of S33 ⟨by decide, by decide⟩
  obtain ⟨T33, h33, X33, e33, W33, st33⟩ := stR X32 hx hZ e32 Ar33 (j := (1 : Int32)) hin33 rfl (Or.inl rfl) (g := (mkF m 71 #[vr a0, vi p1, vi p2, vi p3, vi p4, vi p5] [.null, .int 1, .ref r_7])) rfl rfl (hb hby d7_71)
  have V_r_7 : Arv Z h33 r_7 kr_7 (.object "java/lang/String") (2 : Int32) [c_2, .null] .null := Arv.set Ar33 qk33 S33 Ng33 H33 G33 rfl W33 1 rfl (Nat.le_of_ble_eq_true rfl)
  have N33 := Fr.snoc X33 N28 g_r_7
  have E_a0 := E_a0.wr W33
  have F_bytes := F_bytes.other W33 (Or.inl (own_ndi hnd 0 7 rfl rfl (by decide)))
  have F_nameStarts := F_nameStarts.other W33 (Or.inl (own_ndi hnd 0 7 rfl rfl (by decide)))
  have F_localNameStarts := F_localNameStarts.other W33 (Or.inl (own_ndi hnd 0 7 rfl rfl (by decide)))
  have F_nameEnds := F_nameEnds.other W33 (Or.inl (own_ndi hnd 0 7 rfl rfl (by decide)))
  have F_valueStarts := F_valueStarts.other W33 (Or.inl (own_ndi hnd 0 7 rfl rfl (by decide)))
  have F_valueEnds := F_valueEnds.other W33 (Or.inl (own_ndi hnd 0 7 rfl rfl (by decide)))
  have F_qNames := F_qNames.other W33 (Or.inl (own_ndi hnd 0 7 rfl rfl (by decide)))
  have F_localNames := F_localNames.other W33 (Or.inl (own_ndi hnd 0 7 rfl rfl (by decide)))
  have F_values := F_values.other W33 (Or.inl (own_ndi hnd 0 7 rfl rfl (by decide)))
  have F_told := F_told.other W33 (Or.inl (own_ndi hnd 0 7 rfl rfl (by decide)))
  have F_uris := F_uris.other W33 (Or.inl (own_ndi hnd 0 7 rfl rfl (by decide)))
  have F_added := F_added.other W33 (Or.inl (own_ndi hnd 0 7 rfl rfl (by decide)))
  have F_length := F_length.other W33 (Or.inl (own_ndi hnd 0 7 rfl rfl (by decide)))
  have V_r_1 := V_r_1.other W33 (own_ndi hnd 1 7 rfl rfl (by decide))
  have V_r_2 := V_r_2.other W33 (own_ndi hnd 2 7 rfl rfl (by decide))
  have V_r_3 := V_r_3.other W33 (own_ndi hnd 3 7 rfl rfl (by decide))
  have V_r_4 := V_r_4.other W33 (own_ndi hnd 4 7 rfl rfl (by decide))
  have V_r_5 := V_r_5.other W33 (own_ndi hnd 5 7 rfl rfl (by decide))
  have V_r_6 := V_r_6.other W33 (own_ndi hnd 6 7 rfl rfl (by decide))
  have V_r_8 := V_r_8.other W33 (Ne.symm (own_ndi hnd 7 8 rfl rfl (by decide)))
  have V_r_9 := V_r_9.other W33 (Ne.symm (own_ndi hnd 7 9 rfl rfl (by decide)))
  have V_r_10 := V_r_10.other W33 (Ne.symm (own_ndi hnd 7 10 rfl rfl (by decide)))
  have Zs34 := Nat.le_trans Zs29 (Keep.of_wr W33).1
  have Kp35 := Kp30.wr W33 (Or.inl (List.mem_of_getElem? (i := 7) rfl))
  refine Go.st (S' := T33.setTop (mkF m 73 #[vr a0, vi p1, vi p2, vi p3, vi p4, vi p5] [.ref a0])) (fun _ kk => st33 _ (XS.aloadN X33.here hx rfl (hb hby d7_72) rfl rfl kk)) ?_
  obtain ⟨T36, X36, e36, st36⟩ := getF X33 hx hZ hown (host := "") (Or.inl (ow hw 44 rfl)) Via.refl e33 F_values (g := (mkF m 73 #[vr a0, vi p1, vi p2, vi p3, vi p4, vi p5] [.ref a0])) rfl rfl (hb hby d7_73)
  refine Go.st (S' := T36.setTop (mkF m 77 #[vr a0, vi p1, vi p2, vi p3, vi p4, vi p5] [.ref a0, .ref r_8])) (fun _ kk => st36 _ (XS.aloadN X36.here hx rfl (hb hby d7_76) rfl rfl kk)) ?_
  obtain ⟨T37, X37, e37, st37⟩ := getF X36 hx hZ hown (host := "") (Or.inl (ow hw 55 rfl)) Via.refl e36 F_added (g := (mkF m 77 #[vr a0, vi p1, vi p2, vi p3, vi p4, vi p5] [.ref a0, .ref r_8])) rfl rfl (hb hby d7_77)
  refine Go.st (S' := T37.setTop (mkF m 81 #[vr a0, vi p1, vi p2, vi p3, vi p4, vi p5] [.null, .int 1, .ref r_8])) (fun _ kk => st37 _ (XS.aconstNull X37.here hx rfl (hb hby d7_80) kk)) ?_
  obtain ⟨cl38, Ar38, qk38, S38, Ng38, H38, G38⟩ := (id V_r_8)
  have hin38 : ¬ ((1 : Int32) < 0 ∨ cl38.slots.size ≤ ((1 : Int32)).toNatClampNeg) := inb_of S38 ⟨by decide, by decide⟩
  obtain ⟨T38, h38, X38, e38, W38, st38⟩ := stR X37 hx hZ e37 Ar38 (j := (1 : Int32)) hin38 rfl (Or.inl rfl) (g := (mkF m 81 #[vr a0, vi p1, vi p2, vi p3, vi p4, vi p5] [.null, .int 1, .ref r_8])) rfl rfl (hb hby d7_81)
  have V_r_8 : Arv Z h38 r_8 kr_8 (.object "java/lang/String") (2 : Int32) [c_3, .null] .null := Arv.set Ar38 qk38 S38 Ng38 H38 G38 rfl W38 1 rfl (Nat.le_of_ble_eq_true rfl)
  have N38 := Fr.snoc X38 N33 g_r_8
  have E_a0 := E_a0.wr W38
  have F_bytes := F_bytes.other W38 (Or.inl (own_ndi hnd 0 8 rfl rfl (by decide)))
  have F_nameStarts := F_nameStarts.other W38 (Or.inl (own_ndi hnd 0 8 rfl rfl (by decide)))
  have F_localNameStarts := F_localNameStarts.other W38 (Or.inl (own_ndi hnd 0 8 rfl rfl (by decide)))
  have F_nameEnds := F_nameEnds.other W38 (Or.inl (own_ndi hnd 0 8 rfl rfl (by decide)))
  have F_valueStarts := F_valueStarts.other W38 (Or.inl (own_ndi hnd 0 8 rfl rfl (by decide)))
  have F_valueEnds := F_valueEnds.other W38 (Or.inl (own_ndi hnd 0 8 rfl rfl (by decide)))
  have F_qNames := F_qNames.other W38 (Or.inl (own_ndi hnd 0 8 rfl rfl (by decide)))
  have F_localNames := F_localNames.other W38 (Or.inl (own_ndi hnd 0 8 rfl rfl (by decide)))
  have F_values := F_values.other W38 (Or.inl (own_ndi hnd 0 8 rfl rfl (by decide)))
  have F_told := F_told.other W38 (Or.inl (own_ndi hnd 0 8 rfl rfl (by decide)))
  have F_uris := F_uris.other W38 (Or.inl (own_ndi hnd 0 8 rfl rfl (by decide)))
  have F_added := F_added.other W38 (Or.inl (own_ndi hnd 0 8 rfl rfl (by decide)))
  have F_length := F_length.other W38 (Or.inl (own_ndi hnd 0 8 rfl rfl (by decide)))
  have V_r_1 := V_r_1.other W38 (own_ndi hnd 1 8 rfl rfl (by decide))
  have V_r_2 := V_r_2.other W38 (own_ndi hnd 2 8 rfl rfl (by decide))
  have V_r_3 := V_r_3.other W38 (own_ndi hnd 3 8 rfl rfl (by decide))
  have V_r_4 := V_r_4.other W38 (own_ndi hnd 4 8 rfl rfl (by decide))
  have V_r_5 := V_r_5.other W38 (own_ndi hnd 5 8 rfl rfl (by decide))
  have V_r_6 := V_r_6.other W38 (own_ndi hnd 6 8 rfl rfl (by decide))
  have V_r_7 := V_r_7.other W38 (own_ndi hnd 7 8 rfl rfl (by decide))
  have V_r_9 := V_r_9.other W38 (Ne.symm (own_ndi hnd 8 9 rfl rfl (by decide)))
  have V_r_10 := V_r_10.other W38 (Ne.symm (own_ndi hnd 8 10 rfl rfl (by decide)))
  have Zs39 := Nat.le_trans Zs34 (Keep.of_wr W38).1
  have Kp40 := Kp35.wr W38 (Or.inl (List.mem_of_getElem? (i := 8) rfl))
  refine Go.st (S' := T38.setTop (mkF m 84 #[vr a0, vi p1, vi p2, vi p3, vi p4, vi p5] [.ref a0, .ref a0])) (fun _ kk => st38 _ (XS.aloadN X38.here hx rfl (hb hby d7_82) rfl rfl (XS.dup X38.here hx rfl (hb hby d7_83) rfl rfl kk))) ?_
  obtain ⟨T41, X41, e41, st41⟩ := getF X38 hx hZ hown (host := "") (Or.inl (ow hw 55 rfl)) Via.refl e38 F_added (g := (mkF m 84 #[vr a0, vi p1, vi p2, vi p3, vi p4, vi p5] [.ref a0, .ref a0])) rfl rfl (hb hby d7_84)
  refine Go.st (S' := T41.setTop (mkF m 90 #[vr a0, vi p1, vi p2, vi p3, vi p4, vi p5] [.int 2, .ref a0, .int 1])) (fun _ kk => st41 _ (XS.dupX1 X41.here hx rfl (hb hby d7_87) rfl rfl rfl (XS.iconst X41.here hx rfl (hb hby d7_88) (XS.iadd X41.here hx rfl (hb hby d7_89) rfl kk)))) ?_
  obtain ⟨T42, h42, X42, e42, W42, st42⟩ := putF X41 hx hZ hown (host := "") (Or.inl (ow hw 55 rfl)) Via.refl e41 F_added E_a0 (Or.inl (ow hw 56 rfl)) (ow hw 18 rfl) (ty := .int) (by decide) rfl rfl (g := (mkF m 90 #[vr a0, vi p1, vi p2, vi p3, vi p4, vi p5] [.int 2, .ref a0, .int 1])) rfl rfl (hb hby d7_90)
  have N42 := Fr.snoc X42 N38 g_a0
  have F_added := F_added.same W42
  have E_a0 := E_a0.wr W42
  have F_bytes := F_bytes.other W42 (Or.inr (slot_ne (Or.inr (ow hw 27 rfl)) (Or.inl (ow hw 56 rfl)) (by decide) (t := (.array .byte)) (t' := .int) (by decide) (by decide)))
  have F_nameStarts := F_nameStarts.other W42 (Or.inr (slot_ne (Or.inr (ow hw 29 rfl)) (Or.inl (ow hw 56 rfl)) (by decide) (t := (.array .int)) (t' := .int) (by decide) (by decide)))
  have F_localNameStarts := F_localNameStarts.other W42 (Or.inr (slot_ne (Or.inr (ow hw 31 rfl)) (Or.inl (ow hw 56 rfl)) (by decide) (t := (.array .int)) (t' := .int) (by decide) (by decide)))
  have F_nameEnds := F_nameEnds.other W42 (Or.inr (slot_ne (Or.inr (ow hw 33 rfl)) (Or.inl (ow hw 56 rfl)) (by decide) (t := (.array .int)) (t' := .int) (by decide) (by decide)))
  have F_valueStarts := F_valueStarts.other W42 (Or.inr (slot_ne (Or.inr (ow hw 35 rfl)) (Or.inl (ow hw 56 rfl)) (by decide) (t := (.array .int)) (t' := .int) (by decide) (by decide)))
  have F_valueEnds := F_valueEnds.other W42 (Or.inr (slot_ne (Or.inr (ow hw 37 rfl)) (Or.inl (ow hw 56 rfl)) (by decide) (t := (.array .int)) (t' := .int) (by decide) (by decide)))
  have F_qNames := F_qNames.other W42 (Or.inr (slot_ne (Or.inr (ow hw 41 rfl)) (Or.inl (ow hw 56 rfl)) (by decide) (t := (.array (.object "java/lang/String"))) (t' := .int) (by decide) (by decide)))
  have F_localNames := F_localNames.other W42 (Or.inr (slot_ne (Or.inr (ow hw 43 rfl)) (Or.inl (ow hw 56 rfl)) (by decide) (t := (.array (.object "java/lang/String"))) (t' := .int) (by decide) (by decide)))
  have F_values := F_values.other W42 (Or.inr (slot_ne (Or.inr (ow hw 45 rfl)) (Or.inl (ow hw 56 rfl)) (by decide) (t := (.array (.object "java/lang/String"))) (t' := .int) (by decide) (by decide)))
  have F_told := F_told.other W42 (Or.inr (slot_ne (Or.inr (ow hw 47 rfl)) (Or.inl (ow hw 56 rfl)) (by decide) (t := (.array .int)) (t' := .int) (by decide) (by decide)))
  have F_uris := F_uris.other W42 (Or.inr (slot_ne (Or.inr (ow hw 49 rfl)) (Or.inl (ow hw 56 rfl)) (by decide) (t := (.array (.object "java/lang/String"))) (t' := .int) (by decide) (by decide)))
  have F_length := F_length.other W42 (Or.inr (slot_ne (Or.inl (ow hw 70 rfl)) (Or.inl (ow hw 56 rfl)) (by decide) (t := .int) (t' := .int) (by decide) (by decide)))
  have V_r_1 := V_r_1.other W42 (Ne.symm (own_ndi hnd 0 1 rfl rfl (by decide)))
  have V_r_2 := V_r_2.other W42 (Ne.symm (own_ndi hnd 0 2 rfl rfl (by decide)))
  have V_r_3 := V_r_3.other W42 (Ne.symm (own_ndi hnd 0 3 rfl rfl (by decide)))
  have V_r_4 := V_r_4.other W42 (Ne.symm (own_ndi hnd 0 4 rfl rfl (by decide)))
  have V_r_5 := V_r_5.other W42 (Ne.symm (own_ndi hnd 0 5 rfl rfl (by decide)))
  have V_r_6 := V_r_6.other W42 (Ne.symm (own_ndi hnd 0 6 rfl rfl (by decide)))
  have V_r_7 := V_r_7.other W42 (Ne.symm (own_ndi hnd 0 7 rfl rfl (by decide)))
  have V_r_8 := V_r_8.other W42 (Ne.symm (own_ndi hnd 0 8 rfl rfl (by decide)))
  have V_r_9 := V_r_9.other W42 (Ne.symm (own_ndi hnd 0 9 rfl rfl (by decide)))
  have V_r_10 := V_r_10.other W42 (Ne.symm (own_ndi hnd 0 10 rfl rfl (by decide)))
  have Zs43 := Nat.le_trans Zs39 (Keep.of_wr W42).1
  have Kp44 := Kp40.wr W42 (Or.inl (List.mem_of_getElem? (i := 0) rfl))
  refine Go.st (S' := T42.setTop (mkF m 93 #[vr a0, vi p1, vi p2, vi p3, vi p4, vi p5] [.int 1])) st42 ?_
  exact Go.retI X42 hx hlk Bd.returns (hb hby d7_93) (by rw [e42]; exact ⟨rfl, N42, Kp44, ⟨_, _, _, _, _, _, _, _, _, _, _, E_a0, F_bytes, F_nameStarts, F_localNameStarts, F_nameEnds, F_valueStarts, F_valueEnds, F_qNames, F_localNames, F_values, F_told, F_uris, F_added, F_length, V_r_1, V_r_2, V_r_3, V_r_4, V_r_5, V_r_6, V_r_7, V_r_8, V_r_9, V_r_10, O_6, O_7, O_8, O_10⟩⟩) (by decide) (by decide)
def Q_te (Z : State) (a0 : Addr) (bb r_1 r_2 r_3 r_4 r_5 r_6 r_7 r_8 r_9 r_10 : Addr) (kr_1 kr_2 kr_3 kr_4 kr_5 kr_6 kr_7 kr_8 kr_9 kr_10 : ClassId) (ad x_1 x_2 x_3 x_4 x_5 : Int32) (c_1 c_2 c_3 : Value) (t : Int32) (p1 : Int32) (h0 : Heap) (n0 : Nat) (v : Option Value) (h : Heap) (L : List Loc) : Prop := v = none ∧ Fr n0 L ∧ Keep h0 h [a0, r_1, r_2, r_3, r_4, r_5, r_6, r_7, r_8, r_9, r_10] ∧ PAt Z h a0 bb r_1 r_2 r_3 r_4 r_5 r_6 r_7 r_8 r_9 r_10 kr_1 kr_2 kr_3 kr_4 kr_5 kr_6 kr_7 kr_8 kr_9 kr_10 ad 1 x_1 x_2 x_3 x_4 x_5 c_1 c_2 c_3 p1
theorem d8_0 : decode prog_21_method_11_code 0 = .ok (.aload_n 0, 1) := by decide +kernel
theorem d8_1 : decode prog_21_method_11_code 1 = .ok (.getfield 41, 3) := by decide +kernel
theorem d8_4 : decode prog_21_method_11_code 4 = .ok (.aload_n 0, 1) := by decide +kernel
theorem d8_5 : decode prog_21_method_11_code 5 = .ok (.getfield 51, 3) := by decide +kernel
theorem d8_8 : decode prog_21_method_11_code 8 = .ok (.iload_n 1, 1) := by decide +kernel
theorem d8_9 : decode prog_21_method_11_code 9 = .ok (.iastore, 1) := by decide +kernel
theorem d8_10 : decode prog_21_method_11_code 10 = .ok (.aload_n 0, 1) := by decide +kernel
theorem d8_11 : decode prog_21_method_11_code 11 = .ok (.getfield 44, 3) := by decide +kernel
theorem d8_14 : decode prog_21_method_11_code 14 = .ok (.aload_n 0, 1) := by decide +kernel
theorem d8_15 : decode prog_21_method_11_code 15 = .ok (.getfield 51, 3) := by decide +kernel
theorem d8_18 : decode prog_21_method_11_code 18 = .ok (.aload_n 2, 1) := by decide +kernel
theorem d8_19 : decode prog_21_method_11_code 19 = .ok (.aastore, 1) := by decide +kernel
theorem d8_20 : decode prog_21_method_11_code 20 = .ok (.aload_n 0, 1) := by decide +kernel
theorem d8_21 : decode prog_21_method_11_code 21 = .ok (.dup, 1) := by decide +kernel
theorem d8_22 : decode prog_21_method_11_code 22 = .ok (.getfield 51, 3) := by decide +kernel
theorem d8_25 : decode prog_21_method_11_code 25 = .ok (.iconst 1, 1) := by decide +kernel
theorem d8_26 : decode prog_21_method_11_code 26 = .ok (.iadd, 1) := by decide +kernel
theorem d8_27 : decode prog_21_method_11_code 27 = .ok (.putfield 51, 3) := by decide +kernel
theorem d8_30 : decode prog_21_method_11_code 30 = .ok (.return_, 1) := by decide +kernel
theorem ef_8 (m : MethodId) (a0 : Addr) (p1 : Int32) (a2 : Addr) : entryFrame m #[(.ref a0), (.int p1), (.ref a2)] 3 = mkF m 0 #[.val (.ref a0), .val (.int p1), .val (.ref a2)] [] := by first | (simp [entryFrame, mkF, argsToLocals, Value.category]; done) | rfl
theorem rmTe (l : Launch) (Z : State) (az : Array Value) (hw : HW az Z) (ws : List Jvm.Cond) (a0 : Addr) (p1 : Int32) (a2 : Addr) (bb r_1 r_2 r_3 r_4 r_5 r_6 r_7 r_8 r_9 r_10 : Addr) (kr_1 kr_2 kr_3 kr_4 kr_5 kr_6 kr_7 kr_8 kr_9 kr_10 : ClassId) (ad x_1 x_2 x_3 x_4 x_5 : Int32) (c_1 c_2 c_3 : Value) (t : Int32) (h0 : Heap) (n0 : Nat) (Z0 : n0 ≤ h0.size) (PA : PAt Z h0 a0 bb r_1 r_2 r_3 r_4 r_5 r_6 r_7 r_8 r_9 r_10 kr_1 kr_2 kr_3 kr_4 kr_5 kr_6 kr_7 kr_8 kr_9 kr_10 ad 0 x_1 x_2 x_3 x_4 x_5 c_1 c_2 c_3 t) (hnd : [a0, r_1, r_2, r_3, r_4, r_5, r_6, r_7, r_8, r_9, r_10].Nodup) (hg : ∀ x ∈ [a0, r_1, r_2, r_3, r_4, r_5, r_6, r_7, r_8, r_9, r_10], n0 ≤ x) (E_a2 : Exa Z h0 a2 "java/lang/String") :
    MF l mN9 (Jvm.Cond.code mN9 prog_21_method_11_code 3 none :: ws) (rO 0 0 0 0) #[(.ref a0), (.int p1), (.ref a2)] Z h0 (Q_te Z a0 bb r_1 r_2 r_3 r_4 r_5 r_6 r_7 r_8 r_9 r_10 kr_1 kr_2 kr_3 kr_4 kr_5 kr_6 kr_7 kr_8 kr_9 kr_10 ad x_1 x_2 x_3 x_4 x_5 c_1 c_2 c_3 t p1 h0 n0) := by
  refine MetFree.of_bodySF (plainFor_of_name pn_7) hisR ?_
  intro p e s m args below meth c s₁ Bd hml0 hP hK
  obtain ⟨rfl, hZ, hh⟩ := hP
  have hx := Bd.exec
  have hby := Bd.bytes
  have hlk : meth.locks = false := Bd.notSynchronized
  have hml : c.maxLocals = 3 := hml0
  have hown : s.vm.findClass "com/example/grantbook/grantbook/licence/PlainAttributes" = some m.cls := findClass_of_methodNamed Bd.named
  have X0 : Stand p l e (rO 0 0 0 0) s m #[(.ref a0), (.int p1), (.ref a2)] below meth c s₁ [] 0 0 := Stand.of_body Bd
  have e0 : s₁.heap = h0 := by rw [← hh, Bd.state]; rfl
  have N0 := Fr.nil n0
  show Go p e below s ((Q_te Z a0 bb r_1 r_2 r_3 r_4 r_5 r_6 r_7 r_8 r_9 r_10 kr_1 kr_2 kr_3 kr_4 kr_5 kr_6 kr_7 kr_8 kr_9 kr_10 ad x_1 x_2 x_3 x_4 x_5 c_1 c_2 c_3 t p1 h0 n0)) (rO 0 0 0 0).cells (rO 0 0 0 0).slots (s₁.setTop (entryFrame m #[(.ref a0), (.int p1), (.ref a2)] 3))
  rw [ef_8 m a0 p1 a2]
  obtain ⟨y_1, y_2, y_3, y_4, y_5, t_1, d_1, d_2, d_3, u_0, u_1, E_a0, F_bytes, F_nameStarts, F_localNameStarts, F_nameEnds, F_valueStarts, F_valueEnds, F_qNames, F_localNames, F_values, F_told, F_uris, F_added, F_length, V_r_1, V_r_2, V_r_3, V_r_4, V_r_5, V_r_6, V_r_7, V_r_8, V_r_9, V_r_10, O_6, O_7, O_8, O_10⟩ := PA
  have g_a0 : n0 ≤ a0 := hg _ (List.mem_of_getElem? (i := 0) rfl)
  have g_r_1 : n0 ≤ r_1 := hg _ (List.mem_of_getElem? (i := 1) rfl)
  have g_r_2 : n0 ≤ r_2 := hg _ (List.mem_of_getElem? (i := 2) rfl)
  have g_r_3 : n0 ≤ r_3 := hg _ (List.mem_of_getElem? (i := 3) rfl)
  have g_r_4 : n0 ≤ r_4 := hg _ (List.mem_of_getElem? (i := 4) rfl)
  have g_r_5 : n0 ≤ r_5 := hg _ (List.mem_of_getElem? (i := 5) rfl)
  have g_r_6 : n0 ≤ r_6 := hg _ (List.mem_of_getElem? (i := 6) rfl)
  have g_r_7 : n0 ≤ r_7 := hg _ (List.mem_of_getElem? (i := 7) rfl)
  have g_r_8 : n0 ≤ r_8 := hg _ (List.mem_of_getElem? (i := 8) rfl)
  have g_r_9 : n0 ≤ r_9 := hg _ (List.mem_of_getElem? (i := 9) rfl)
  have g_r_10 : n0 ≤ r_10 := hg _ (List.mem_of_getElem? (i := 10) rfl)
  refine Go.st (S' := s₁.setTop (mkF m 1 #[vr a0, vi p1, vr a2] [.ref a0])) (fun _ kk => XS.aloadN X0.here hx rfl (hb hby d8_0) rfl rfl kk) ?_
  obtain ⟨T1, X1, e1, st1⟩ := getF X0 hx hZ hown (host := "") (Or.inl (ow hw 46 rfl)) Via.refl e0 F_told (g := (mkF m 1 #[vr a0, vi p1, vr a2] [.ref a0])) rfl rfl (hb hby d8_1)
  refine Go.st (S' := T1.setTop (mkF m 5 #[vr a0, vi p1, vr a2] [.ref a0, .ref r_9])) (fun _ kk => st1 _ (XS.aloadN X1.here hx rfl (hb hby d8_4) rfl rfl kk)) ?_
  obtain ⟨T2, X2, e2, st2⟩ := getF X1 hx hZ hown (host := "") (Or.inl (ow hw 69 rfl)) Via.refl e1 F_length (g := (mkF m 5 #[vr a0, vi p1, vr a2] [.ref a0, .ref r_9])) rfl rfl (hb hby d8_5)
  refine Go.st (S' := T2.setTop (mkF m 9 #[vr a0, vi p1, vr a2] [.int p1, .int 0, .ref r_9])) (fun _ kk => st2 _ (XS.iloadN X2.here hx rfl (hb hby d8_8) rfl kk)) ?_
  obtain ⟨cl3, Ar3, qk3, S3, Ng3, H3, G3⟩ := (id V_r_9)
  have hin3 : ¬ ((0 : Int32) < 0 ∨ cl3.slots.size ≤ ((0 : Int32)).toNatClampNeg) := inb_of S3 ⟨by decide, by decide⟩
  obtain ⟨T3, h3, X3, e3, W3, st3⟩ := stI X2 hx hZ e2 Ar3 (j := (0 : Int32)) hin3 (g := (mkF m 9 #[vr a0, vi p1, vr a2] [.int p1, .int 0, .ref r_9])) rfl rfl (hb hby d8_9)
  have V_r_9 : Arv Z h3 r_9 kr_9 .int (2 : Int32) [(.int p1), (.int t_1)] (.int 0) := Arv.set Ar3 qk3 S3 Ng3 H3 G3 rfl W3 0 rfl (Nat.le_of_ble_eq_true rfl)
  have N3 := Fr.snoc X3 N0 g_r_9
  have E_a0 := E_a0.wr W3
  have F_bytes := F_bytes.other W3 (Or.inl (own_ndi hnd 0 9 rfl rfl (by decide)))
  have F_nameStarts := F_nameStarts.other W3 (Or.inl (own_ndi hnd 0 9 rfl rfl (by decide)))
  have F_localNameStarts := F_localNameStarts.other W3 (Or.inl (own_ndi hnd 0 9 rfl rfl (by decide)))
  have F_nameEnds := F_nameEnds.other W3 (Or.inl (own_ndi hnd 0 9 rfl rfl (by decide)))
  have F_valueStarts := F_valueStarts.other W3 (Or.inl (own_ndi hnd 0 9 rfl rfl (by decide)))
  have F_valueEnds := F_valueEnds.other W3 (Or.inl (own_ndi hnd 0 9 rfl rfl (by decide)))
  have F_qNames := F_qNames.other W3 (Or.inl (own_ndi hnd 0 9 rfl rfl (by decide)))
  have F_localNames := F_localNames.other W3 (Or.inl (own_ndi hnd 0 9 rfl rfl (by decide)))
  have F_values := F_values.other W3 (Or.inl (own_ndi hnd 0 9 rfl rfl (by decide)))
  have F_told := F_told.other W3 (Or.inl (own_ndi hnd 0 9 rfl rfl (by decide)))
  have F_uris := F_uris.other W3 (Or.inl (own_ndi hnd 0 9 rfl rfl (by decide)))
  have F_added := F_added.other W3 (Or.inl (own_ndi hnd 0 9 rfl rfl (by decide)))
  have F_length := F_length.other W3 (Or.inl (own_ndi hnd 0 9 rfl rfl (by decide)))
  have V_r_1 := V_r_1.other W3 (own_ndi hnd 1 9 rfl rfl (by decide))
  have V_r_2 := V_r_2.other W3 (own_ndi hnd 2 9 rfl rfl (by decide))
  have V_r_3 := V_r_3.other W3 (own_ndi hnd 3 9 rfl rfl (by decide))
  have V_r_4 := V_r_4.other W3 (own_ndi hnd 4 9 rfl rfl (by decide))
  have V_r_5 := V_r_5.other W3 (own_ndi hnd 5 9 rfl rfl (by decide))
  have V_r_6 := V_r_6.other W3 (own_ndi hnd 6 9 rfl rfl (by decide))
  have V_r_7 := V_r_7.other W3 (own_ndi hnd 7 9 rfl rfl (by decide))
  have V_r_8 := V_r_8.other W3 (own_ndi hnd 8 9 rfl rfl (by decide))
  have V_r_10 := V_r_10.other W3 (Ne.symm (own_ndi hnd 9 10 rfl rfl (by decide)))
  have E_a2 := E_a2.wr W3
  have Zs4 := Nat.le_trans Z0 (Keep.of_wr W3).1
  have Kp5 := (Keep.refl h0 [a0, r_1, r_2, r_3, r_4, r_5, r_6, r_7, r_8, r_9, r_10]).wr W3 (Or.inl (List.mem_of_getElem? (i := 9) rfl))
  refine Go.st (S' := T3.setTop (mkF m 11 #[vr a0, vi p1, vr a2] [.ref a0])) (fun _ kk => st3 _ (XS.aloadN X3.here hx rfl (hb hby d8_10) rfl rfl kk)) ?_
  obtain ⟨T6, X6, e6, st6⟩ := getF X3 hx hZ hown (host := "") (Or.inl (ow hw 48 rfl)) Via.refl e3 F_uris (g := (mkF m 11 #[vr a0, vi p1, vr a2] [.ref a0])) rfl rfl (hb hby d8_11)
  refine Go.st (S' := T6.setTop (mkF m 15 #[vr a0, vi p1, vr a2] [.ref a0, .ref r_10])) (fun _ kk => st6 _ (XS.aloadN X6.here hx rfl (hb hby d8_14) rfl rfl kk)) ?_
  obtain ⟨T7, X7, e7, st7⟩ := getF X6 hx hZ hown (host := "") (Or.inl (ow hw 69 rfl)) Via.refl e6 F_length (g := (mkF m 15 #[vr a0, vi p1, vr a2] [.ref a0, .ref r_10])) rfl rfl (hb hby d8_15)
  refine Go.st (S' := T7.setTop (mkF m 19 #[vr a0, vi p1, vr a2] [.ref a2, .int 0, .ref r_10])) (fun _ kk => st7 _ (XS.aloadN X7.here hx rfl (hb hby d8_18) rfl rfl kk)) ?_
  obtain ⟨cl8, Ar8, qk8, S8, Ng8, H8, G8⟩ := (id V_r_10)
  have hin8 : ¬ ((0 : Int32) < 0 ∨ cl8.slots.size ≤ ((0 : Int32)).toNatClampNeg) := inb_of S8 ⟨by decide, by decide⟩
  obtain ⟨T8, h8, X8, e8, W8, st8⟩ := stR X7 hx hZ e7 Ar8 (j := (0 : Int32)) hin8 rfl (Sto.ofV Ar8 qk8 O_10 (Ins.self E_a2)) (g := (mkF m 19 #[vr a0, vi p1, vr a2] [.ref a2, .int 0, .ref r_10])) rfl rfl (hb hby d8_19)
  have V_r_10 : Arv Z h8 r_10 kr_10 (.object "java/lang/String") (2 : Int32) [(.ref a2), u_1] .null := Arv.set Ar8 qk8 S8 Ng8 H8 G8 rfl W8 0 rfl (Nat.le_of_ble_eq_true rfl)
  have N8 := Fr.snoc X8 N3 g_r_10
  have E_a0 := E_a0.wr W8
  have F_bytes := F_bytes.other W8 (Or.inl (own_ndi hnd 0 10 rfl rfl (by decide)))
  have F_nameStarts := F_nameStarts.other W8 (Or.inl (own_ndi hnd 0 10 rfl rfl (by decide)))
  have F_localNameStarts := F_localNameStarts.other W8 (Or.inl (own_ndi hnd 0 10 rfl rfl (by decide)))
  have F_nameEnds := F_nameEnds.other W8 (Or.inl (own_ndi hnd 0 10 rfl rfl (by decide)))
  have F_valueStarts := F_valueStarts.other W8 (Or.inl (own_ndi hnd 0 10 rfl rfl (by decide)))
  have F_valueEnds := F_valueEnds.other W8 (Or.inl (own_ndi hnd 0 10 rfl rfl (by decide)))
  have F_qNames := F_qNames.other W8 (Or.inl (own_ndi hnd 0 10 rfl rfl (by decide)))
  have F_localNames := F_localNames.other W8 (Or.inl (own_ndi hnd 0 10 rfl rfl (by decide)))
  have F_values := F_values.other W8 (Or.inl (own_ndi hnd 0 10 rfl rfl (by decide)))
  have F_told := F_told.other W8 (Or.inl (own_ndi hnd 0 10 rfl rfl (by decide)))
  have F_uris := F_uris.other W8 (Or.inl (own_ndi hnd 0 10 rfl rfl (by decide)))
  have F_added := F_added.other W8 (Or.inl (own_ndi hnd 0 10 rfl rfl (by decide)))
  have F_length := F_length.other W8 (Or.inl (own_ndi hnd 0 10 rfl rfl (by decide)))
  have V_r_1 := V_r_1.other W8 (own_ndi hnd 1 10 rfl rfl (by decide))
  have V_r_2 := V_r_2.other W8 (own_ndi hnd 2 10 rfl rfl (by decide))
  have V_r_3 := V_r_3.other W8 (own_ndi hnd 3 10 rfl rfl (by decide))
  have V_r_4 := V_r_4.other W8 (own_ndi hnd 4 10 rfl rfl (by decide))
  have V_r_5 := V_r_5.other W8 (own_ndi hnd 5 10 rfl rfl (by decide))
  have V_r_6 := V_r_6.other W8 (own_ndi hnd 6 10 rfl rfl (by decide))
  have V_r_7 := V_r_7.other W8 (own_ndi hnd 7 10 rfl rfl (by decide))
  have V_r_8 := V_r_8.other W8 (own_ndi hnd 8 10 rfl rfl (by decide))
  have V_r_9 := V_r_9.other W8 (own_ndi hnd 9 10 rfl rfl (by decide))
  have E_a2 := E_a2.wr W8
  have Zs9 := Nat.le_trans Zs4 (Keep.of_wr W8).1
  have Kp10 := Kp5.wr W8 (Or.inl (List.mem_of_getElem? (i := 10) rfl))
  refine Go.st (S' := T8.setTop (mkF m 22 #[vr a0, vi p1, vr a2] [.ref a0, .ref a0])) (fun _ kk => st8 _ (XS.aloadN X8.here hx rfl (hb hby d8_20) rfl rfl (XS.dup X8.here hx rfl (hb hby d8_21) rfl rfl kk))) ?_
  obtain ⟨T11, X11, e11, st11⟩ := getF X8 hx hZ hown (host := "") (Or.inl (ow hw 69 rfl)) Via.refl e8 F_length (g := (mkF m 22 #[vr a0, vi p1, vr a2] [.ref a0, .ref a0])) rfl rfl (hb hby d8_22)
  refine Go.st (S' := T11.setTop (mkF m 27 #[vr a0, vi p1, vr a2] [.int 1, .ref a0])) (fun _ kk => st11 _ (XS.iconst X11.here hx rfl (hb hby d8_25) (XS.iadd X11.here hx rfl (hb hby d8_26) rfl kk))) ?_
  obtain ⟨T12, h12, X12, e12, W12, st12⟩ := putF X11 hx hZ hown (host := "") (Or.inl (ow hw 69 rfl)) Via.refl e11 F_length E_a0 (Or.inl (ow hw 70 rfl)) (ow hw 18 rfl) (ty := .int) (by decide) rfl rfl (g := (mkF m 27 #[vr a0, vi p1, vr a2] [.int 1, .ref a0])) rfl rfl (hb hby d8_27)
  have N12 := Fr.snoc X12 N8 g_a0
  have F_length := F_length.same W12
  have E_a0 := E_a0.wr W12
  have F_bytes := F_bytes.other W12 (Or.inr (slot_ne (Or.inr (ow hw 27 rfl)) (Or.inl (ow hw 70 rfl)) (by decide) (t := (.array .byte)) (t' := .int) (by decide) (by decide)))
  have F_nameStarts := F_nameStarts.other W12 (Or.inr (slot_ne (Or.inr (ow hw 29 rfl)) (Or.inl (ow hw 70 rfl)) (by decide) (t := (.array .int)) (t' := .int) (by decide) (by decide)))
  have F_localNameStarts := F_localNameStarts.other W12 (Or.inr (slot_ne (Or.inr (ow hw 31 rfl)) (Or.inl (ow hw 70 rfl)) (by decide) (t := (.array .int)) (t' := .int) (by decide) (by decide)))
  have F_nameEnds := F_nameEnds.other W12 (Or.inr (slot_ne (Or.inr (ow hw 33 rfl)) (Or.inl (ow hw 70 rfl)) (by decide) (t := (.array .int)) (t' := .int) (by decide) (by decide)))
  have F_valueStarts := F_valueStarts.other W12 (Or.inr (slot_ne (Or.inr (ow hw 35 rfl)) (Or.inl (ow hw 70 rfl)) (by decide) (t := (.array .int)) (t' := .int) (by decide) (by decide)))
  have F_valueEnds := F_valueEnds.other W12 (Or.inr (slot_ne (Or.inr (ow hw 37 rfl)) (Or.inl (ow hw 70 rfl)) (by decide) (t := (.array .int)) (t' := .int) (by decide) (by decide)))
  have F_qNames := F_qNames.other W12 (Or.inr (slot_ne (Or.inr (ow hw 41 rfl)) (Or.inl (ow hw 70 rfl)) (by decide) (t := (.array (.object "java/lang/String"))) (t' := .int) (by decide) (by decide)))
  have F_localNames := F_localNames.other W12 (Or.inr (slot_ne (Or.inr (ow hw 43 rfl)) (Or.inl (ow hw 70 rfl)) (by decide) (t := (.array (.object "java/lang/String"))) (t' := .int) (by decide) (by decide)))
  have F_values := F_values.other W12 (Or.inr (slot_ne (Or.inr (ow hw 45 rfl)) (Or.inl (ow hw 70 rfl)) (by decide) (t := (.array (.object "java/lang/String"))) (t' := .int) (by decide) (by decide)))
  have F_told := F_told.other W12 (Or.inr (slot_ne (Or.inr (ow hw 47 rfl)) (Or.inl (ow hw 70 rfl)) (by decide) (t := (.array .int)) (t' := .int) (by decide) (by decide)))
  have F_uris := F_uris.other W12 (Or.inr (slot_ne (Or.inr (ow hw 49 rfl)) (Or.inl (ow hw 70 rfl)) (by decide) (t := (.array (.object "java/lang/String"))) (t' := .int) (by decide) (by decide)))
  have F_added := F_added.other W12 (Or.inr (slot_ne (Or.inl (ow hw 56 rfl)) (Or.inl (ow hw 70 rfl)) (by decide) (t := .int) (t' := .int) (by decide) (by decide)))
  have V_r_1 := V_r_1.other W12 (Ne.symm (own_ndi hnd 0 1 rfl rfl (by decide)))
  have V_r_2 := V_r_2.other W12 (Ne.symm (own_ndi hnd 0 2 rfl rfl (by decide)))
  have V_r_3 := V_r_3.other W12 (Ne.symm (own_ndi hnd 0 3 rfl rfl (by decide)))
  have V_r_4 := V_r_4.other W12 (Ne.symm (own_ndi hnd 0 4 rfl rfl (by decide)))
  have V_r_5 := V_r_5.other W12 (Ne.symm (own_ndi hnd 0 5 rfl rfl (by decide)))
  have V_r_6 := V_r_6.other W12 (Ne.symm (own_ndi hnd 0 6 rfl rfl (by decide)))
  have V_r_7 := V_r_7.other W12 (Ne.symm (own_ndi hnd 0 7 rfl rfl (by decide)))
  have V_r_8 := V_r_8.other W12 (Ne.symm (own_ndi hnd 0 8 rfl rfl (by decide)))
  have V_r_9 := V_r_9.other W12 (Ne.symm (own_ndi hnd 0 9 rfl rfl (by decide)))
  have V_r_10 := V_r_10.other W12 (Ne.symm (own_ndi hnd 0 10 rfl rfl (by decide)))
  have E_a2 := E_a2.wr W12
  have Zs13 := Nat.le_trans Zs9 (Keep.of_wr W12).1
  have Kp14 := Kp10.wr W12 (Or.inl (List.mem_of_getElem? (i := 0) rfl))
  refine Go.st (S' := T12.setTop (mkF m 30 #[vr a0, vi p1, vr a2] [])) st12 ?_
  exact Go.ret0 X12 hx hlk Bd.returns (hb hby d8_30) (by rw [e12]; exact ⟨rfl, N12, Kp14, ⟨_, _, _, _, _, _, _, _, _, _, _, E_a0, F_bytes, F_nameStarts, F_localNameStarts, F_nameEnds, F_valueStarts, F_valueEnds, F_qNames, F_localNames, F_values, F_told, F_uris, F_added, F_length, V_r_1, V_r_2, V_r_3, V_r_4, V_r_5, V_r_6, V_r_7, V_r_8, V_r_9, V_r_10, O_6, O_7, O_8, O_10⟩⟩) (by decide) (by decide)
def Q_cl (Z : State) (a0 : Addr) (bb r_1 r_2 r_3 r_4 r_5 r_6 r_7 r_8 r_9 r_10 : Addr) (kr_1 kr_2 kr_3 kr_4 kr_5 kr_6 kr_7 kr_8 kr_9 kr_10 : ClassId) (x_1 x_2 x_3 x_4 x_5 : Int32) (c_1 c_2 c_3 : Value) (t : Int32) (h0 : Heap) (n0 : Nat) (v : Option Value) (h : Heap) (L : List Loc) : Prop := v = none ∧ Fr n0 L ∧ Keep h0 h [a0, r_1, r_2, r_3, r_4, r_5, r_6, r_7, r_8, r_9, r_10] ∧ PAt Z h a0 bb r_1 r_2 r_3 r_4 r_5 r_6 r_7 r_8 r_9 r_10 kr_1 kr_2 kr_3 kr_4 kr_5 kr_6 kr_7 kr_8 kr_9 kr_10 0 0 x_1 x_2 x_3 x_4 x_5 c_1 c_2 c_3 t
theorem d36_0 : decode prog_21_method_2_code 0 = .ok (.aload_n 0, 1) := by decide +kernel
theorem d36_1 : decode prog_21_method_2_code 1 = .ok (.iconst 0, 1) := by decide +kernel
theorem d36_2 : decode prog_21_method_2_code 2 = .ok (.putfield 47, 3) := by decide +kernel
theorem d36_5 : decode prog_21_method_2_code 5 = .ok (.aload_n 0, 1) := by decide +kernel
theorem d36_6 : decode prog_21_method_2_code 6 = .ok (.iconst 0, 1) := by decide +kernel
theorem d36_7 : decode prog_21_method_2_code 7 = .ok (.putfield 51, 3) := by decide +kernel
theorem d36_10 : decode prog_21_method_2_code 10 = .ok (.return_, 1) := by decide +kernel
theorem ef_36 (m : MethodId) (a0 : Addr) : entryFrame m #[(.ref a0)] 1 = mkF m 0 #[.val (.ref a0)] [] := by first | (simp [entryFrame, mkF, argsToLocals, Value.category]; done) | rfl
theorem rmCx (l : Launch) (Z : State) (az : Array Value) (hw : HW az Z) (ws : List Jvm.Cond) (a0 : Addr) (bb r_1 r_2 r_3 r_4 r_5 r_6 r_7 r_8 r_9 r_10 : Addr) (kr_1 kr_2 kr_3 kr_4 kr_5 kr_6 kr_7 kr_8 kr_9 kr_10 : ClassId) (ad ln x_1 x_2 x_3 x_4 x_5 : Int32) (c_1 c_2 c_3 : Value) (t : Int32) (h0 : Heap) (n0 : Nat) (Z0 : n0 ≤ h0.size) (PA : PAt Z h0 a0 bb r_1 r_2 r_3 r_4 r_5 r_6 r_7 r_8 r_9 r_10 kr_1 kr_2 kr_3 kr_4 kr_5 kr_6 kr_7 kr_8 kr_9 kr_10 ad ln x_1 x_2 x_3 x_4 x_5 c_1 c_2 c_3 t) (hnd : [a0, r_1, r_2, r_3, r_4, r_5, r_6, r_7, r_8, r_9, r_10].Nodup) (hg : ∀ x ∈ [a0, r_1, r_2, r_3, r_4, r_5, r_6, r_7, r_8, r_9, r_10], n0 ≤ x) :
    MF l mN2 (Jvm.Cond.code mN2 prog_21_method_2_code 1 none :: ws) (rO 0 0 0 0) #[(.ref a0)] Z h0 (Q_cl Z a0 bb r_1 r_2 r_3 r_4 r_5 r_6 r_7 r_8 r_9 r_10 kr_1 kr_2 kr_3 kr_4 kr_5 kr_6 kr_7 kr_8 kr_9 kr_10 x_1 x_2 x_3 x_4 x_5 c_1 c_2 c_3 t h0 n0) := by
  refine MetFree.of_bodySF (plainFor_of_name pn_7) hisR ?_
  intro p e s m args below meth c s₁ Bd hml0 hP hK
  obtain ⟨rfl, hZ, hh⟩ := hP
  have hx := Bd.exec
  have hby := Bd.bytes
  have hlk : meth.locks = false := Bd.notSynchronized
  have hml : c.maxLocals = 1 := hml0
  have hown : s.vm.findClass "com/example/grantbook/grantbook/licence/PlainAttributes" = some m.cls := findClass_of_methodNamed Bd.named
  have X0 : Stand p l e (rO 0 0 0 0) s m #[(.ref a0)] below meth c s₁ [] 0 0 := Stand.of_body Bd
  have e0 : s₁.heap = h0 := by rw [← hh, Bd.state]; rfl
  have N0 := Fr.nil n0
  show Go p e below s ((Q_cl Z a0 bb r_1 r_2 r_3 r_4 r_5 r_6 r_7 r_8 r_9 r_10 kr_1 kr_2 kr_3 kr_4 kr_5 kr_6 kr_7 kr_8 kr_9 kr_10 x_1 x_2 x_3 x_4 x_5 c_1 c_2 c_3 t h0 n0)) (rO 0 0 0 0).cells (rO 0 0 0 0).slots (s₁.setTop (entryFrame m #[(.ref a0)] 1))
  rw [ef_36 m a0]
  obtain ⟨y_1, y_2, y_3, y_4, y_5, t_1, d_1, d_2, d_3, u_0, u_1, E_a0, F_bytes, F_nameStarts, F_localNameStarts, F_nameEnds, F_valueStarts, F_valueEnds, F_qNames, F_localNames, F_values, F_told, F_uris, F_added, F_length, V_r_1, V_r_2, V_r_3, V_r_4, V_r_5, V_r_6, V_r_7, V_r_8, V_r_9, V_r_10, O_6, O_7, O_8, O_10⟩ := PA
  have g_a0 : n0 ≤ a0 := hg _ (List.mem_of_getElem? (i := 0) rfl)
  have g_r_1 : n0 ≤ r_1 := hg _ (List.mem_of_getElem? (i := 1) rfl)
  have g_r_2 : n0 ≤ r_2 := hg _ (List.mem_of_getElem? (i := 2) rfl)
  have g_r_3 : n0 ≤ r_3 := hg _ (List.mem_of_getElem? (i := 3) rfl)
  have g_r_4 : n0 ≤ r_4 := hg _ (List.mem_of_getElem? (i := 4) rfl)
  have g_r_5 : n0 ≤ r_5 := hg _ (List.mem_of_getElem? (i := 5) rfl)
  have g_r_6 : n0 ≤ r_6 := hg _ (List.mem_of_getElem? (i := 6) rfl)
  have g_r_7 : n0 ≤ r_7 := hg _ (List.mem_of_getElem? (i := 7) rfl)
  have g_r_8 : n0 ≤ r_8 := hg _ (List.mem_of_getElem? (i := 8) rfl)
  have g_r_9 : n0 ≤ r_9 := hg _ (List.mem_of_getElem? (i := 9) rfl)
  have g_r_10 : n0 ≤ r_10 := hg _ (List.mem_of_getElem? (i := 10) rfl)
  refine Go.st (S' := s₁.setTop (mkF m 2 #[vr a0] [.int 0, .ref a0])) (fun _ kk => XS.aloadN X0.here hx rfl (hb hby d36_0) rfl rfl (XS.iconst X0.here hx rfl (hb hby d36_1) kk)) ?_
  obtain ⟨T1, h1, X1, e1, W1, st1⟩ := putF X0 hx hZ hown (host := "") (Or.inl (ow hw 55 rfl)) Via.refl e0 F_added E_a0 (Or.inl (ow hw 56 rfl)) (ow hw 18 rfl) (ty := .int) (by decide) rfl rfl (g := (mkF m 2 #[vr a0] [.int 0, .ref a0])) rfl rfl (hb hby d36_2)
  have N1 := Fr.snoc X1 N0 g_a0
  have F_added := F_added.same W1
  have E_a0 := E_a0.wr W1
  have F_bytes := F_bytes.other W1 (Or.inr (slot_ne (Or.inr (ow hw 27 rfl)) (Or.inl (ow hw 56 rfl)) (by decide) (t := (.array .byte)) (t' := .int) (by decide) (by decide)))
  have F_nameStarts := F_nameStarts.other W1 (Or.inr (slot_ne (Or.inr (ow hw 29 rfl)) (Or.inl (ow hw 56 rfl)) (by decide) (t := (.array .int)) (t' := .int) (by decide) (by decide)))
  have F_localNameStarts := F_localNameStarts.other W1 (Or.inr (slot_ne (Or.inr (ow hw 31 rfl)) (Or.inl (ow hw 56 rfl)) (by decide) (t := (.array .int)) (t' := .int) (by decide) (by decide)))
  have F_nameEnds := F_nameEnds.other W1 (Or.inr (slot_ne (Or.inr (ow hw 33 rfl)) (Or.inl (ow hw 56 rfl)) (by decide) (t := (.array .int)) (t' := .int) (by decide) (by decide)))
  have F_valueStarts := F_valueStarts.other W1 (Or.inr (slot_ne (Or.inr (ow hw 35 rfl)) (Or.inl (ow hw 56 rfl)) (by decide) (t := (.array .int)) (t' := .int) (by decide) (by decide)))
  have F_valueEnds := F_valueEnds.other W1 (Or.inr (slot_ne (Or.inr (ow hw 37 rfl)) (Or.inl (ow hw 56 rfl)) (by decide) (t := (.array .int)) (t' := .int) (by decide) (by decide)))
  have F_qNames := F_qNames.other W1 (Or.inr (slot_ne (Or.inr (ow hw 41 rfl)) (Or.inl (ow hw 56 rfl)) (by decide) (t := (.array (.object "java/lang/String"))) (t' := .int) (by decide) (by decide)))
  have F_localNames := F_localNames.other W1 (Or.inr (slot_ne (Or.inr (ow hw 43 rfl)) (Or.inl (ow hw 56 rfl)) (by decide) (t := (.array (.object "java/lang/String"))) (t' := .int) (by decide) (by decide)))
  have F_values := F_values.other W1 (Or.inr (slot_ne (Or.inr (ow hw 45 rfl)) (Or.inl (ow hw 56 rfl)) (by decide) (t := (.array (.object "java/lang/String"))) (t' := .int) (by decide) (by decide)))
  have F_told := F_told.other W1 (Or.inr (slot_ne (Or.inr (ow hw 47 rfl)) (Or.inl (ow hw 56 rfl)) (by decide) (t := (.array .int)) (t' := .int) (by decide) (by decide)))
  have F_uris := F_uris.other W1 (Or.inr (slot_ne (Or.inr (ow hw 49 rfl)) (Or.inl (ow hw 56 rfl)) (by decide) (t := (.array (.object "java/lang/String"))) (t' := .int) (by decide) (by decide)))
  have F_length := F_length.other W1 (Or.inr (slot_ne (Or.inl (ow hw 70 rfl)) (Or.inl (ow hw 56 rfl)) (by decide) (t := .int) (t' := .int) (by decide) (by decide)))
  have V_r_1 := V_r_1.other W1 (Ne.symm (own_ndi hnd 0 1 rfl rfl (by decide)))
  have V_r_2 := V_r_2.other W1 (Ne.symm (own_ndi hnd 0 2 rfl rfl (by decide)))
  have V_r_3 := V_r_3.other W1 (Ne.symm (own_ndi hnd 0 3 rfl rfl (by decide)))
  have V_r_4 := V_r_4.other W1 (Ne.symm (own_ndi hnd 0 4 rfl rfl (by decide)))
  have V_r_5 := V_r_5.other W1 (Ne.symm (own_ndi hnd 0 5 rfl rfl (by decide)))
  have V_r_6 := V_r_6.other W1 (Ne.symm (own_ndi hnd 0 6 rfl rfl (by decide)))
  have V_r_7 := V_r_7.other W1 (Ne.symm (own_ndi hnd 0 7 rfl rfl (by decide)))
  have V_r_8 := V_r_8.other W1 (Ne.symm (own_ndi hnd 0 8 rfl rfl (by decide)))
  have V_r_9 := V_r_9.other W1 (Ne.symm (own_ndi hnd 0 9 rfl rfl (by decide)))
  have V_r_10 := V_r_10.other W1 (Ne.symm (own_ndi hnd 0 10 rfl rfl (by decide)))
  have Zs2 := Nat.le_trans Z0 (Keep.of_wr W1).1
  have Kp3 := (Keep.refl h0 [a0, r_1, r_2, r_3, r_4, r_5, r_6, r_7, r_8, r_9, r_10]).wr W1 (Or.inl (List.mem_of_getElem? (i := 0) rfl))
  refine Go.st (S' := T1.setTop (mkF m 7 #[vr a0] [.int 0, .ref a0])) (fun _ kk => st1 _ (XS.aloadN X1.here hx rfl (hb hby d36_5) rfl rfl (XS.iconst X1.here hx rfl (hb hby d36_6) kk))) ?_
  obtain ⟨T4, h4, X4, e4, W4, st4⟩ := putF X1 hx hZ hown (host := "") (Or.inl (ow hw 69 rfl)) Via.refl e1 F_length E_a0 (Or.inl (ow hw 70 rfl)) (ow hw 18 rfl) (ty := .int) (by decide) rfl rfl (g := (mkF m 7 #[vr a0] [.int 0, .ref a0])) rfl rfl (hb hby d36_7)
  have N4 := Fr.snoc X4 N1 g_a0
  have F_length := F_length.same W4
  have E_a0 := E_a0.wr W4
  have F_bytes := F_bytes.other W4 (Or.inr (slot_ne (Or.inr (ow hw 27 rfl)) (Or.inl (ow hw 70 rfl)) (by decide) (t := (.array .byte)) (t' := .int) (by decide) (by decide)))
  have F_nameStarts := F_nameStarts.other W4 (Or.inr (slot_ne (Or.inr (ow hw 29 rfl)) (Or.inl (ow hw 70 rfl)) (by decide) (t := (.array .int)) (t' := .int) (by decide) (by decide)))
  have F_localNameStarts := F_localNameStarts.other W4 (Or.inr (slot_ne (Or.inr (ow hw 31 rfl)) (Or.inl (ow hw 70 rfl)) (by decide) (t := (.array .int)) (t' := .int) (by decide) (by decide)))
  have F_nameEnds := F_nameEnds.other W4 (Or.inr (slot_ne (Or.inr (ow hw 33 rfl)) (Or.inl (ow hw 70 rfl)) (by decide) (t := (.array .int)) (t' := .int) (by decide) (by decide)))
  have F_valueStarts := F_valueStarts.other W4 (Or.inr (slot_ne (Or.inr (ow hw 35 rfl)) (Or.inl (ow hw 70 rfl)) (by decide) (t := (.array .int)) (t' := .int) (by decide) (by decide)))
  have F_valueEnds := F_valueEnds.other W4 (Or.inr (slot_ne (Or.inr (ow hw 37 rfl)) (Or.inl (ow hw 70 rfl)) (by decide) (t := (.array .int)) (t' := .int) (by decide) (by decide)))
  have F_qNames := F_qNames.other W4 (Or.inr (slot_ne (Or.inr (ow hw 41 rfl)) (Or.inl (ow hw 70 rfl)) (by decide) (t := (.array (.object "java/lang/String"))) (t' := .int) (by decide) (by decide)))
  have F_localNames := F_localNames.other W4 (Or.inr (slot_ne (Or.inr (ow hw 43 rfl)) (Or.inl (ow hw 70 rfl)) (by decide) (t := (.array (.object "java/lang/String"))) (t' := .int) (by decide) (by decide)))
  have F_values := F_values.other W4 (Or.inr (slot_ne (Or.inr (ow hw 45 rfl)) (Or.inl (ow hw 70 rfl)) (by decide) (t := (.array (.object "java/lang/String"))) (t' := .int) (by decide) (by decide)))
  have F_told := F_told.other W4 (Or.inr (slot_ne (Or.inr (ow hw 47 rfl)) (Or.inl (ow hw 70 rfl)) (by decide) (t := (.array .int)) (t' := .int) (by decide) (by decide)))
  have F_uris := F_uris.other W4 (Or.inr (slot_ne (Or.inr (ow hw 49 rfl)) (Or.inl (ow hw 70 rfl)) (by decide) (t := (.array (.object "java/lang/String"))) (t' := .int) (by decide) (by decide)))
  have F_added := F_added.other W4 (Or.inr (slot_ne (Or.inl (ow hw 56 rfl)) (Or.inl (ow hw 70 rfl)) (by decide) (t := .int) (t' := .int) (by decide) (by decide)))
  have V_r_1 := V_r_1.other W4 (Ne.symm (own_ndi hnd 0 1 rfl rfl (by decide)))
  have V_r_2 := V_r_2.other W4 (Ne.symm (own_ndi hnd 0 2 rfl rfl (by decide)))
  have V_r_3 := V_r_3.other W4 (Ne.symm (own_ndi hnd 0 3 rfl rfl (by decide)))
  have V_r_4 := V_r_4.other W4 (Ne.symm (own_ndi hnd 0 4 rfl rfl (by decide)))
  have V_r_5 := V_r_5.other W4 (Ne.symm (own_ndi hnd 0 5 rfl rfl (by decide)))
  have V_r_6 := V_r_6.other W4 (Ne.symm (own_ndi hnd 0 6 rfl rfl (by decide)))
  have V_r_7 := V_r_7.other W4 (Ne.symm (own_ndi hnd 0 7 rfl rfl (by decide)))
  have V_r_8 := V_r_8.other W4 (Ne.symm (own_ndi hnd 0 8 rfl rfl (by decide)))
  have V_r_9 := V_r_9.other W4 (Ne.symm (own_ndi hnd 0 9 rfl rfl (by decide)))
  have V_r_10 := V_r_10.other W4 (Ne.symm (own_ndi hnd 0 10 rfl rfl (by decide)))
  have Zs5 := Nat.le_trans Zs2 (Keep.of_wr W4).1
  have Kp6 := Kp3.wr W4 (Or.inl (List.mem_of_getElem? (i := 0) rfl))
  refine Go.st (S' := T4.setTop (mkF m 10 #[vr a0] [])) st4 ?_
  exact Go.ret0 X4 hx hlk Bd.returns (hb hby d36_10) (by rw [e4]; exact ⟨rfl, N4, Kp6, ⟨_, _, _, _, _, _, _, _, _, _, _, E_a0, F_bytes, F_nameStarts, F_localNameStarts, F_nameEnds, F_valueStarts, F_valueEnds, F_qNames, F_localNames, F_values, F_told, F_uris, F_added, F_length, V_r_1, V_r_2, V_r_3, V_r_4, V_r_5, V_r_6, V_r_7, V_r_8, V_r_9, V_r_10, O_6, O_7, O_8, O_10⟩⟩) (by decide) (by decide)
theorem d10_0 : decode prog_21_method_17_code 0 = .ok (.iload_n 1, 1) := by decide +kernel
theorem d10_1 : decode prog_21_method_17_code 1 = .ok (.ifCond .lt 15, 3) := by decide +kernel
theorem d10_4 : decode prog_21_method_17_code 4 = .ok (.iload_n 1, 1) := by decide +kernel
theorem d10_5 : decode prog_21_method_17_code 5 = .ok (.aload_n 0, 1) := by decide +kernel
theorem d10_6 : decode prog_21_method_17_code 6 = .ok (.getfield 51, 3) := by decide +kernel
theorem d10_9 : decode prog_21_method_17_code 9 = .ok (.if_icmp .ge 7, 3) := by decide +kernel
theorem d10_12 : decode prog_21_method_17_code 12 = .ok (.iconst 1, 1) := by decide +kernel
theorem d10_13 : decode prog_21_method_17_code 13 = .ok (.goto 4, 3) := by decide +kernel
theorem d10_17 : decode prog_21_method_17_code 17 = .ok (.ireturn, 1) := by decide +kernel
theorem ef_10 (m : MethodId) (a0 : Addr) (p1 : Int32) : entryFrame m #[(.ref a0), (.int p1)] 2 = mkF m 0 #[.val (.ref a0), .val (.int p1)] [] := by first | (simp [entryFrame, mkF, argsToLocals, Value.category]; done) | rfl
theorem rmIT (l : Launch) (Z : State) (az : Array Value) (hw : HW az Z) (ws : List Jvm.Cond) (a0 : Addr) (p1 : Int32)  (h0 : Heap) (n0 : Nat) (Z0 : n0 ≤ h0.size) (F_length : Fld Z h0 a0 "com/example/grantbook/grantbook/licence/PlainAttributes" "length" "I" (.int 1)) (h1 : p1 = 0) :
    MF l mN6 (Jvm.Cond.code mN6 prog_21_method_17_code 2 (some .boolean) :: ws) (rO 0 0 0 0) #[(.ref a0), (.int p1)] Z h0 (PQ (.int 1) n0 h0) := by
  refine MetFree.of_bodySF (plainFor_of_name pn_7) hisR ?_
  intro p e s m args below meth c s₁ Bd hml0 hP hK
  obtain ⟨rfl, hZ, hh⟩ := hP
  have hx := Bd.exec
  have hby := Bd.bytes
  have hlk : meth.locks = false := Bd.notSynchronized
  have hml : c.maxLocals = 2 := hml0
  have hown : s.vm.findClass "com/example/grantbook/grantbook/licence/PlainAttributes" = some m.cls := findClass_of_methodNamed Bd.named
  have X0 : Stand p l e (rO 0 0 0 0) s m #[(.ref a0), (.int p1)] below meth c s₁ [] 0 0 := Stand.of_body Bd
  have e0 : s₁.heap = h0 := by rw [← hh, Bd.state]; rfl
  have N0 := Fr.nil n0
  show Go p e below s ((PQ (.int 1) n0 h0)) (rO 0 0 0 0).cells (rO 0 0 0 0).slots (s₁.setTop (entryFrame m #[(.ref a0), (.int p1)] 2))
  rw [ef_10 m a0 p1]
  subst h1
  refine Go.st (S' := s₁.setTop (mkF m 6 #[vr a0, vi 0] [.ref a0, .int 0])) (fun _ kk => XS.iloadN X0.here hx rfl (hb hby d10_0) rfl (XS.ifNo X0.here hx rfl (hb hby d10_1) rfl ((if0 _ _).trans (flt (by decide : ¬ ((0 : Int32) < (0 : Int32)))).1) (XS.iloadN X0.here hx rfl (hb hby d10_4) rfl (XS.aloadN X0.here hx rfl (hb hby d10_5) rfl rfl kk)))) ?_
  obtain ⟨T1, X1, e1, st1⟩ := getF X0 hx hZ hown (host := "") (Or.inl (ow hw 69 rfl)) Via.refl e0 F_length (g := (mkF m 6 #[vr a0, vi 0] [.ref a0, .int 0])) rfl rfl (hb hby d10_6)
  refine Go.st (S' := T1.setTop (mkF m 17 #[vr a0, vi 0] [.int 1])) (fun _ kk => st1 _ (XS.icmpNo X1.here hx rfl (hb hby d10_9) rfl (tlt (by decide : (0 : Int32) < (1 : Int32))).2.1 (XS.iconst X1.here hx rfl (hb hby d10_12) (XS.goto X1.here hx rfl (pc0 := 13) (pc' := 17) rfl (hb hby d10_13) (by decide) (by decide) kk)))) ?_
  exact Go.retN X1 hx hlk (t := .boolean) Bd.returns (by simp) (hb hby d10_17) (⟨rfl, N0, e1⟩) (by decide) (by decide)
theorem own_pq (a b : Int32) : a + (b - a) = b := by rw [Int32.add_comm, Int32.sub_add_cancel]
theorem own_hod {a b z : Int32} {bs : List Int32} (hz : z.toInt = bs.length) (hr : 0 ≤ a.toInt ∧ a.toInt ≤ b.toInt ∧ b.toInt ≤ bs.length) : 0 ≤ a.toInt ∧ 0 ≤ (b - a).toInt ∧ a.toInt + (b - a).toInt ≤ bs.length := by
  have := own_dif hz hr
  omega
def PCW (Z : State) (h0 : Heap) (vm : Vm) : Prop := CHv Z consts_1 vm h0
def Q_tx (Z : State) (bs : List Int32) (p1 p2 : Int32) (h0 : Heap) (n0 : Nat) (v : Option Value) (h : Heap) (vm : Vm) (L : List Loc) : Prop := ∃ s : Addr, v = some (.ref s) ∧ Fr n0 L ∧ Keep h0 h [] ∧ CHv Z consts_1 vm h ∧ CSt Z h s (own_sl bs p1 p2) ∧ h0.size ≤ s
def Q_gt (Z : State) (ws : List Addr) (PP : Heap → Addr → Prop) (cs : List Int32) (h0 : Heap) (n0 : Nat) (v : Option Value) (h : Heap) (vm : Vm) (L : List Loc) : Prop := ∃ s : Addr, v = some (.ref s) ∧ Fr n0 L ∧ Keep h0 h ws ∧ CHv Z consts_1 vm h ∧ PP h s ∧ CSt Z h s cs
theorem d12_0 : decode prog_21_method_15_code 0 = .ok (.new 29, 3) := by decide +kernel
theorem d12_3 : decode prog_21_method_15_code 3 = .ok (.dup, 1) := by decide +kernel
theorem d12_4 : decode prog_21_method_15_code 4 = .ok (.aload_n 0, 1) := by decide +kernel
theorem d12_5 : decode prog_21_method_15_code 5 = .ok (.getfield 7, 3) := by decide +kernel
theorem d12_8 : decode prog_21_method_15_code 8 = .ok (.iload_n 1, 1) := by decide +kernel
theorem d12_9 : decode prog_21_method_15_code 9 = .ok (.iload_n 2, 1) := by decide +kernel
theorem d12_10 : decode prog_21_method_15_code 10 = .ok (.iload_n 1, 1) := by decide +kernel
theorem d12_11 : decode prog_21_method_15_code 11 = .ok (.isub, 1) := by decide +kernel
theorem d12_12 : decode prog_21_method_15_code 12 = .ok (.getstatic 93, 3) := by decide +kernel
theorem d12_15 : decode prog_21_method_15_code 15 = .ok (.invokespecial 90, 3) := by decide +kernel
theorem d12_18 : decode prog_21_method_15_code 18 = .ok (.areturn, 1) := by decide +kernel
theorem ef_12 (m : MethodId) (a0 : Addr) (p1 : Int32) (p2 : Int32) : entryFrame m #[(.ref a0), (.int p1), (.int p2)] 3 = mkF m 0 #[.val (.ref a0), .val (.int p1), .val (.int p2)] [] := by first | (simp [entryFrame, mkF, argsToLocals, Value.category]; done) | rfl
theorem rmTx (l : Launch) (Z : State) (az : Array Value) (hw : HW az Z) (ws : List Jvm.Cond) (a0 : Addr) (p1 : Int32) (p2 : Int32) (bb : Addr) (zc : Int32) (fm : Value) (uu ui ua : Addr) (k0 : ClassId) (z : Int32) (bs : List Int32) (h0 : Heap) (n0 : Nat) (Z0 : n0 ≤ h0.size) (S_C : tS0 Z h0 (.int zc)) (hzc : ¬ zc = 0) (S_F : tS1 Z h0 fm) (hfm : fm.isRef = true) (S_uu : tS2 Z h0 (.ref uu)) (S_ui : tS3 Z h0 (.ref ui)) (S_ua : tS4 Z h0 (.ref ua)) (nui : uu ≠ ui) (nua : uu ≠ ua) (nia : ui ≠ ua) (S_su : tS5 Z h0 (.ref uu)) (S_sa : tS6 Z h0 (.ref ua)) (E_uu : Exa Z h0 uu "sun/nio/cs/UTF_8") (E_ua : Exa Z h0 ua "sun/nio/cs/US_ASCII") (V_bb : Arv Z h0 bb k0 .byte z (bs.map .int) (.int 0)) (hz : z.toInt = bs.length) (hbs : ∀ b ∈ bs, 0 ≤ b.toInt ∧ b.toInt ≤ 127) (E_bb : Exa Z h0 bb "[B") (hs6 : bs.length ≤ 6) (F_bytes : Fld Z h0 a0 "com/example/grantbook/grantbook/licence/PlainAttributes" "bytes" "[B" (.ref bb)) (hr : 0 ≤ p1.toInt ∧ p1.toInt ≤ p2.toInt ∧ p2.toInt ≤ bs.length) :
    MetFree l mN10 (head1 (Jvm.Cond.code mN10 prog_21_method_15_code 3 (some (.object "java/lang/String")) :: ws) (rO 5 3 10 110)) (fun a U => a = #[(.ref a0), (.int p1), (.int p2)] ∧ Z.Warmed39 U.vm ∧ U.heap = h0 ∧ (PCW Z h0) U.vm) (fun _ _ _ _ _ => True) (fun _ U o U' => ∃ v L, o = .returned v ∧ (Q_tx Z bs p1 p2 h0 n0) v U'.heap U'.vm L ∧ ReturnedEndW U o U' L (rO 5 3 10 110).cells (rO 5 3 10 110).slots) := by
  refine MetFree.of_bodySF (plainFor_of_name pn_7) hisR ?_
  intro p e s m args below meth c s₁ Bd hml0 hP hK
  obtain ⟨rfl, hZ, hh, Hc⟩ := hP
  have hx := Bd.exec
  have hby := Bd.bytes
  have hlk : meth.locks = false := Bd.notSynchronized
  have hml : c.maxLocals = 3 := hml0
  have hown : s.vm.findClass "com/example/grantbook/grantbook/licence/PlainAttributes" = some m.cls := findClass_of_methodNamed Bd.named
  have X0 : Stand p l e (rO 5 3 10 110) s m #[(.ref a0), (.int p1), (.int p2)] below meth c s₁ [] 0 0 := Stand.of_body Bd
  have X0 : Stand p l e (rO 5 3 10 110) (s.setVm s.vm) m #[(.ref a0), (.int p1), (.int p2)] below meth c s₁ [] 0 0 := X0
  have e0 : s₁.heap = h0 := by rw [← hh, Bd.state]; rfl
  have hS : s.Since s.vm n0 := (State.WarmedH.refl s).since n0
  have hk : n0 ≤ h0.size := Z0
  have N0 := Fr.nil n0
  show GoW p e below s ((Q_tx Z bs p1 p2 h0 n0)) (rO 5 3 10 110).cells (rO 5 3 10 110).slots (s₁.setTop (entryFrame m #[(.ref a0), (.int p1), (.int p2)] 3))
  rw [ef_12 m a0 p1 p2]
  have ho := own_hod hz hr
  obtain ⟨T1, h1, X1, e1, E1, A1, D1, -, st1⟩ := newO X0 hx hZ hown (ow hw 38 rfl) (ow hw 59 rfl) (ow hw 58 rfl) e0 (g := (mkF m 0 #[vr a0, vi p1, vi p2] [])) rfl (hb hby d12_0) (by decide : 0 + 1 ≤ _) (by decide : 0 + 4 ≤ _)
  obtain ⟨b1, g1⟩ : ∃ z, z = h0.size := ⟨_, rfl⟩
  rw [← g1] at A1 D1 st1
  have ne_uu_b1 : uu ≠ b1 := Nat.ne_of_lt (Nat.lt_of_lt_of_le E_uu.lt (Nat.le_of_eq g1.symm))
  have ne_ua_b1 : ua ≠ b1 := Nat.ne_of_lt (Nat.lt_of_lt_of_le E_ua.lt (Nat.le_of_eq g1.symm))
  have ne_bb_b1 : bb ≠ b1 := Nat.ne_of_lt (Nat.lt_of_lt_of_le V_bb.lt (Nat.le_of_eq g1.symm))
  have ne_a0_b1 : a0 ≠ b1 := Nat.ne_of_lt (Nat.lt_of_lt_of_le F_bytes.lt (Nat.le_of_eq g1.symm))
  have g_b1 : n0 ≤ b1 := Nat.le_trans Z0 (Nat.le_of_eq g1.symm)
  have Sf_b1 : Safe Z consts_1 s.vm h0 b1 := Safe.new (Nat.le_of_eq g1.symm)
  have sz_b1 : h0.size ≤ b1 := Nat.le_trans (Keep.refl h0 []).1 (Nat.le_of_eq g1.symm)
  have Sf_b1' := Safe.ext E1 Hc Sf_b1
  have Hc := CHv.ext E1 Hc
  have Sf_b1 := Sf_b1'
  have S_C := S_C.ext E1
  have S_F := S_F.ext E1
  have S_uu := S_uu.ext E1
  have S_ui := S_ui.ext E1
  have S_ua := S_ua.ext E1
  have S_su := S_su.ext E1
  have S_sa := S_sa.ext E1
  have E_uu := E_uu.ext E1
  have E_ua := E_ua.ext E1
  have V_bb := V_bb.ext E1
  have E_bb := E_bb.ext E1
  have F_bytes := F_bytes.ext E1
  have Zs2 := Nat.le_trans Z0 E1.1
  have hk := Nat.le_trans hk E1.1
  have Kp3 := (Keep.refl h0 []).ext E1
  have E_b1 := A1
  have F_value_b1 : tF1 Z h1 b1 .null := D1 (Or.inr (ow hw 60 rfl)) (ty := (.array .byte)) (by decide)
  have F_coder_b1 : tF0 Z h1 b1 (.int 0) := D1 (Or.inr (ow hw 61 rfl)) (ty := .byte) (by decide)
  refine GoW.st (S' := T1.setTop (mkF m 5 #[vr a0, vi p1, vi p2] [.ref a0, .ref b1, .ref b1])) (fun _ kk => st1 _ (XS.dup X1.here hx rfl (hb hby d12_3) rfl rfl (XS.aloadN X1.here hx rfl (hb hby d12_4) rfl rfl kk))) ?_
  obtain ⟨T4, X4, e4, st4⟩ := getF X1 hx hZ hown (host := "") (Or.inl (ow hw 26 rfl)) Via.refl e1 F_bytes (g := (mkF m 5 #[vr a0, vi p1, vi p2] [.ref a0, .ref b1, .ref b1])) rfl rfl (hb hby d12_5)
  refine GoW.st (S' := T4.setTop (mkF m 12 #[vr a0, vi p1, vi p2] [.int (p2 - p1), .int p1, .ref bb, .ref b1, .ref b1])) (fun _ kk => st4 _ (XS.iloadN X4.here hx rfl (hb hby d12_8) rfl (XS.iloadN X4.here hx rfl (hb hby d12_9) rfl (XS.iloadN X4.here hx rfl (hb hby d12_10) rfl (XS.isub X4.here hx rfl (hb hby d12_11) rfl kk))))) ?_
  obtain ⟨T5, X5, e5, st5⟩ := getS2 X4 hx hZ hown (host := "") (Or.inl (ow hw 89 rfl)) Via.refl e4 S_sa (g := (mkF m 12 #[vr a0, vi p1, vi p2] [.int (p2 - p1), .int p1, .ref bb, .ref b1, .ref b1])) rfl (hb hby d12_12)
  refine GoW.st (S' := T5.setTop (mkF m 15 #[vr a0, vi p1, vi p2] [.ref ua, .int (p2 - p1), .int p1, .ref bb, .ref b1, .ref b1])) st5 ?_
  obtain ⟨_, _, ⟨T6, L6, k6, n6⟩, -, X6, hS6, hg6, ⟨Lc6, hQ6, l6, y6, z6⟩, st6⟩ := X5.specialBackS hx (y := mN19) rfl hown (mvT hZ (ow hw 91 rfl)) (mvT hZ (ow hw 92 rfl)) (mvT hZ (ow hw 93 rfl)) (by decide) (own_backS (W := 1) (P := PCS Z h1 b1) (rmIB_ua l Z az hw [] b1 bb p1 (p2 - p1) ua zc fm uu ui ua k0 z bs h1 n0 Zs2 S_C hzc S_F hfm  S_uu S_ui S_ua nui nua nia E_b1 F_coder_b1 F_value_b1 g_b1 (Ne.symm ne_bb_b1) V_bb hz hbs E_bb ho hs6 E_ua rfl) hZ (ow hw 93 rfl) (ow hw 58 rfl) (by decide) (by decide)) (g := (mkF m 15 #[vr a0, vi p1, vi p2] [.ref ua, .int (p2 - p1), .int p1, .ref bb, .ref b1, .ref b1])) rfl (by rw [hml]; rfl) (Steps.refl _) (a := b1) (argsL := [.ref bb, .int p1, .int (p2 - p1), .ref ua]) (rest := [.ref b1]) (lenOf pd_9 rfl) rfl (oW rfl rfl) (hb hby d12_15) (fun vmq hvq => ⟨rfl, e5, ⟨(own_chat hZ hvq (own_EW hw) Hc).1, (own_chat hZ hvq (own_EW hw) Hc).safe E_b1.lt Sf_b1⟩, (by decide : 1 + 2 ≤ _), (by decide : 4 + 6 ≤ _)⟩)
  dsimp only [Pt.U, Pt.locs, Pt.cells, Pt.slots] at X6 l6 y6 z6 st6 hQ6 hS6 hg6
  rw [l6, y6, z6] at X6
  obtain ⟨X6, hS, hZ, hown⟩ := rebS hS (own_hk e5 hk) X6 hS6 hg6 hZ hown
  obtain ⟨rfl, N6q, K6, Hc6, CS6⟩ := hQ6
  have N6 := Fr.app N0 N6q
  have S_C := own_stak K6 (allS (P := fun x => ∀ cell : Cell, (h1)[x]? = some cell → cell.vm.isStatics = false) (Exa.nostat E_b1) all0) S_C
  have S_F := own_stak K6 (allS (P := fun x => ∀ cell : Cell, (h1)[x]? = some cell → cell.vm.isStatics = false) (Exa.nostat E_b1) all0) S_F
  have S_uu := own_stak K6 (allS (P := fun x => ∀ cell : Cell, (h1)[x]? = some cell → cell.vm.isStatics = false) (Exa.nostat E_b1) all0) S_uu
  have S_ui := own_stak K6 (allS (P := fun x => ∀ cell : Cell, (h1)[x]? = some cell → cell.vm.isStatics = false) (Exa.nostat E_b1) all0) S_ui
  have S_ua := own_stak K6 (allS (P := fun x => ∀ cell : Cell, (h1)[x]? = some cell → cell.vm.isStatics = false) (Exa.nostat E_b1) all0) S_ua
  have S_su := own_stak K6 (allS (P := fun x => ∀ cell : Cell, (h1)[x]? = some cell → cell.vm.isStatics = false) (Exa.nostat E_b1) all0) S_su
  have S_sa := own_stak K6 (allS (P := fun x => ∀ cell : Cell, (h1)[x]? = some cell → cell.vm.isStatics = false) (Exa.nostat E_b1) all0) S_sa
  have E_uu := E_uu.keep K6
  have E_ua := E_ua.keep K6
  have V_bb := V_bb.keep K6 (ninS ne_bb_b1 nin0)
  have E_bb := E_bb.keep K6
  have F_bytes := F_bytes.keep K6 (ninS ne_a0_b1 nin0)
  have E_b1 := E_b1.keep K6
  have Zs7 := Nat.le_trans Zs2 K6.1
  have hk := Nat.le_trans hk K6.1
  have Kp8 := Kp3.trans K6 (allS (Or.inr sz_b1) all0)
  have Hc := Hc6
  have Ec6 := CS6.1
  have hk : T6.heap.size ≤ (T6.heap).size := Nat.le_of_eq (congrArg Array.size (show T6.heap = T6.heap from rfl))
  refine GoW.tr (S' := T6.setTop (mkF m 18 #[vr a0, vi p1, vi p2] [.ref b1])) st6 ?_
  exact GoW.retA X6 hx hlk hS (own_hk rfl hk) Bd.returns rfl rfl (hb hby d12_18) (by exact ⟨_, rfl, N6, Kp8, (own_chat hZ X6.warmed (own_EW hw) Hc).1, (by have q := CS6; rw [own_pq p1 p2] at q; exact q), sz_b1⟩) (by decide) (by decide)
theorem d11_0 : decode prog_21_method_13_code 0 = .ok (.aload_n 0, 1) := by decide +kernel
theorem d11_1 : decode prog_21_method_13_code 1 = .ok (.getfield 31, 3) := by decide +kernel
theorem d11_4 : decode prog_21_method_13_code 4 = .ok (.iload_n 1, 1) := by decide +kernel
theorem d11_5 : decode prog_21_method_13_code 5 = .ok (.aaload, 1) := by decide +kernel
theorem d11_6 : decode prog_21_method_13_code 6 = .ok (.ifnonnull 25, 3) := by decide +kernel
theorem d11_9 : decode prog_21_method_13_code 9 = .ok (.aload_n 0, 1) := by decide +kernel
theorem d11_10 : decode prog_21_method_13_code 10 = .ok (.getfield 31, 3) := by decide +kernel
theorem d11_13 : decode prog_21_method_13_code 13 = .ok (.iload_n 1, 1) := by decide +kernel
theorem d11_14 : decode prog_21_method_13_code 14 = .ok (.aload_n 0, 1) := by decide +kernel
theorem d11_15 : decode prog_21_method_13_code 15 = .ok (.aload_n 0, 1) := by decide +kernel
theorem d11_16 : decode prog_21_method_13_code 16 = .ok (.getfield 13, 3) := by decide +kernel
theorem d11_19 : decode prog_21_method_13_code 19 = .ok (.iload_n 1, 1) := by decide +kernel
theorem d11_20 : decode prog_21_method_13_code 20 = .ok (.iaload, 1) := by decide +kernel
theorem d11_21 : decode prog_21_method_13_code 21 = .ok (.aload_n 0, 1) := by decide +kernel
theorem d11_22 : decode prog_21_method_13_code 22 = .ok (.getfield 20, 3) := by decide +kernel
theorem d11_25 : decode prog_21_method_13_code 25 = .ok (.iload_n 1, 1) := by decide +kernel
theorem d11_26 : decode prog_21_method_13_code 26 = .ok (.iaload, 1) := by decide +kernel
theorem d11_27 : decode prog_21_method_13_code 27 = .ok (.invokevirtual 70, 3) := by decide +kernel
theorem d11_30 : decode prog_21_method_13_code 30 = .ok (.aastore, 1) := by decide +kernel
theorem d11_31 : decode prog_21_method_13_code 31 = .ok (.aload_n 0, 1) := by decide +kernel
theorem d11_32 : decode prog_21_method_13_code 32 = .ok (.getfield 31, 3) := by decide +kernel
theorem d11_35 : decode prog_21_method_13_code 35 = .ok (.iload_n 1, 1) := by decide +kernel
theorem d11_36 : decode prog_21_method_13_code 36 = .ok (.aaload, 1) := by decide +kernel
theorem d11_37 : decode prog_21_method_13_code 37 = .ok (.areturn, 1) := by decide +kernel
theorem ef_11 (m : MethodId) (a0 : Addr) (p1 : Int32) : entryFrame m #[(.ref a0), (.int p1)] 2 = mkF m 0 #[.val (.ref a0), .val (.int p1)] [] := by first | (simp [entryFrame, mkF, argsToLocals, Value.category]; done) | rfl
theorem rmMqName (l : Launch) (Z : State) (az : Array Value) (hw : HW az Z) (ws : List Jvm.Cond) (a0 : Addr) (p1 : Int32) (bb r_1 r_2 r_3 r_4 r_5 r_6 r_7 r_8 r_9 r_10 : Addr) (kr_1 kr_2 kr_3 kr_4 kr_5 kr_6 kr_7 kr_8 kr_9 kr_10 : ClassId) (zc : Int32) (fm : Value) (uu ui ua : Addr) (k0 : ClassId) (z : Int32) (bs : List Int32) (ad x_1 x_2 x_3 x_4 x_5 : Int32) (c_2 c_3 : Value) (h0 : Heap) (n0 : Nat) (Z0 : n0 ≤ h0.size) (S_C : tS0 Z h0 (.int zc)) (hzc : ¬ zc = 0) (S_F : tS1 Z h0 fm) (hfm : fm.isRef = true) (S_uu : tS2 Z h0 (.ref uu)) (S_ui : tS3 Z h0 (.ref ui)) (S_ua : tS4 Z h0 (.ref ua)) (nui : uu ≠ ui) (nua : uu ≠ ua) (nia : ui ≠ ua) (S_su : tS5 Z h0 (.ref uu)) (S_sa : tS6 Z h0 (.ref ua)) (E_uu : Exa Z h0 uu "sun/nio/cs/UTF_8") (E_ua : Exa Z h0 ua "sun/nio/cs/US_ASCII") (V_bb : Arv Z h0 bb k0 .byte z (bs.map .int) (.int 0)) (hz : z.toInt = bs.length) (hbs : ∀ b ∈ bs, 0 ≤ b.toInt ∧ b.toInt ≤ 127) (E_bb : Exa Z h0 bb "[B") (hs6 : bs.length ≤ 6) (PA : PAt Z h0 a0 bb r_1 r_2 r_3 r_4 r_5 r_6 r_7 r_8 r_9 r_10 kr_1 kr_2 kr_3 kr_4 kr_5 kr_6 kr_7 kr_8 kr_9 kr_10 ad 1 x_1 x_2 x_3 x_4 x_5 .null c_2 c_3 0) (hnd : [a0, r_1, r_2, r_3, r_4, r_5, r_6, r_7, r_8, r_9, r_10].Nodup) (hg : ∀ x ∈ [a0, r_1, r_2, r_3, r_4, r_5, r_6, r_7, r_8, r_9, r_10], n0 ≤ x) (hr : 0 ≤ x_1.toInt ∧ x_1.toInt ≤ x_3.toInt ∧ x_3.toInt ≤ bs.length) (h1 : p1 = 0) :
    MetFree l mN8 (head1 (Jvm.Cond.code mN8 prog_21_method_13_code 2 (some (.object "java/lang/String")) :: ws) (rO 6 3 10 126)) (fun a U => a = #[(.ref a0), (.int p1)] ∧ Z.Warmed39 U.vm ∧ U.heap = h0 ∧ (PCW Z h0) U.vm) (fun _ _ _ _ _ => True) (fun _ U o U' => ∃ v L, o = .returned v ∧ (Q_gt Z [a0, r_1, r_2, r_3, r_4, r_5, r_6, r_7, r_8, r_9, r_10] (fun h s => PAt Z h a0 bb r_1 r_2 r_3 r_4 r_5 r_6 r_7 r_8 r_9 r_10 kr_1 kr_2 kr_3 kr_4 kr_5 kr_6 kr_7 kr_8 kr_9 kr_10 ad 1 x_1 x_2 x_3 x_4 x_5 (.ref s) c_2 c_3 0) (own_sl bs x_1 x_3) h0 n0) v U'.heap U'.vm L ∧ ReturnedEndW U o U' L (rO 6 3 10 126).cells (rO 6 3 10 126).slots) := by
  refine MetFree.of_bodySF (plainFor_of_name pn_7) hisR ?_
  intro p e s m args below meth c s₁ Bd hml0 hP hK
  obtain ⟨rfl, hZ, hh, Hc⟩ := hP
  have hx := Bd.exec
  have hby := Bd.bytes
  have hlk : meth.locks = false := Bd.notSynchronized
  have hml : c.maxLocals = 2 := hml0
  have hown : s.vm.findClass "com/example/grantbook/grantbook/licence/PlainAttributes" = some m.cls := findClass_of_methodNamed Bd.named
  have X0 : Stand p l e (rO 6 3 10 126) s m #[(.ref a0), (.int p1)] below meth c s₁ [] 0 0 := Stand.of_body Bd
  have X0 : Stand p l e (rO 6 3 10 126) (s.setVm s.vm) m #[(.ref a0), (.int p1)] below meth c s₁ [] 0 0 := X0
  have e0 : s₁.heap = h0 := by rw [← hh, Bd.state]; rfl
  have hS : s.Since s.vm n0 := (State.WarmedH.refl s).since n0
  have hk : n0 ≤ h0.size := Z0
  have N0 := Fr.nil n0
  show GoW p e below s ((Q_gt Z [a0, r_1, r_2, r_3, r_4, r_5, r_6, r_7, r_8, r_9, r_10] (fun h s => PAt Z h a0 bb r_1 r_2 r_3 r_4 r_5 r_6 r_7 r_8 r_9 r_10 kr_1 kr_2 kr_3 kr_4 kr_5 kr_6 kr_7 kr_8 kr_9 kr_10 ad 1 x_1 x_2 x_3 x_4 x_5 (.ref s) c_2 c_3 0) (own_sl bs x_1 x_3) h0 n0)) (rO 6 3 10 126).cells (rO 6 3 10 126).slots (s₁.setTop (entryFrame m #[(.ref a0), (.int p1)] 2))
  rw [ef_11 m a0 p1]
  subst h1
  obtain ⟨y_1, y_2, y_3, y_4, y_5, t_1, d_1, d_2, d_3, u_0, u_1, E_a0, F_bytes, F_nameStarts, F_localNameStarts, F_nameEnds, F_valueStarts, F_valueEnds, F_qNames, F_localNames, F_values, F_told, F_uris, F_added, F_length, V_r_1, V_r_2, V_r_3, V_r_4, V_r_5, V_r_6, V_r_7, V_r_8, V_r_9, V_r_10, O_6, O_7, O_8, O_10⟩ := PA
  have g_a0 : n0 ≤ a0 := hg _ (List.mem_of_getElem? (i := 0) rfl)
  have g_r_1 : n0 ≤ r_1 := hg _ (List.mem_of_getElem? (i := 1) rfl)
  have g_r_2 : n0 ≤ r_2 := hg _ (List.mem_of_getElem? (i := 2) rfl)
  have g_r_3 : n0 ≤ r_3 := hg _ (List.mem_of_getElem? (i := 3) rfl)
  have g_r_4 : n0 ≤ r_4 := hg _ (List.mem_of_getElem? (i := 4) rfl)
  have g_r_5 : n0 ≤ r_5 := hg _ (List.mem_of_getElem? (i := 5) rfl)
  have g_r_6 : n0 ≤ r_6 := hg _ (List.mem_of_getElem? (i := 6) rfl)
  have g_r_7 : n0 ≤ r_7 := hg _ (List.mem_of_getElem? (i := 7) rfl)
  have g_r_8 : n0 ≤ r_8 := hg _ (List.mem_of_getElem? (i := 8) rfl)
  have g_r_9 : n0 ≤ r_9 := hg _ (List.mem_of_getElem? (i := 9) rfl)
  have g_r_10 : n0 ≤ r_10 := hg _ (List.mem_of_getElem? (i := 10) rfl)
  refine GoW.st (S' := s₁.setTop (mkF m 1 #[vr a0, vi 0] [.ref a0])) (fun _ kk => XS.aloadN X0.here hx rfl (hb hby d11_0) rfl rfl kk) ?_
  obtain ⟨T1, X1, e1, st1⟩ := getF X0 hx hZ hown (host := "") (Or.inl (ow hw 40 rfl)) Via.refl e0 F_qNames (g := (mkF m 1 #[vr a0, vi 0] [.ref a0])) rfl rfl (hb hby d11_1)
  refine GoW.st (S' := T1.setTop (mkF m 5 #[vr a0, vi 0] [.int 0, .ref r_6])) (fun _ kk => st1 _ (XS.iloadN X1.here hx rfl (hb hby d11_4) rfl kk)) ?_
  obtain ⟨cl2, Ar2, qk2, S2, Ng2, H2, G2⟩ := (id V_r_6)
  have hin2 : ¬ ((0 : Int32) < 0 ∨ cl2.slots.size ≤ ((0 : Int32)).toNatClampNeg) := inb_of S2 ⟨by decide, by decide⟩
  have hat2 : cl2.slots[((0 : Int32)).toNatClampNeg]? = some .null := Has.at H2 hin2 rfl
  refine GoW.st (S' := T1.setTop (mkF m 10 #[vr a0, vi 0] [.ref a0])) (fun _ kk => X1.aaload hx (j := (0 : Int32)) (v := .null) (by rw [e1]; exact Ar2.1) (State.isArrayOf_alike hZ.alike Ar2.2.1) rfl Ar2.2.2 hin2 hat2 (g := (mkF m 5 #[vr a0, vi 0] [.int 0, .ref r_6])) rfl rfl (hb hby d11_5) _ (XS.ifnonnullNo X1.here hx rfl (hb hby d11_6) rfl (XS.aloadN X1.here hx rfl (hb hby d11_9) rfl rfl kk))) ?_
  obtain ⟨T3, X3, e3, st3⟩ := getF X1 hx hZ hown (host := "") (Or.inl (ow hw 40 rfl)) Via.refl e1 F_qNames (g := (mkF m 10 #[vr a0, vi 0] [.ref a0])) rfl rfl (hb hby d11_10)
  refine GoW.st (S' := T3.setTop (mkF m 16 #[vr a0, vi 0] [.ref a0, .ref a0, .int 0, .ref r_6])) (fun _ kk => st3 _ (XS.iloadN X3.here hx rfl (hb hby d11_13) rfl (XS.aloadN X3.here hx rfl (hb hby d11_14) rfl rfl (XS.aloadN X3.here hx rfl (hb hby d11_15) rfl rfl kk)))) ?_
  obtain ⟨T4, X4, e4, st4⟩ := getF X3 hx hZ hown (host := "") (Or.inl (ow hw 28 rfl)) Via.refl e3 F_nameStarts (g := (mkF m 16 #[vr a0, vi 0] [.ref a0, .ref a0, .int 0, .ref r_6])) rfl rfl (hb hby d11_16)
  refine GoW.st (S' := T4.setTop (mkF m 20 #[vr a0, vi 0] [.int 0, .ref r_1, .ref a0, .int 0, .ref r_6])) (fun _ kk => st4 _ (XS.iloadN X4.here hx rfl (hb hby d11_19) rfl kk)) ?_
  obtain ⟨cl5, Ar5, qk5, S5, Ng5, H5, G5⟩ := (id V_r_1)
  have hin5 : ¬ ((0 : Int32) < 0 ∨ cl5.slots.size ≤ ((0 : Int32)).toNatClampNeg) := inb_of S5 ⟨by decide, by decide⟩
  have hat5 : cl5.slots[((0 : Int32)).toNatClampNeg]? = some (.int x_1) := Has.at H5 hin5 rfl
  refine GoW.st (S' := T4.setTop (mkF m 22 #[vr a0, vi 0] [.ref a0, .int x_1, .ref a0, .int 0, .ref r_6])) (fun _ kk => X4.iaload hx (j := (0 : Int32)) (v := (.int x_1)) (by rw [e4]; exact Ar5.1) (State.isArrayOf_alike hZ.alike Ar5.2.1) Ar5.2.2 hin5 hat5 (g := (mkF m 20 #[vr a0, vi 0] [.int 0, .ref r_1, .ref a0, .int 0, .ref r_6])) rfl rfl (hb hby d11_20) _ (XS.aloadN X4.here hx rfl (hb hby d11_21) rfl rfl kk)) ?_
  obtain ⟨T6, X6, e6, st6⟩ := getF X4 hx hZ hown (host := "") (Or.inl (ow hw 32 rfl)) Via.refl e4 F_nameEnds (g := (mkF m 22 #[vr a0, vi 0] [.ref a0, .int x_1, .ref a0, .int 0, .ref r_6])) rfl rfl (hb hby d11_22)
  refine GoW.st (S' := T6.setTop (mkF m 26 #[vr a0, vi 0] [.int 0, .ref r_3, .int x_1, .ref a0, .int 0, .ref r_6])) (fun _ kk => st6 _ (XS.iloadN X6.here hx rfl (hb hby d11_25) rfl kk)) ?_
  obtain ⟨cl7, Ar7, qk7, S7, Ng7, H7, G7⟩ := (id V_r_3)
  have hin7 : ¬ ((0 : Int32) < 0 ∨ cl7.slots.size ≤ ((0 : Int32)).toNatClampNeg) := inb_of S7 ⟨by decide, by decide⟩
  have hat7 : cl7.slots[((0 : Int32)).toNatClampNeg]? = some (.int x_3) := Has.at H7 hin7 rfl
  refine GoW.st (S' := T6.setTop (mkF m 27 #[vr a0, vi 0] [.int x_3, .int x_1, .ref a0, .int 0, .ref r_6])) (fun _ kk => X6.iaload hx (j := (0 : Int32)) (v := (.int x_3)) (by rw [e6]; exact Ar7.1) (State.isArrayOf_alike hZ.alike Ar7.2.1) Ar7.2.2 hin7 hat7 (g := (mkF m 26 #[vr a0, vi 0] [.int 0, .ref r_3, .int x_1, .ref a0, .int 0, .ref r_6])) rfl rfl (hb hby d11_26) _ kk) ?_
  obtain ⟨cq8, qp8, qp8'⟩ := E_a0.cell
  obtain ⟨_, _, ⟨T8, L8, k8, n8⟩, -, X8, hS8, hg8, ⟨Lc8, hQ8, l8, y8, z8⟩, st8⟩ := X6.privateBackS hx (y := mN10) hown (mvT hZ (ow hw 85 rfl)) (mvT hZ (ow hw 86 rfl)) (own_selp hZ (ow hw 18 rfl) (ow hw 87 rfl) (ow hw 86 rfl) (by decide)) (Cond.privateMethod_at (mvP hZ (ow hw 87 rfl) (args := #[]))) (mvT hZ (ow hw 88 rfl)) (by decide) (own_backS (W := 2) (P := PCW Z h0) (rmTx l Z az hw [] a0 x_1 x_3 bb zc fm uu ui ua k0 z bs h0 n0 Z0 S_C hzc S_F hfm  S_uu S_ui S_ua nui nua nia S_su S_sa E_uu E_ua V_bb hz hbs E_bb hs6 F_bytes hr) hZ (ow hw 88 rfl) (ow hw 19 rfl) (by decide) (by decide)) (g := (mkF m 27 #[vr a0, vi 0] [.int x_3, .int x_1, .ref a0, .int 0, .ref r_6])) rfl (by rw [hml]; rfl) (Steps.refl _) (a := a0) (by rw [e6]; exact qp8) qp8' (argsL := [.int x_1, .int x_3]) (rest := [.int 0, .ref r_6]) (lenOf pd_8 rfl) rfl (oW rfl rfl) (hb hby d11_27) (fun vmq hvq => ⟨rfl, e6, (own_chat hZ hvq (own_EW hw) Hc).1, (by decide : 0 + 3 ≤ _), (by decide : 0 + 10 ≤ _)⟩)
  dsimp only [Pt.U, Pt.locs, Pt.cells, Pt.slots] at X8 l8 y8 z8 st8 hQ8 hS8 hg8
  rw [l8, y8, z8] at X8
  obtain ⟨X8, hS, hZ, hown⟩ := rebS hS (own_hk e6 hk) X8 hS8 hg8 hZ hown
  obtain ⟨s8, rfl, N8q, K8, Hc8, CS8, gs8⟩ := hQ8
  have N8 := Fr.app N0 N8q
  have Ex8 := own_extK K8
  have S_C := S_C.ext Ex8
  have S_F := S_F.ext Ex8
  have S_uu := S_uu.ext Ex8
  have S_ui := S_ui.ext Ex8
  have S_ua := S_ua.ext Ex8
  have S_su := S_su.ext Ex8
  have S_sa := S_sa.ext Ex8
  have E_uu := E_uu.ext Ex8
  have E_ua := E_ua.ext Ex8
  have V_bb := V_bb.ext Ex8
  have E_bb := E_bb.ext Ex8
  have E_a0 := E_a0.ext Ex8
  have F_bytes := F_bytes.ext Ex8
  have F_nameStarts := F_nameStarts.ext Ex8
  have F_localNameStarts := F_localNameStarts.ext Ex8
  have F_nameEnds := F_nameEnds.ext Ex8
  have F_valueStarts := F_valueStarts.ext Ex8
  have F_valueEnds := F_valueEnds.ext Ex8
  have F_qNames := F_qNames.ext Ex8
  have F_localNames := F_localNames.ext Ex8
  have F_values := F_values.ext Ex8
  have F_told := F_told.ext Ex8
  have F_uris := F_uris.ext Ex8
  have F_added := F_added.ext Ex8
  have F_length := F_length.ext Ex8
  have V_r_1 := V_r_1.ext Ex8
  have V_r_2 := V_r_2.ext Ex8
  have V_r_3 := V_r_3.ext Ex8
  have V_r_4 := V_r_4.ext Ex8
  have V_r_5 := V_r_5.ext Ex8
  have V_r_6 := V_r_6.ext Ex8
  have V_r_7 := V_r_7.ext Ex8
  have V_r_8 := V_r_8.ext Ex8
  have V_r_9 := V_r_9.ext Ex8
  have V_r_10 := V_r_10.ext Ex8
  have Zs9 := Nat.le_trans Z0 Ex8.1
  have hk := Nat.le_trans hk Ex8.1
  have Kp10 := (Keep.refl h0 [a0, r_1, r_2, r_3, r_4, r_5, r_6, r_7, r_8, r_9, r_10]).ext Ex8
  have Hc := Hc8
  have Ec8 := CS8.1
  have hk : T8.heap.size ≤ (T8.heap).size := Nat.le_of_eq (congrArg Array.size (show T8.heap = T8.heap from rfl))
  refine GoW.tr (S' := T8.setTop (mkF m 30 #[vr a0, vi 0] [.ref s8, .int 0, .ref r_6])) st8 ?_
  obtain ⟨cl11, Ar11, qk11, S11, Ng11, H11, G11⟩ := (id V_r_6)
  have hin11 : ¬ ((0 : Int32) < 0 ∨ cl11.slots.size ≤ ((0 : Int32)).toNatClampNeg) := inb_of S11 ⟨by decide, by decide⟩
  obtain ⟨T11, h11, X11, e11, W11, st11⟩ := stR X8 hx hZ rfl Ar11 (j := (0 : Int32)) hin11 rfl (Sto.ofV Ar11 qk11 O_6 (Ins.self Ec8)) (g := (mkF m 30 #[vr a0, vi 0] [.ref s8, .int 0, .ref r_6])) rfl rfl (hb hby d11_30)
  have V_r_6 : Arv Z h11 r_6 kr_6 (.object "java/lang/String") (2 : Int32) [(.ref s8), d_1] .null := Arv.set Ar11 qk11 S11 Ng11 H11 G11 rfl W11 0 rfl (Nat.le_of_ble_eq_true rfl)
  have N11 := Fr.snoc X11 N8 g_r_6
  have Hc := CHv.wr W11 (Safe.arr hZ.alike Ar11 (fun q => nomatch q)) Hc
  have S_C := S_C.wr W11
  have S_F := S_F.wr W11
  have S_uu := S_uu.wr W11
  have S_ui := S_ui.wr W11
  have S_ua := S_ua.wr W11
  have S_su := S_su.wr W11
  have S_sa := S_sa.wr W11
  have CS8 := CSt.fp (Keep.of_wr W11) (allS (P := FP Z T8.heap) (FP.arr Ar11 (fun q => nomatch q)) all0) (ow hw 59 rfl) (ow hw 18 rfl) CS8
  have E_uu := E_uu.wr W11
  have E_ua := E_ua.wr W11
  have E_a0 := E_a0.wr W11
  have F_bytes := F_bytes.other W11 (Or.inl (own_ndi hnd 0 6 rfl rfl (by decide)))
  have F_nameStarts := F_nameStarts.other W11 (Or.inl (own_ndi hnd 0 6 rfl rfl (by decide)))
  have F_localNameStarts := F_localNameStarts.other W11 (Or.inl (own_ndi hnd 0 6 rfl rfl (by decide)))
  have F_nameEnds := F_nameEnds.other W11 (Or.inl (own_ndi hnd 0 6 rfl rfl (by decide)))
  have F_valueStarts := F_valueStarts.other W11 (Or.inl (own_ndi hnd 0 6 rfl rfl (by decide)))
  have F_valueEnds := F_valueEnds.other W11 (Or.inl (own_ndi hnd 0 6 rfl rfl (by decide)))
  have F_qNames := F_qNames.other W11 (Or.inl (own_ndi hnd 0 6 rfl rfl (by decide)))
  have F_localNames := F_localNames.other W11 (Or.inl (own_ndi hnd 0 6 rfl rfl (by decide)))
  have F_values := F_values.other W11 (Or.inl (own_ndi hnd 0 6 rfl rfl (by decide)))
  have F_told := F_told.other W11 (Or.inl (own_ndi hnd 0 6 rfl rfl (by decide)))
  have F_uris := F_uris.other W11 (Or.inl (own_ndi hnd 0 6 rfl rfl (by decide)))
  have F_added := F_added.other W11 (Or.inl (own_ndi hnd 0 6 rfl rfl (by decide)))
  have F_length := F_length.other W11 (Or.inl (own_ndi hnd 0 6 rfl rfl (by decide)))
  have V_r_1 := V_r_1.other W11 (own_ndi hnd 1 6 rfl rfl (by decide))
  have V_r_2 := V_r_2.other W11 (own_ndi hnd 2 6 rfl rfl (by decide))
  have V_r_3 := V_r_3.other W11 (own_ndi hnd 3 6 rfl rfl (by decide))
  have V_r_4 := V_r_4.other W11 (own_ndi hnd 4 6 rfl rfl (by decide))
  have V_r_5 := V_r_5.other W11 (own_ndi hnd 5 6 rfl rfl (by decide))
  have V_r_7 := V_r_7.other W11 (Ne.symm (own_ndi hnd 6 7 rfl rfl (by decide)))
  have V_r_8 := V_r_8.other W11 (Ne.symm (own_ndi hnd 6 8 rfl rfl (by decide)))
  have V_r_9 := V_r_9.other W11 (Ne.symm (own_ndi hnd 6 9 rfl rfl (by decide)))
  have V_r_10 := V_r_10.other W11 (Ne.symm (own_ndi hnd 6 10 rfl rfl (by decide)))
  have Ec8 := Ec8.wr W11
  have Zs12 := Nat.le_trans Zs9 (Keep.of_wr W11).1
  have hk := Nat.le_trans hk (Keep.of_wr W11).1
  have Kp13 := Kp10.wr W11 (Or.inl (List.mem_of_getElem? (i := 6) rfl))
  refine GoW.st (S' := T11.setTop (mkF m 32 #[vr a0, vi 0] [.ref a0])) (fun _ kk => st11 _ (XS.aloadN X11.here hx rfl (hb hby d11_31) rfl rfl kk)) ?_
  obtain ⟨T14, X14, e14, st14⟩ := getF X11 hx hZ hown (host := "") (Or.inl (ow hw 40 rfl)) Via.refl e11 F_qNames (g := (mkF m 32 #[vr a0, vi 0] [.ref a0])) rfl rfl (hb hby d11_32)
  refine GoW.st (S' := T14.setTop (mkF m 36 #[vr a0, vi 0] [.int 0, .ref r_6])) (fun _ kk => st14 _ (XS.iloadN X14.here hx rfl (hb hby d11_35) rfl kk)) ?_
  obtain ⟨cl15, Ar15, qk15, S15, Ng15, H15, G15⟩ := (id V_r_6)
  have hin15 : ¬ ((0 : Int32) < 0 ∨ cl15.slots.size ≤ ((0 : Int32)).toNatClampNeg) := inb_of S15 ⟨by decide, by decide⟩
  have hat15 : cl15.slots[((0 : Int32)).toNatClampNeg]? = some (.ref s8) := Has.at H15 hin15 rfl
  refine GoW.st (S' := T14.setTop (mkF m 37 #[vr a0, vi 0] [.ref s8])) (fun _ kk => X14.aaload hx (j := (0 : Int32)) (v := (.ref s8)) (by rw [e14]; exact Ar15.1) (State.isArrayOf_alike hZ.alike Ar15.2.1) rfl Ar15.2.2 hin15 hat15 (g := (mkF m 36 #[vr a0, vi 0] [.int 0, .ref r_6])) rfl rfl (hb hby d11_36) _ kk) ?_
  exact GoW.retA X14 hx hlk hS (own_hk e14 hk) Bd.returns rfl rfl (hb hby d11_37) (by rw [e14]; exact ⟨_, rfl, N11, Kp13, (own_chat hZ X14.warmed (own_EW hw) Hc).1, ⟨_, _, _, _, _, _, _, _, _, _, _, E_a0, F_bytes, F_nameStarts, F_localNameStarts, F_nameEnds, F_valueStarts, F_valueEnds, F_qNames, F_localNames, F_values, F_told, F_uris, F_added, F_length, V_r_1, V_r_2, V_r_3, V_r_4, V_r_5, V_r_6, V_r_7, V_r_8, V_r_9, V_r_10, O_6, O_7, O_8, O_10⟩, CS8⟩) (by decide) (by decide)
theorem d9_0 : decode prog_21_method_21_code 0 = .ok (.aload_n 0, 1) := by decide +kernel
theorem d9_1 : decode prog_21_method_21_code 1 = .ok (.iload_n 1, 1) := by decide +kernel
theorem d9_2 : decode prog_21_method_21_code 2 = .ok (.invokevirtual 103, 3) := by decide +kernel
theorem d9_5 : decode prog_21_method_21_code 5 = .ok (.ifCond .eq 16, 3) := by decide +kernel
theorem d9_8 : decode prog_21_method_21_code 8 = .ok (.aload_n 0, 1) := by decide +kernel
theorem d9_9 : decode prog_21_method_21_code 9 = .ok (.aload_n 0, 1) := by decide +kernel
theorem d9_10 : decode prog_21_method_21_code 10 = .ok (.getfield 41, 3) := by decide +kernel
theorem d9_13 : decode prog_21_method_21_code 13 = .ok (.iload_n 1, 1) := by decide +kernel
theorem d9_14 : decode prog_21_method_21_code 14 = .ok (.iaload, 1) := by decide +kernel
theorem d9_15 : decode prog_21_method_21_code 15 = .ok (.invokevirtual 106, 3) := by decide +kernel
theorem d9_18 : decode prog_21_method_21_code 18 = .ok (.goto 4, 3) := by decide +kernel
theorem d9_22 : decode prog_21_method_21_code 22 = .ok (.areturn, 1) := by decide +kernel
theorem ef_9 (m : MethodId) (a0 : Addr) (p1 : Int32) : entryFrame m #[(.ref a0), (.int p1)] 2 = mkF m 0 #[.val (.ref a0), .val (.int p1)] [] := by first | (simp [entryFrame, mkF, argsToLocals, Value.category]; done) | rfl
theorem rmGqName (l : Launch) (Z : State) (az : Array Value) (hw : HW az Z) (ws : List Jvm.Cond) (a0 : Addr) (p1 : Int32) (bb r_1 r_2 r_3 r_4 r_5 r_6 r_7 r_8 r_9 r_10 : Addr) (kr_1 kr_2 kr_3 kr_4 kr_5 kr_6 kr_7 kr_8 kr_9 kr_10 : ClassId) (zc : Int32) (fm : Value) (uu ui ua : Addr) (k0 : ClassId) (z : Int32) (bs : List Int32) (ad x_1 x_2 x_3 x_4 x_5 : Int32) (c_2 c_3 : Value) (h0 : Heap) (n0 : Nat) (Z0 : n0 ≤ h0.size) (S_C : tS0 Z h0 (.int zc)) (hzc : ¬ zc = 0) (S_F : tS1 Z h0 fm) (hfm : fm.isRef = true) (S_uu : tS2 Z h0 (.ref uu)) (S_ui : tS3 Z h0 (.ref ui)) (S_ua : tS4 Z h0 (.ref ua)) (nui : uu ≠ ui) (nua : uu ≠ ua) (nia : ui ≠ ua) (S_su : tS5 Z h0 (.ref uu)) (S_sa : tS6 Z h0 (.ref ua)) (E_uu : Exa Z h0 uu "sun/nio/cs/UTF_8") (E_ua : Exa Z h0 ua "sun/nio/cs/US_ASCII") (V_bb : Arv Z h0 bb k0 .byte z (bs.map .int) (.int 0)) (hz : z.toInt = bs.length) (hbs : ∀ b ∈ bs, 0 ≤ b.toInt ∧ b.toInt ≤ 127) (E_bb : Exa Z h0 bb "[B") (hs6 : bs.length ≤ 6) (PA : PAt Z h0 a0 bb r_1 r_2 r_3 r_4 r_5 r_6 r_7 r_8 r_9 r_10 kr_1 kr_2 kr_3 kr_4 kr_5 kr_6 kr_7 kr_8 kr_9 kr_10 ad 1 x_1 x_2 x_3 x_4 x_5 .null c_2 c_3 0) (hnd : [a0, r_1, r_2, r_3, r_4, r_5, r_6, r_7, r_8, r_9, r_10].Nodup) (hg : ∀ x ∈ [a0, r_1, r_2, r_3, r_4, r_5, r_6, r_7, r_8, r_9, r_10], n0 ≤ x) (hr : 0 ≤ x_1.toInt ∧ x_1.toInt ≤ x_3.toInt ∧ x_3.toInt ≤ bs.length) (h1 : p1 = 0) :
    MetFree l mN4 (head1 (Jvm.Cond.code mN4 prog_21_method_21_code 2 (some (.object "java/lang/String")) :: ws) (rO 7 3 10 139)) (fun a U => a = #[(.ref a0), (.int p1)] ∧ Z.Warmed39 U.vm ∧ U.heap = h0 ∧ (PCW Z h0) U.vm) (fun _ _ _ _ _ => True) (fun _ U o U' => ∃ v L, o = .returned v ∧ (Q_gt Z [a0, r_1, r_2, r_3, r_4, r_5, r_6, r_7, r_8, r_9, r_10] (fun h s => PAt Z h a0 bb r_1 r_2 r_3 r_4 r_5 r_6 r_7 r_8 r_9 r_10 kr_1 kr_2 kr_3 kr_4 kr_5 kr_6 kr_7 kr_8 kr_9 kr_10 ad 1 x_1 x_2 x_3 x_4 x_5 (.ref s) c_2 c_3 0) (own_sl bs x_1 x_3) h0 n0) v U'.heap U'.vm L ∧ ReturnedEndW U o U' L (rO 7 3 10 139).cells (rO 7 3 10 139).slots) := by
  refine MetFree.of_bodySF (plainFor_of_name pn_7) hisR ?_
  intro p e s m args below meth c s₁ Bd hml0 hP hK
  obtain ⟨rfl, hZ, hh, Hc⟩ := hP
  have hx := Bd.exec
  have hby := Bd.bytes
  have hlk : meth.locks = false := Bd.notSynchronized
  have hml : c.maxLocals = 2 := hml0
  have hown : s.vm.findClass "com/example/grantbook/grantbook/licence/PlainAttributes" = some m.cls := findClass_of_methodNamed Bd.named
  have X0 : Stand p l e (rO 7 3 10 139) s m #[(.ref a0), (.int p1)] below meth c s₁ [] 0 0 := Stand.of_body Bd
  have X0 : Stand p l e (rO 7 3 10 139) (s.setVm s.vm) m #[(.ref a0), (.int p1)] below meth c s₁ [] 0 0 := X0
  have e0 : s₁.heap = h0 := by rw [← hh, Bd.state]; rfl
  have hS : s.Since s.vm n0 := (State.WarmedH.refl s).since n0
  have hk : n0 ≤ h0.size := Z0
  have N0 := Fr.nil n0
  show GoW p e below s ((Q_gt Z [a0, r_1, r_2, r_3, r_4, r_5, r_6, r_7, r_8, r_9, r_10] (fun h s => PAt Z h a0 bb r_1 r_2 r_3 r_4 r_5 r_6 r_7 r_8 r_9 r_10 kr_1 kr_2 kr_3 kr_4 kr_5 kr_6 kr_7 kr_8 kr_9 kr_10 ad 1 x_1 x_2 x_3 x_4 x_5 (.ref s) c_2 c_3 0) (own_sl bs x_1 x_3) h0 n0)) (rO 7 3 10 139).cells (rO 7 3 10 139).slots (s₁.setTop (entryFrame m #[(.ref a0), (.int p1)] 2))
  rw [ef_9 m a0 p1]
  subst h1
  obtain ⟨y_1, y_2, y_3, y_4, y_5, t_1, d_1, d_2, d_3, u_0, u_1, E_a0, F_bytes, F_nameStarts, F_localNameStarts, F_nameEnds, F_valueStarts, F_valueEnds, F_qNames, F_localNames, F_values, F_told, F_uris, F_added, F_length, V_r_1, V_r_2, V_r_3, V_r_4, V_r_5, V_r_6, V_r_7, V_r_8, V_r_9, V_r_10, O_6, O_7, O_8, O_10⟩ := (id PA)
  refine GoW.st (S' := s₁.setTop (mkF m 2 #[vr a0, vi 0] [.int 0, .ref a0])) (fun _ kk => XS.aloadN X0.here hx rfl (hb hby d9_0) rfl rfl (XS.iloadN X0.here hx rfl (hb hby d9_1) rfl kk)) ?_
  obtain ⟨cq1, qp1, qp1'⟩ := E_a0.cell
  obtain ⟨_, _, ⟨T1, L1, k1, n1⟩, -, X1, ⟨Lc1, hQ1, l1, y1, z1⟩, st1⟩ := X0.privateBack hx (y := mN6) hown (mvT hZ (ow hw 77 rfl)) (mvT hZ (ow hw 78 rfl)) (own_selp hZ (ow hw 18 rfl) (ow hw 79 rfl) (ow hw 78 rfl) (by decide)) (Cond.privateMethod_at (mvP hZ (ow hw 79 rfl) (args := #[]))) (mvT hZ (ow hw 80 rfl)) (by decide) (backOf (W := 0) (rmIT l Z az hw [] a0 (0 : Int32) h0 n0 Z0 F_length rfl) hZ (ow hw 80 rfl) (ow hw 19 rfl) (by decide) (by decide)) (g := (mkF m 2 #[vr a0, vi 0] [.int 0, .ref a0])) rfl (by rw [hml]; rfl) (Steps.refl _) (a := a0) (by rw [e0]; exact qp1) qp1' (argsL := [.int 0]) (rest := []) (lenOf pd_7 rfl) rfl (oW rfl rfl) (hb hby d9_2) (fun _ _ => ⟨rfl, e0, (by decide : 0 + 0 ≤ _), (by decide : 0 + 0 ≤ _)⟩)
  dsimp only [Pt.U, Pt.locs, Pt.cells, Pt.slots] at X1 l1 y1 z1 st1 hQ1
  rw [l1, y1, z1] at X1
  obtain ⟨hv1, N1q, e1⟩ := hQ1
  subst hv1
  have N1 := Fr.app N0 N1q
  refine GoW.st (S' := T1.setTop (mkF m 10 #[vr a0, vi 0] [.ref a0, .ref a0])) (fun _ kk => st1.trans (XS.ifNo X1.here hx rfl (hb hby d9_5) rfl ((if0 _ _).trans (feq (by decide : ¬ ((1 : Int32) = (0 : Int32)))).1) (XS.aloadN X1.here hx rfl (hb hby d9_8) rfl rfl (XS.aloadN X1.here hx rfl (hb hby d9_9) rfl rfl kk)))) ?_
  obtain ⟨T2, X2, e2, st2⟩ := getF X1 hx hZ hown (host := "") (Or.inl (ow hw 46 rfl)) Via.refl e1 F_told (g := (mkF m 10 #[vr a0, vi 0] [.ref a0, .ref a0])) rfl rfl (hb hby d9_10)
  refine GoW.st (S' := T2.setTop (mkF m 14 #[vr a0, vi 0] [.int 0, .ref r_9, .ref a0])) (fun _ kk => st2 _ (XS.iloadN X2.here hx rfl (hb hby d9_13) rfl kk)) ?_
  obtain ⟨cl3, Ar3, qk3, S3, Ng3, H3, G3⟩ := (id V_r_9)
  have hin3 : ¬ ((0 : Int32) < 0 ∨ cl3.slots.size ≤ ((0 : Int32)).toNatClampNeg) := inb_of S3 ⟨by decide, by decide⟩
  have hat3 : cl3.slots[((0 : Int32)).toNatClampNeg]? = some (.int 0) := Has.at H3 hin3 rfl
  refine GoW.st (S' := T2.setTop (mkF m 15 #[vr a0, vi 0] [.int 0, .ref a0])) (fun _ kk => X2.iaload hx (j := (0 : Int32)) (v := (.int 0)) (by rw [e2]; exact Ar3.1) (State.isArrayOf_alike hZ.alike Ar3.2.1) Ar3.2.2 hin3 hat3 (g := (mkF m 14 #[vr a0, vi 0] [.int 0, .ref r_9, .ref a0])) rfl rfl (hb hby d9_14) _ kk) ?_
  obtain ⟨cq4, qp4, qp4'⟩ := E_a0.cell
  obtain ⟨_, _, ⟨T4, L4, k4, n4⟩, -, X4, hS4, hg4, ⟨Lc4, hQ4, l4, y4, z4⟩, st4⟩ := X2.privateBackS hx (y := mN8) hown (mvT hZ (ow hw 81 rfl)) (mvT hZ (ow hw 82 rfl)) (own_selp hZ (ow hw 18 rfl) (ow hw 83 rfl) (ow hw 82 rfl) (by decide)) (Cond.privateMethod_at (mvP hZ (ow hw 83 rfl) (args := #[]))) (mvT hZ (ow hw 84 rfl)) (by decide) (own_backS (W := 0) (P := PCW Z h0) (rmMqName l Z az hw [] a0 (0 : Int32) bb r_1 r_2 r_3 r_4 r_5 r_6 r_7 r_8 r_9 r_10 kr_1 kr_2 kr_3 kr_4 kr_5 kr_6 kr_7 kr_8 kr_9 kr_10 zc fm uu ui ua k0 z bs ad x_1 x_2 x_3 x_4 x_5 c_2 c_3 h0 n0 Z0 S_C hzc S_F hfm  S_uu S_ui S_ua nui nua nia S_su S_sa E_uu E_ua V_bb hz hbs E_bb hs6 PA hnd hg hr rfl) hZ (ow hw 84 rfl) (ow hw 19 rfl) (by decide) (by decide)) (g := (mkF m 15 #[vr a0, vi 0] [.int 0, .ref a0])) rfl (by rw [hml]; rfl) (Steps.refl _) (a := a0) (by rw [e2]; exact qp4) qp4' (argsL := [.int 0]) (rest := []) (lenOf pd_6 rfl) rfl (oW rfl rfl) (hb hby d9_15) (fun vmq hvq => ⟨rfl, e2, (own_chat hZ hvq (own_EW hw) Hc).1, (by decide : 0 + 3 ≤ _), (by decide : 0 + 10 ≤ _)⟩)
  dsimp only [Pt.U, Pt.locs, Pt.cells, Pt.slots] at X4 l4 y4 z4 st4 hQ4 hS4 hg4
  rw [l4, y4, z4] at X4
  obtain ⟨X4, hS, hZ, hown⟩ := rebS hS (own_hk e2 hk) X4 hS4 hg4 hZ hown
  obtain ⟨s4, rfl, N4q, K4, Hc4, PAq4, CS4⟩ := hQ4
  have N4 := Fr.app N1 N4q
  have fp5 := PAt.fp PA
  have S_C := own_stak K4 (fun x hx => FP.nostat (fp5 x hx)) S_C
  have S_F := own_stak K4 (fun x hx => FP.nostat (fp5 x hx)) S_F
  have S_uu := own_stak K4 (fun x hx => FP.nostat (fp5 x hx)) S_uu
  have S_ui := own_stak K4 (fun x hx => FP.nostat (fp5 x hx)) S_ui
  have S_ua := own_stak K4 (fun x hx => FP.nostat (fp5 x hx)) S_ua
  have S_su := own_stak K4 (fun x hx => FP.nostat (fp5 x hx)) S_su
  have S_sa := own_stak K4 (fun x hx => FP.nostat (fp5 x hx)) S_sa
  have E_uu := E_uu.keep K4
  have E_ua := E_ua.keep K4
  have V_bb := Arv.fpB K4 fp5 (ow hw 18 rfl) V_bb
  have E_bb := E_bb.keep K4
  have E_a0 := E_a0.keep K4
  have Zs6 := Nat.le_trans Z0 K4.1
  have hk := Nat.le_trans hk K4.1
  have Kp7 := (Keep.refl h0 [a0, r_1, r_2, r_3, r_4, r_5, r_6, r_7, r_8, r_9, r_10]).trans K4 (fun x hx => Or.inl hx)
  have Hc := Hc4
  have Ec4 := CS4.1
  have PA := PAq4
  have hk : T4.heap.size ≤ (T4.heap).size := Nat.le_of_eq (congrArg Array.size (show T4.heap = T4.heap from rfl))
  refine GoW.st (S' := T4.setTop (mkF m 22 #[vr a0, vi 0] [.ref s4])) (fun _ kk => st4.trans (XS.goto X4.here hx rfl (pc0 := 18) (pc' := 22) rfl (hb hby d9_18) (by decide) (by decide) kk)) ?_
  exact GoW.retA X4 hx hlk hS (own_hk rfl hk) Bd.returns rfl rfl (hb hby d9_22) (by exact ⟨_, rfl, N4, Kp7, (own_chat hZ X4.warmed (own_EW hw) Hc).1, PA, CS4⟩) (by decide) (by decide)
theorem d24_0 : decode prog_21_method_14_code 0 = .ok (.aload_n 0, 1) := by decide +kernel
theorem d24_1 : decode prog_21_method_14_code 1 = .ok (.getfield 35, 3) := by decide +kernel
theorem d24_4 : decode prog_21_method_14_code 4 = .ok (.iload_n 1, 1) := by decide +kernel
theorem d24_5 : decode prog_21_method_14_code 5 = .ok (.aaload, 1) := by decide +kernel
theorem d24_6 : decode prog_21_method_14_code 6 = .ok (.ifnonnull 25, 3) := by decide +kernel
theorem d24_9 : decode prog_21_method_14_code 9 = .ok (.aload_n 0, 1) := by decide +kernel
theorem d24_10 : decode prog_21_method_14_code 10 = .ok (.getfield 35, 3) := by decide +kernel
theorem d24_13 : decode prog_21_method_14_code 13 = .ok (.iload_n 1, 1) := by decide +kernel
theorem d24_14 : decode prog_21_method_14_code 14 = .ok (.aload_n 0, 1) := by decide +kernel
theorem d24_15 : decode prog_21_method_14_code 15 = .ok (.aload_n 0, 1) := by decide +kernel
theorem d24_16 : decode prog_21_method_14_code 16 = .ok (.getfield 17, 3) := by decide +kernel
theorem d24_19 : decode prog_21_method_14_code 19 = .ok (.iload_n 1, 1) := by decide +kernel
theorem d24_20 : decode prog_21_method_14_code 20 = .ok (.iaload, 1) := by decide +kernel
theorem d24_21 : decode prog_21_method_14_code 21 = .ok (.aload_n 0, 1) := by decide +kernel
theorem d24_22 : decode prog_21_method_14_code 22 = .ok (.getfield 20, 3) := by decide +kernel
theorem d24_25 : decode prog_21_method_14_code 25 = .ok (.iload_n 1, 1) := by decide +kernel
theorem d24_26 : decode prog_21_method_14_code 26 = .ok (.iaload, 1) := by decide +kernel
theorem d24_27 : decode prog_21_method_14_code 27 = .ok (.invokevirtual 70, 3) := by decide +kernel
theorem d24_30 : decode prog_21_method_14_code 30 = .ok (.aastore, 1) := by decide +kernel
theorem d24_31 : decode prog_21_method_14_code 31 = .ok (.aload_n 0, 1) := by decide +kernel
theorem d24_32 : decode prog_21_method_14_code 32 = .ok (.getfield 35, 3) := by decide +kernel
theorem d24_35 : decode prog_21_method_14_code 35 = .ok (.iload_n 1, 1) := by decide +kernel
theorem d24_36 : decode prog_21_method_14_code 36 = .ok (.aaload, 1) := by decide +kernel
theorem d24_37 : decode prog_21_method_14_code 37 = .ok (.areturn, 1) := by decide +kernel
theorem ef_24 (m : MethodId) (a0 : Addr) (p1 : Int32) : entryFrame m #[(.ref a0), (.int p1)] 2 = mkF m 0 #[.val (.ref a0), .val (.int p1)] [] := by first | (simp [entryFrame, mkF, argsToLocals, Value.category]; done) | rfl
theorem rmMlocalName (l : Launch) (Z : State) (az : Array Value) (hw : HW az Z) (ws : List Jvm.Cond) (a0 : Addr) (p1 : Int32) (bb r_1 r_2 r_3 r_4 r_5 r_6 r_7 r_8 r_9 r_10 : Addr) (kr_1 kr_2 kr_3 kr_4 kr_5 kr_6 kr_7 kr_8 kr_9 kr_10 : ClassId) (zc : Int32) (fm : Value) (uu ui ua : Addr) (k0 : ClassId) (z : Int32) (bs : List Int32) (ad x_1 x_2 x_3 x_4 x_5 : Int32) (c_1 c_3 : Value) (h0 : Heap) (n0 : Nat) (Z0 : n0 ≤ h0.size) (S_C : tS0 Z h0 (.int zc)) (hzc : ¬ zc = 0) (S_F : tS1 Z h0 fm) (hfm : fm.isRef = true) (S_uu : tS2 Z h0 (.ref uu)) (S_ui : tS3 Z h0 (.ref ui)) (S_ua : tS4 Z h0 (.ref ua)) (nui : uu ≠ ui) (nua : uu ≠ ua) (nia : ui ≠ ua) (S_su : tS5 Z h0 (.ref uu)) (S_sa : tS6 Z h0 (.ref ua)) (E_uu : Exa Z h0 uu "sun/nio/cs/UTF_8") (E_ua : Exa Z h0 ua "sun/nio/cs/US_ASCII") (V_bb : Arv Z h0 bb k0 .byte z (bs.map .int) (.int 0)) (hz : z.toInt = bs.length) (hbs : ∀ b ∈ bs, 0 ≤ b.toInt ∧ b.toInt ≤ 127) (E_bb : Exa Z h0 bb "[B") (hs6 : bs.length ≤ 6) (PA : PAt Z h0 a0 bb r_1 r_2 r_3 r_4 r_5 r_6 r_7 r_8 r_9 r_10 kr_1 kr_2 kr_3 kr_4 kr_5 kr_6 kr_7 kr_8 kr_9 kr_10 ad 1 x_1 x_2 x_3 x_4 x_5 c_1 .null c_3 0) (hnd : [a0, r_1, r_2, r_3, r_4, r_5, r_6, r_7, r_8, r_9, r_10].Nodup) (hg : ∀ x ∈ [a0, r_1, r_2, r_3, r_4, r_5, r_6, r_7, r_8, r_9, r_10], n0 ≤ x) (hr : 0 ≤ x_2.toInt ∧ x_2.toInt ≤ x_3.toInt ∧ x_3.toInt ≤ bs.length) (h1 : p1 = 0) :
    MetFree l mN7 (head1 (Jvm.Cond.code mN7 prog_21_method_14_code 2 (some (.object "java/lang/String")) :: ws) (rO 6 3 10 126)) (fun a U => a = #[(.ref a0), (.int p1)] ∧ Z.Warmed39 U.vm ∧ U.heap = h0 ∧ (PCW Z h0) U.vm) (fun _ _ _ _ _ => True) (fun _ U o U' => ∃ v L, o = .returned v ∧ (Q_gt Z [a0, r_1, r_2, r_3, r_4, r_5, r_6, r_7, r_8, r_9, r_10] (fun h s => PAt Z h a0 bb r_1 r_2 r_3 r_4 r_5 r_6 r_7 r_8 r_9 r_10 kr_1 kr_2 kr_3 kr_4 kr_5 kr_6 kr_7 kr_8 kr_9 kr_10 ad 1 x_1 x_2 x_3 x_4 x_5 c_1 (.ref s) c_3 0) (own_sl bs x_2 x_3) h0 n0) v U'.heap U'.vm L ∧ ReturnedEndW U o U' L (rO 6 3 10 126).cells (rO 6 3 10 126).slots) := by
  refine MetFree.of_bodySF (plainFor_of_name pn_7) hisR ?_
  intro p e s m args below meth c s₁ Bd hml0 hP hK
  obtain ⟨rfl, hZ, hh, Hc⟩ := hP
  have hx := Bd.exec
  have hby := Bd.bytes
  have hlk : meth.locks = false := Bd.notSynchronized
  have hml : c.maxLocals = 2 := hml0
  have hown : s.vm.findClass "com/example/grantbook/grantbook/licence/PlainAttributes" = some m.cls := findClass_of_methodNamed Bd.named
  have X0 : Stand p l e (rO 6 3 10 126) s m #[(.ref a0), (.int p1)] below meth c s₁ [] 0 0 := Stand.of_body Bd
  have X0 : Stand p l e (rO 6 3 10 126) (s.setVm s.vm) m #[(.ref a0), (.int p1)] below meth c s₁ [] 0 0 := X0
  have e0 : s₁.heap = h0 := by rw [← hh, Bd.state]; rfl
  have hS : s.Since s.vm n0 := (State.WarmedH.refl s).since n0
  have hk : n0 ≤ h0.size := Z0
  have N0 := Fr.nil n0
  show GoW p e below s ((Q_gt Z [a0, r_1, r_2, r_3, r_4, r_5, r_6, r_7, r_8, r_9, r_10] (fun h s => PAt Z h a0 bb r_1 r_2 r_3 r_4 r_5 r_6 r_7 r_8 r_9 r_10 kr_1 kr_2 kr_3 kr_4 kr_5 kr_6 kr_7 kr_8 kr_9 kr_10 ad 1 x_1 x_2 x_3 x_4 x_5 c_1 (.ref s) c_3 0) (own_sl bs x_2 x_3) h0 n0)) (rO 6 3 10 126).cells (rO 6 3 10 126).slots (s₁.setTop (entryFrame m #[(.ref a0), (.int p1)] 2))
  rw [ef_24 m a0 p1]
  subst h1
  obtain ⟨y_1, y_2, y_3, y_4, y_5, t_1, d_1, d_2, d_3, u_0, u_1, E_a0, F_bytes, F_nameStarts, F_localNameStarts, F_nameEnds, F_valueStarts, F_valueEnds, F_qNames, F_localNames, F_values, F_told, F_uris, F_added, F_length, V_r_1, V_r_2, V_r_3, V_r_4, V_r_5, V_r_6, V_r_7, V_r_8, V_r_9, V_r_10, O_6, O_7, O_8, O_10⟩ := PA
  have g_a0 : n0 ≤ a0 := hg _ (List.mem_of_getElem? (i := 0) rfl)
  have g_r_1 : n0 ≤ r_1 := hg _ (List.mem_of_getElem? (i := 1) rfl)
  have g_r_2 : n0 ≤ r_2 := hg _ (List.mem_of_getElem? (i := 2) rfl)
  have g_r_3 : n0 ≤ r_3 := hg _ (List.mem_of_getElem? (i := 3) rfl)
  have g_r_4 : n0 ≤ r_4 := hg _ (List.mem_of_getElem? (i := 4) rfl)
  have g_r_5 : n0 ≤ r_5 := hg _ (List.mem_of_getElem? (i := 5) rfl)
  have g_r_6 : n0 ≤ r_6 := hg _ (List.mem_of_getElem? (i := 6) rfl)
  have g_r_7 : n0 ≤ r_7 := hg _ (List.mem_of_getElem? (i := 7) rfl)
  have g_r_8 : n0 ≤ r_8 := hg _ (List.mem_of_getElem? (i := 8) rfl)
  have g_r_9 : n0 ≤ r_9 := hg _ (List.mem_of_getElem? (i := 9) rfl)
  have g_r_10 : n0 ≤ r_10 := hg _ (List.mem_of_getElem? (i := 10) rfl)
  refine GoW.st (S' := s₁.setTop (mkF m 1 #[vr a0, vi 0] [.ref a0])) (fun _ kk => XS.aloadN X0.here hx rfl (hb hby d24_0) rfl rfl kk) ?_
  obtain ⟨T1, X1, e1, st1⟩ := getF X0 hx hZ hown (host := "") (Or.inl (ow hw 42 rfl)) Via.refl e0 F_localNames (g := (mkF m 1 #[vr a0, vi 0] [.ref a0])) rfl rfl (hb hby d24_1)
  refine GoW.st (S' := T1.setTop (mkF m 5 #[vr a0, vi 0] [.int 0, .ref r_7])) (fun _ kk => st1 _ (XS.iloadN X1.here hx rfl (hb hby d24_4) rfl kk)) ?_
  obtain ⟨cl2, Ar2, qk2, S2, Ng2, H2, G2⟩ := (id V_r_7)
  have hin2 : ¬ ((0 : Int32) < 0 ∨ cl2.slots.size ≤ ((0 : Int32)).toNatClampNeg) := inb_of S2 ⟨by decide, by decide⟩
  have hat2 : cl2.slots[((0 : Int32)).toNatClampNeg]? = some .null := Has.at H2 hin2 rfl
  refine GoW.st (S' := T1.setTop (mkF m 10 #[vr a0, vi 0] [.ref a0])) (fun _ kk => X1.aaload hx (j := (0 : Int32)) (v := .null) (by rw [e1]; exact Ar2.1) (State.isArrayOf_alike hZ.alike Ar2.2.1) rfl Ar2.2.2 hin2 hat2 (g := (mkF m 5 #[vr a0, vi 0] [.int 0, .ref r_7])) rfl rfl (hb hby d24_5) _ (XS.ifnonnullNo X1.here hx rfl (hb hby d24_6) rfl (XS.aloadN X1.here hx rfl (hb hby d24_9) rfl rfl kk))) ?_
  obtain ⟨T3, X3, e3, st3⟩ := getF X1 hx hZ hown (host := "") (Or.inl (ow hw 42 rfl)) Via.refl e1 F_localNames (g := (mkF m 10 #[vr a0, vi 0] [.ref a0])) rfl rfl (hb hby d24_10)
  refine GoW.st (S' := T3.setTop (mkF m 16 #[vr a0, vi 0] [.ref a0, .ref a0, .int 0, .ref r_7])) (fun _ kk => st3 _ (XS.iloadN X3.here hx rfl (hb hby d24_13) rfl (XS.aloadN X3.here hx rfl (hb hby d24_14) rfl rfl (XS.aloadN X3.here hx rfl (hb hby d24_15) rfl rfl kk)))) ?_
  obtain ⟨T4, X4, e4, st4⟩ := getF X3 hx hZ hown (host := "") (Or.inl (ow hw 30 rfl)) Via.refl e3 F_localNameStarts (g := (mkF m 16 #[vr a0, vi 0] [.ref a0, .ref a0, .int 0, .ref r_7])) rfl rfl (hb hby d24_16)
  refine GoW.st (S' := T4.setTop (mkF m 20 #[vr a0, vi 0] [.int 0, .ref r_2, .ref a0, .int 0, .ref r_7])) (fun _ kk => st4 _ (XS.iloadN X4.here hx rfl (hb hby d24_19) rfl kk)) ?_
  obtain ⟨cl5, Ar5, qk5, S5, Ng5, H5, G5⟩ := (id V_r_2)
  have hin5 : ¬ ((0 : Int32) < 0 ∨ cl5.slots.size ≤ ((0 : Int32)).toNatClampNeg) := inb_of S5 ⟨by decide, by decide⟩
  have hat5 : cl5.slots[((0 : Int32)).toNatClampNeg]? = some (.int x_2) := Has.at H5 hin5 rfl
  refine GoW.st (S' := T4.setTop (mkF m 22 #[vr a0, vi 0] [.ref a0, .int x_2, .ref a0, .int 0, .ref r_7])) (fun _ kk => X4.iaload hx (j := (0 : Int32)) (v := (.int x_2)) (by rw [e4]; exact Ar5.1) (State.isArrayOf_alike hZ.alike Ar5.2.1) Ar5.2.2 hin5 hat5 (g := (mkF m 20 #[vr a0, vi 0] [.int 0, .ref r_2, .ref a0, .int 0, .ref r_7])) rfl rfl (hb hby d24_20) _ (XS.aloadN X4.here hx rfl (hb hby d24_21) rfl rfl kk)) ?_
  obtain ⟨T6, X6, e6, st6⟩ := getF X4 hx hZ hown (host := "") (Or.inl (ow hw 32 rfl)) Via.refl e4 F_nameEnds (g := (mkF m 22 #[vr a0, vi 0] [.ref a0, .int x_2, .ref a0, .int 0, .ref r_7])) rfl rfl (hb hby d24_22)
  refine GoW.st (S' := T6.setTop (mkF m 26 #[vr a0, vi 0] [.int 0, .ref r_3, .int x_2, .ref a0, .int 0, .ref r_7])) (fun _ kk => st6 _ (XS.iloadN X6.here hx rfl (hb hby d24_25) rfl kk)) ?_
  obtain ⟨cl7, Ar7, qk7, S7, Ng7, H7, G7⟩ := (id V_r_3)
  have hin7 : ¬ ((0 : Int32) < 0 ∨ cl7.slots.size ≤ ((0 : Int32)).toNatClampNeg) := inb_of S7 ⟨by decide, by decide⟩
  have hat7 : cl7.slots[((0 : Int32)).toNatClampNeg]? = some (.int x_3) := Has.at H7 hin7 rfl
  refine GoW.st (S' := T6.setTop (mkF m 27 #[vr a0, vi 0] [.int x_3, .int x_2, .ref a0, .int 0, .ref r_7])) (fun _ kk => X6.iaload hx (j := (0 : Int32)) (v := (.int x_3)) (by rw [e6]; exact Ar7.1) (State.isArrayOf_alike hZ.alike Ar7.2.1) Ar7.2.2 hin7 hat7 (g := (mkF m 26 #[vr a0, vi 0] [.int 0, .ref r_3, .int x_2, .ref a0, .int 0, .ref r_7])) rfl rfl (hb hby d24_26) _ kk) ?_
  obtain ⟨cq8, qp8, qp8'⟩ := E_a0.cell
  obtain ⟨_, _, ⟨T8, L8, k8, n8⟩, -, X8, hS8, hg8, ⟨Lc8, hQ8, l8, y8, z8⟩, st8⟩ := X6.privateBackS hx (y := mN10) hown (mvT hZ (ow hw 85 rfl)) (mvT hZ (ow hw 86 rfl)) (own_selp hZ (ow hw 18 rfl) (ow hw 87 rfl) (ow hw 86 rfl) (by decide)) (Cond.privateMethod_at (mvP hZ (ow hw 87 rfl) (args := #[]))) (mvT hZ (ow hw 88 rfl)) (by decide) (own_backS (W := 2) (P := PCW Z h0) (rmTx l Z az hw [] a0 x_2 x_3 bb zc fm uu ui ua k0 z bs h0 n0 Z0 S_C hzc S_F hfm  S_uu S_ui S_ua nui nua nia S_su S_sa E_uu E_ua V_bb hz hbs E_bb hs6 F_bytes hr) hZ (ow hw 88 rfl) (ow hw 19 rfl) (by decide) (by decide)) (g := (mkF m 27 #[vr a0, vi 0] [.int x_3, .int x_2, .ref a0, .int 0, .ref r_7])) rfl (by rw [hml]; rfl) (Steps.refl _) (a := a0) (by rw [e6]; exact qp8) qp8' (argsL := [.int x_2, .int x_3]) (rest := [.int 0, .ref r_7]) (lenOf pd_8 rfl) rfl (oW rfl rfl) (hb hby d24_27) (fun vmq hvq => ⟨rfl, e6, (own_chat hZ hvq (own_EW hw) Hc).1, (by decide : 0 + 3 ≤ _), (by decide : 0 + 10 ≤ _)⟩)
  dsimp only [Pt.U, Pt.locs, Pt.cells, Pt.slots] at X8 l8 y8 z8 st8 hQ8 hS8 hg8
  rw [l8, y8, z8] at X8
  obtain ⟨X8, hS, hZ, hown⟩ := rebS hS (own_hk e6 hk) X8 hS8 hg8 hZ hown
  obtain ⟨s8, rfl, N8q, K8, Hc8, CS8, gs8⟩ := hQ8
  have N8 := Fr.app N0 N8q
  have Ex8 := own_extK K8
  have S_C := S_C.ext Ex8
  have S_F := S_F.ext Ex8
  have S_uu := S_uu.ext Ex8
  have S_ui := S_ui.ext Ex8
  have S_ua := S_ua.ext Ex8
  have S_su := S_su.ext Ex8
  have S_sa := S_sa.ext Ex8
  have E_uu := E_uu.ext Ex8
  have E_ua := E_ua.ext Ex8
  have V_bb := V_bb.ext Ex8
  have E_bb := E_bb.ext Ex8
  have E_a0 := E_a0.ext Ex8
  have F_bytes := F_bytes.ext Ex8
  have F_nameStarts := F_nameStarts.ext Ex8
  have F_localNameStarts := F_localNameStarts.ext Ex8
  have F_nameEnds := F_nameEnds.ext Ex8
  have F_valueStarts := F_valueStarts.ext Ex8
  have F_valueEnds := F_valueEnds.ext Ex8
  have F_qNames := F_qNames.ext Ex8
  have F_localNames := F_localNames.ext Ex8
  have F_values := F_values.ext Ex8
  have F_told := F_told.ext Ex8
  have F_uris := F_uris.ext Ex8
  have F_added := F_added.ext Ex8
  have F_length := F_length.ext Ex8
  have V_r_1 := V_r_1.ext Ex8
  have V_r_2 := V_r_2.ext Ex8
  have V_r_3 := V_r_3.ext Ex8
  have V_r_4 := V_r_4.ext Ex8
  have V_r_5 := V_r_5.ext Ex8
  have V_r_6 := V_r_6.ext Ex8
  have V_r_7 := V_r_7.ext Ex8
  have V_r_8 := V_r_8.ext Ex8
  have V_r_9 := V_r_9.ext Ex8
  have V_r_10 := V_r_10.ext Ex8
  have Zs9 := Nat.le_trans Z0 Ex8.1
  have hk := Nat.le_trans hk Ex8.1
  have Kp10 := (Keep.refl h0 [a0, r_1, r_2, r_3, r_4, r_5, r_6, r_7, r_8, r_9, r_10]).ext Ex8
  have Hc := Hc8
  have Ec8 := CS8.1
  have hk : T8.heap.size ≤ (T8.heap).size := Nat.le_of_eq (congrArg Array.size (show T8.heap = T8.heap from rfl))
  refine GoW.tr (S' := T8.setTop (mkF m 30 #[vr a0, vi 0] [.ref s8, .int 0, .ref r_7])) st8 ?_
  obtain ⟨cl11, Ar11, qk11, S11, Ng11, H11, G11⟩ := (id V_r_7)
  have hin11 : ¬ ((0 : Int32) < 0 ∨ cl11.slots.size ≤ ((0 : Int32)).toNatClampNeg) := inb_of S11 ⟨by decide, by decide⟩
  obtain ⟨T11, h11, X11, e11, W11, st11⟩ := stR X8 hx hZ rfl Ar11 (j := (0 : Int32)) hin11 rfl (Sto.ofV Ar11 qk11 O_7 (Ins.self Ec8)) (g := (mkF m 30 #[vr a0, vi 0] [.ref s8, .int 0, .ref r_7])) rfl rfl (hb hby d24_30)
  have V_r_7 : Arv Z h11 r_7 kr_7 (.object "java/lang/String") (2 : Int32) [(.ref s8), d_2] .null := Arv.set Ar11 qk11 S11 Ng11 H11 G11 rfl W11 0 rfl (Nat.le_of_ble_eq_true rfl)
  have N11 := Fr.snoc X11 N8 g_r_7
  have Hc := CHv.wr W11 (Safe.arr hZ.alike Ar11 (fun q => nomatch q)) Hc
  have S_C := S_C.wr W11
  have S_F := S_F.wr W11
  have S_uu := S_uu.wr W11
  have S_ui := S_ui.wr W11
  have S_ua := S_ua.wr W11
  have S_su := S_su.wr W11
  have S_sa := S_sa.wr W11
  have CS8 := CSt.fp (Keep.of_wr W11) (allS (P := FP Z T8.heap) (FP.arr Ar11 (fun q => nomatch q)) all0) (ow hw 59 rfl) (ow hw 18 rfl) CS8
  have E_uu := E_uu.wr W11
  have E_ua := E_ua.wr W11
  have E_a0 := E_a0.wr W11
  have F_bytes := F_bytes.other W11 (Or.inl (own_ndi hnd 0 7 rfl rfl (by decide)))
  have F_nameStarts := F_nameStarts.other W11 (Or.inl (own_ndi hnd 0 7 rfl rfl (by decide)))
  have F_localNameStarts := F_localNameStarts.other W11 (Or.inl (own_ndi hnd 0 7 rfl rfl (by decide)))
  have F_nameEnds := F_nameEnds.other W11 (Or.inl (own_ndi hnd 0 7 rfl rfl (by decide)))
  have F_valueStarts := F_valueStarts.other W11 (Or.inl (own_ndi hnd 0 7 rfl rfl (by decide)))
  have F_valueEnds := F_valueEnds.other W11 (Or.inl (own_ndi hnd 0 7 rfl rfl (by decide)))
  have F_qNames := F_qNames.other W11 (Or.inl (own_ndi hnd 0 7 rfl rfl (by decide)))
  have F_localNames := F_localNames.other W11 (Or.inl (own_ndi hnd 0 7 rfl rfl (by decide)))
  have F_values := F_values.other W11 (Or.inl (own_ndi hnd 0 7 rfl rfl (by decide)))
  have F_told := F_told.other W11 (Or.inl (own_ndi hnd 0 7 rfl rfl (by decide)))
  have F_uris := F_uris.other W11 (Or.inl (own_ndi hnd 0 7 rfl rfl (by decide)))
  have F_added := F_added.other W11 (Or.inl (own_ndi hnd 0 7 rfl rfl (by decide)))
  have F_length := F_length.other W11 (Or.inl (own_ndi hnd 0 7 rfl rfl (by decide)))
  have V_r_1 := V_r_1.other W11 (own_ndi hnd 1 7 rfl rfl (by decide))
  have V_r_2 := V_r_2.other W11 (own_ndi hnd 2 7 rfl rfl (by decide))
  have V_r_3 := V_r_3.other W11 (own_ndi hnd 3 7 rfl rfl (by decide))
  have V_r_4 := V_r_4.other W11 (own_ndi hnd 4 7 rfl rfl (by decide))
  have V_r_5 := V_r_5.other W11 (own_ndi hnd 5 7 rfl rfl (by decide))
  have V_r_6 := V_r_6.other W11 (own_ndi hnd 6 7 rfl rfl (by decide))
  have V_r_8 := V_r_8.other W11 (Ne.symm (own_ndi hnd 7 8 rfl rfl (by decide)))
  have V_r_9 := V_r_9.other W11 (Ne.symm (own_ndi hnd 7 9 rfl rfl (by decide)))
  have V_r_10 := V_r_10.other W11 (Ne.symm (own_ndi hnd 7 10 rfl rfl (by decide)))
  have Ec8 := Ec8.wr W11
  have Zs12 := Nat.le_trans Zs9 (Keep.of_wr W11).1
  have hk := Nat.le_trans hk (Keep.of_wr W11).1
  have Kp13 := Kp10.wr W11 (Or.inl (List.mem_of_getElem? (i := 7) rfl))
  refine GoW.st (S' := T11.setTop (mkF m 32 #[vr a0, vi 0] [.ref a0])) (fun _ kk => st11 _ (XS.aloadN X11.here hx rfl (hb hby d24_31) rfl rfl kk)) ?_
  obtain ⟨T14, X14, e14, st14⟩ := getF X11 hx hZ hown (host := "") (Or.inl (ow hw 42 rfl)) Via.refl e11 F_localNames (g := (mkF m 32 #[vr a0, vi 0] [.ref a0])) rfl rfl (hb hby d24_32)
  refine GoW.st (S' := T14.setTop (mkF m 36 #[vr a0, vi 0] [.int 0, .ref r_7])) (fun _ kk => st14 _ (XS.iloadN X14.here hx rfl (hb hby d24_35) rfl kk)) ?_
  obtain ⟨cl15, Ar15, qk15, S15, Ng15, H15, G15⟩ := (id V_r_7)
  have hin15 : ¬ ((0 : Int32) < 0 ∨ cl15.slots.size ≤ ((0 : Int32)).toNatClampNeg) := inb_of S15 ⟨by decide, by decide⟩
  have hat15 : cl15.slots[((0 : Int32)).toNatClampNeg]? = some (.ref s8) := Has.at H15 hin15 rfl
  refine GoW.st (S' := T14.setTop (mkF m 37 #[vr a0, vi 0] [.ref s8])) (fun _ kk => X14.aaload hx (j := (0 : Int32)) (v := (.ref s8)) (by rw [e14]; exact Ar15.1) (State.isArrayOf_alike hZ.alike Ar15.2.1) rfl Ar15.2.2 hin15 hat15 (g := (mkF m 36 #[vr a0, vi 0] [.int 0, .ref r_7])) rfl rfl (hb hby d24_36) _ kk) ?_
  exact GoW.retA X14 hx hlk hS (own_hk e14 hk) Bd.returns rfl rfl (hb hby d24_37) (by rw [e14]; exact ⟨_, rfl, N11, Kp13, (own_chat hZ X14.warmed (own_EW hw) Hc).1, ⟨_, _, _, _, _, _, _, _, _, _, _, E_a0, F_bytes, F_nameStarts, F_localNameStarts, F_nameEnds, F_valueStarts, F_valueEnds, F_qNames, F_localNames, F_values, F_told, F_uris, F_added, F_length, V_r_1, V_r_2, V_r_3, V_r_4, V_r_5, V_r_6, V_r_7, V_r_8, V_r_9, V_r_10, O_6, O_7, O_8, O_10⟩, CS8⟩) (by decide) (by decide)
theorem d23_0 : decode prog_21_method_20_code 0 = .ok (.aload_n 0, 1) := by decide +kernel
theorem d23_1 : decode prog_21_method_20_code 1 = .ok (.iload_n 1, 1) := by decide +kernel
theorem d23_2 : decode prog_21_method_20_code 2 = .ok (.invokevirtual 103, 3) := by decide +kernel
theorem d23_5 : decode prog_21_method_20_code 5 = .ok (.ifCond .eq 16, 3) := by decide +kernel
theorem d23_8 : decode prog_21_method_20_code 8 = .ok (.aload_n 0, 1) := by decide +kernel
theorem d23_9 : decode prog_21_method_20_code 9 = .ok (.aload_n 0, 1) := by decide +kernel
theorem d23_10 : decode prog_21_method_20_code 10 = .ok (.getfield 41, 3) := by decide +kernel
theorem d23_13 : decode prog_21_method_20_code 13 = .ok (.iload_n 1, 1) := by decide +kernel
theorem d23_14 : decode prog_21_method_20_code 14 = .ok (.iaload, 1) := by decide +kernel
theorem d23_15 : decode prog_21_method_20_code 15 = .ok (.invokevirtual 64, 3) := by decide +kernel
theorem d23_18 : decode prog_21_method_20_code 18 = .ok (.goto 4, 3) := by decide +kernel
theorem d23_22 : decode prog_21_method_20_code 22 = .ok (.areturn, 1) := by decide +kernel
theorem ef_23 (m : MethodId) (a0 : Addr) (p1 : Int32) : entryFrame m #[(.ref a0), (.int p1)] 2 = mkF m 0 #[.val (.ref a0), .val (.int p1)] [] := by first | (simp [entryFrame, mkF, argsToLocals, Value.category]; done) | rfl
theorem rmGlocalName (l : Launch) (Z : State) (az : Array Value) (hw : HW az Z) (ws : List Jvm.Cond) (a0 : Addr) (p1 : Int32) (bb r_1 r_2 r_3 r_4 r_5 r_6 r_7 r_8 r_9 r_10 : Addr) (kr_1 kr_2 kr_3 kr_4 kr_5 kr_6 kr_7 kr_8 kr_9 kr_10 : ClassId) (zc : Int32) (fm : Value) (uu ui ua : Addr) (k0 : ClassId) (z : Int32) (bs : List Int32) (ad x_1 x_2 x_3 x_4 x_5 : Int32) (c_1 c_3 : Value) (h0 : Heap) (n0 : Nat) (Z0 : n0 ≤ h0.size) (S_C : tS0 Z h0 (.int zc)) (hzc : ¬ zc = 0) (S_F : tS1 Z h0 fm) (hfm : fm.isRef = true) (S_uu : tS2 Z h0 (.ref uu)) (S_ui : tS3 Z h0 (.ref ui)) (S_ua : tS4 Z h0 (.ref ua)) (nui : uu ≠ ui) (nua : uu ≠ ua) (nia : ui ≠ ua) (S_su : tS5 Z h0 (.ref uu)) (S_sa : tS6 Z h0 (.ref ua)) (E_uu : Exa Z h0 uu "sun/nio/cs/UTF_8") (E_ua : Exa Z h0 ua "sun/nio/cs/US_ASCII") (V_bb : Arv Z h0 bb k0 .byte z (bs.map .int) (.int 0)) (hz : z.toInt = bs.length) (hbs : ∀ b ∈ bs, 0 ≤ b.toInt ∧ b.toInt ≤ 127) (E_bb : Exa Z h0 bb "[B") (hs6 : bs.length ≤ 6) (PA : PAt Z h0 a0 bb r_1 r_2 r_3 r_4 r_5 r_6 r_7 r_8 r_9 r_10 kr_1 kr_2 kr_3 kr_4 kr_5 kr_6 kr_7 kr_8 kr_9 kr_10 ad 1 x_1 x_2 x_3 x_4 x_5 c_1 .null c_3 0) (hnd : [a0, r_1, r_2, r_3, r_4, r_5, r_6, r_7, r_8, r_9, r_10].Nodup) (hg : ∀ x ∈ [a0, r_1, r_2, r_3, r_4, r_5, r_6, r_7, r_8, r_9, r_10], n0 ≤ x) (hr : 0 ≤ x_2.toInt ∧ x_2.toInt ≤ x_3.toInt ∧ x_3.toInt ≤ bs.length) (h1 : p1 = 0) :
    MetFree l mN3 (head1 (Jvm.Cond.code mN3 prog_21_method_20_code 2 (some (.object "java/lang/String")) :: ws) (rO 7 3 10 139)) (fun a U => a = #[(.ref a0), (.int p1)] ∧ Z.Warmed39 U.vm ∧ U.heap = h0 ∧ (PCW Z h0) U.vm) (fun _ _ _ _ _ => True) (fun _ U o U' => ∃ v L, o = .returned v ∧ (Q_gt Z [a0, r_1, r_2, r_3, r_4, r_5, r_6, r_7, r_8, r_9, r_10] (fun h s => PAt Z h a0 bb r_1 r_2 r_3 r_4 r_5 r_6 r_7 r_8 r_9 r_10 kr_1 kr_2 kr_3 kr_4 kr_5 kr_6 kr_7 kr_8 kr_9 kr_10 ad 1 x_1 x_2 x_3 x_4 x_5 c_1 (.ref s) c_3 0) (own_sl bs x_2 x_3) h0 n0) v U'.heap U'.vm L ∧ ReturnedEndW U o U' L (rO 7 3 10 139).cells (rO 7 3 10 139).slots) := by
  refine MetFree.of_bodySF (plainFor_of_name pn_7) hisR ?_
  intro p e s m args below meth c s₁ Bd hml0 hP hK
  obtain ⟨rfl, hZ, hh, Hc⟩ := hP
  have hx := Bd.exec
  have hby := Bd.bytes
  have hlk : meth.locks = false := Bd.notSynchronized
  have hml : c.maxLocals = 2 := hml0
  have hown : s.vm.findClass "com/example/grantbook/grantbook/licence/PlainAttributes" = some m.cls := findClass_of_methodNamed Bd.named
  have X0 : Stand p l e (rO 7 3 10 139) s m #[(.ref a0), (.int p1)] below meth c s₁ [] 0 0 := Stand.of_body Bd
  have X0 : Stand p l e (rO 7 3 10 139) (s.setVm s.vm) m #[(.ref a0), (.int p1)] below meth c s₁ [] 0 0 := X0
  have e0 : s₁.heap = h0 := by rw [← hh, Bd.state]; rfl
  have hS : s.Since s.vm n0 := (State.WarmedH.refl s).since n0
  have hk : n0 ≤ h0.size := Z0
  have N0 := Fr.nil n0
  show GoW p e below s ((Q_gt Z [a0, r_1, r_2, r_3, r_4, r_5, r_6, r_7, r_8, r_9, r_10] (fun h s => PAt Z h a0 bb r_1 r_2 r_3 r_4 r_5 r_6 r_7 r_8 r_9 r_10 kr_1 kr_2 kr_3 kr_4 kr_5 kr_6 kr_7 kr_8 kr_9 kr_10 ad 1 x_1 x_2 x_3 x_4 x_5 c_1 (.ref s) c_3 0) (own_sl bs x_2 x_3) h0 n0)) (rO 7 3 10 139).cells (rO 7 3 10 139).slots (s₁.setTop (entryFrame m #[(.ref a0), (.int p1)] 2))
  rw [ef_23 m a0 p1]
  subst h1
  obtain ⟨y_1, y_2, y_3, y_4, y_5, t_1, d_1, d_2, d_3, u_0, u_1, E_a0, F_bytes, F_nameStarts, F_localNameStarts, F_nameEnds, F_valueStarts, F_valueEnds, F_qNames, F_localNames, F_values, F_told, F_uris, F_added, F_length, V_r_1, V_r_2, V_r_3, V_r_4, V_r_5, V_r_6, V_r_7, V_r_8, V_r_9, V_r_10, O_6, O_7, O_8, O_10⟩ := (id PA)
  refine GoW.st (S' := s₁.setTop (mkF m 2 #[vr a0, vi 0] [.int 0, .ref a0])) (fun _ kk => XS.aloadN X0.here hx rfl (hb hby d23_0) rfl rfl (XS.iloadN X0.here hx rfl (hb hby d23_1) rfl kk)) ?_
  obtain ⟨cq1, qp1, qp1'⟩ := E_a0.cell
  obtain ⟨_, _, ⟨T1, L1, k1, n1⟩, -, X1, ⟨Lc1, hQ1, l1, y1, z1⟩, st1⟩ := X0.privateBack hx (y := mN6) hown (mvT hZ (ow hw 77 rfl)) (mvT hZ (ow hw 78 rfl)) (own_selp hZ (ow hw 18 rfl) (ow hw 79 rfl) (ow hw 78 rfl) (by decide)) (Cond.privateMethod_at (mvP hZ (ow hw 79 rfl) (args := #[]))) (mvT hZ (ow hw 80 rfl)) (by decide) (backOf (W := 0) (rmIT l Z az hw [] a0 (0 : Int32) h0 n0 Z0 F_length rfl) hZ (ow hw 80 rfl) (ow hw 19 rfl) (by decide) (by decide)) (g := (mkF m 2 #[vr a0, vi 0] [.int 0, .ref a0])) rfl (by rw [hml]; rfl) (Steps.refl _) (a := a0) (by rw [e0]; exact qp1) qp1' (argsL := [.int 0]) (rest := []) (lenOf pd_7 rfl) rfl (oW rfl rfl) (hb hby d23_2) (fun _ _ => ⟨rfl, e0, (by decide : 0 + 0 ≤ _), (by decide : 0 + 0 ≤ _)⟩)
  dsimp only [Pt.U, Pt.locs, Pt.cells, Pt.slots] at X1 l1 y1 z1 st1 hQ1
  rw [l1, y1, z1] at X1
  obtain ⟨hv1, N1q, e1⟩ := hQ1
  subst hv1
  have N1 := Fr.app N0 N1q
  refine GoW.st (S' := T1.setTop (mkF m 10 #[vr a0, vi 0] [.ref a0, .ref a0])) (fun _ kk => st1.trans (XS.ifNo X1.here hx rfl (hb hby d23_5) rfl ((if0 _ _).trans (feq (by decide : ¬ ((1 : Int32) = (0 : Int32)))).1) (XS.aloadN X1.here hx rfl (hb hby d23_8) rfl rfl (XS.aloadN X1.here hx rfl (hb hby d23_9) rfl rfl kk)))) ?_
  obtain ⟨T2, X2, e2, st2⟩ := getF X1 hx hZ hown (host := "") (Or.inl (ow hw 46 rfl)) Via.refl e1 F_told (g := (mkF m 10 #[vr a0, vi 0] [.ref a0, .ref a0])) rfl rfl (hb hby d23_10)
  refine GoW.st (S' := T2.setTop (mkF m 14 #[vr a0, vi 0] [.int 0, .ref r_9, .ref a0])) (fun _ kk => st2 _ (XS.iloadN X2.here hx rfl (hb hby d23_13) rfl kk)) ?_
  obtain ⟨cl3, Ar3, qk3, S3, Ng3, H3, G3⟩ := (id V_r_9)
  have hin3 : ¬ ((0 : Int32) < 0 ∨ cl3.slots.size ≤ ((0 : Int32)).toNatClampNeg) := inb_of S3 ⟨by decide, by decide⟩
  have hat3 : cl3.slots[((0 : Int32)).toNatClampNeg]? = some (.int 0) := Has.at H3 hin3 rfl
  refine GoW.st (S' := T2.setTop (mkF m 15 #[vr a0, vi 0] [.int 0, .ref a0])) (fun _ kk => X2.iaload hx (j := (0 : Int32)) (v := (.int 0)) (by rw [e2]; exact Ar3.1) (State.isArrayOf_alike hZ.alike Ar3.2.1) Ar3.2.2 hin3 hat3 (g := (mkF m 14 #[vr a0, vi 0] [.int 0, .ref r_9, .ref a0])) rfl rfl (hb hby d23_14) _ kk) ?_
  obtain ⟨cq4, qp4, qp4'⟩ := E_a0.cell
  obtain ⟨_, _, ⟨T4, L4, k4, n4⟩, -, X4, hS4, hg4, ⟨Lc4, hQ4, l4, y4, z4⟩, st4⟩ := X2.privateBackS hx (y := mN7) hown (mvT hZ (ow hw 148 rfl)) (mvT hZ (ow hw 149 rfl)) (own_selp hZ (ow hw 18 rfl) (ow hw 150 rfl) (ow hw 149 rfl) (by decide)) (Cond.privateMethod_at (mvP hZ (ow hw 150 rfl) (args := #[]))) (mvT hZ (ow hw 151 rfl)) (by decide) (own_backS (W := 0) (P := PCW Z h0) (rmMlocalName l Z az hw [] a0 (0 : Int32) bb r_1 r_2 r_3 r_4 r_5 r_6 r_7 r_8 r_9 r_10 kr_1 kr_2 kr_3 kr_4 kr_5 kr_6 kr_7 kr_8 kr_9 kr_10 zc fm uu ui ua k0 z bs ad x_1 x_2 x_3 x_4 x_5 c_1 c_3 h0 n0 Z0 S_C hzc S_F hfm  S_uu S_ui S_ua nui nua nia S_su S_sa E_uu E_ua V_bb hz hbs E_bb hs6 PA hnd hg hr rfl) hZ (ow hw 151 rfl) (ow hw 19 rfl) (by decide) (by decide)) (g := (mkF m 15 #[vr a0, vi 0] [.int 0, .ref a0])) rfl (by rw [hml]; rfl) (Steps.refl _) (a := a0) (by rw [e2]; exact qp4) qp4' (argsL := [.int 0]) (rest := []) (lenOf pd_6 rfl) rfl (oW rfl rfl) (hb hby d23_15) (fun vmq hvq => ⟨rfl, e2, (own_chat hZ hvq (own_EW hw) Hc).1, (by decide : 0 + 3 ≤ _), (by decide : 0 + 10 ≤ _)⟩)
  dsimp only [Pt.U, Pt.locs, Pt.cells, Pt.slots] at X4 l4 y4 z4 st4 hQ4 hS4 hg4
  rw [l4, y4, z4] at X4
  obtain ⟨X4, hS, hZ, hown⟩ := rebS hS (own_hk e2 hk) X4 hS4 hg4 hZ hown
  obtain ⟨s4, rfl, N4q, K4, Hc4, PAq4, CS4⟩ := hQ4
  have N4 := Fr.app N1 N4q
  have fp5 := PAt.fp PA
  have S_C := own_stak K4 (fun x hx => FP.nostat (fp5 x hx)) S_C
  have S_F := own_stak K4 (fun x hx => FP.nostat (fp5 x hx)) S_F
  have S_uu := own_stak K4 (fun x hx => FP.nostat (fp5 x hx)) S_uu
  have S_ui := own_stak K4 (fun x hx => FP.nostat (fp5 x hx)) S_ui
  have S_ua := own_stak K4 (fun x hx => FP.nostat (fp5 x hx)) S_ua
  have S_su := own_stak K4 (fun x hx => FP.nostat (fp5 x hx)) S_su
  have S_sa := own_stak K4 (fun x hx => FP.nostat (fp5 x hx)) S_sa
  have E_uu := E_uu.keep K4
  have E_ua := E_ua.keep K4
  have V_bb := Arv.fpB K4 fp5 (ow hw 18 rfl) V_bb
  have E_bb := E_bb.keep K4
  have E_a0 := E_a0.keep K4
  have Zs6 := Nat.le_trans Z0 K4.1
  have hk := Nat.le_trans hk K4.1
  have Kp7 := (Keep.refl h0 [a0, r_1, r_2, r_3, r_4, r_5, r_6, r_7, r_8, r_9, r_10]).trans K4 (fun x hx => Or.inl hx)
  have Hc := Hc4
  have Ec4 := CS4.1
  have PA := PAq4
  have hk : T4.heap.size ≤ (T4.heap).size := Nat.le_of_eq (congrArg Array.size (show T4.heap = T4.heap from rfl))
  refine GoW.st (S' := T4.setTop (mkF m 22 #[vr a0, vi 0] [.ref s4])) (fun _ kk => st4.trans (XS.goto X4.here hx rfl (pc0 := 18) (pc' := 22) rfl (hb hby d23_18) (by decide) (by decide) kk)) ?_
  exact GoW.retA X4 hx hlk hS (own_hk rfl hk) Bd.returns rfl rfl (hb hby d23_22) (by exact ⟨_, rfl, N4, Kp7, (own_chat hZ X4.warmed (own_EW hw) Hc).1, PA, CS4⟩) (by decide) (by decide)
theorem d26_0 : decode prog_21_method_12_code 0 = .ok (.aload_n 0, 1) := by decide +kernel
theorem d26_1 : decode prog_21_method_12_code 1 = .ok (.getfield 38, 3) := by decide +kernel
theorem d26_4 : decode prog_21_method_12_code 4 = .ok (.iload_n 1, 1) := by decide +kernel
theorem d26_5 : decode prog_21_method_12_code 5 = .ok (.aaload, 1) := by decide +kernel
theorem d26_6 : decode prog_21_method_12_code 6 = .ok (.ifnonnull 39, 3) := by decide +kernel
theorem d26_9 : decode prog_21_method_12_code 9 = .ok (.aload_n 0, 1) := by decide +kernel
theorem d26_10 : decode prog_21_method_12_code 10 = .ok (.getfield 23, 3) := by decide +kernel
theorem d26_13 : decode prog_21_method_12_code 13 = .ok (.iload_n 1, 1) := by decide +kernel
theorem d26_14 : decode prog_21_method_12_code 14 = .ok (.iaload, 1) := by decide +kernel
theorem d26_15 : decode prog_21_method_12_code 15 = .ok (.istore_n 2, 1) := by decide +kernel
theorem d26_16 : decode prog_21_method_12_code 16 = .ok (.aload_n 0, 1) := by decide +kernel
theorem d26_17 : decode prog_21_method_12_code 17 = .ok (.getfield 38, 3) := by decide +kernel
theorem d26_20 : decode prog_21_method_12_code 20 = .ok (.iload_n 1, 1) := by decide +kernel
theorem d26_21 : decode prog_21_method_12_code 21 = .ok (.new 29, 3) := by decide +kernel
theorem d26_24 : decode prog_21_method_12_code 24 = .ok (.dup, 1) := by decide +kernel
theorem d26_25 : decode prog_21_method_12_code 25 = .ok (.aload_n 0, 1) := by decide +kernel
theorem d26_26 : decode prog_21_method_12_code 26 = .ok (.getfield 7, 3) := by decide +kernel
theorem d26_29 : decode prog_21_method_12_code 29 = .ok (.iload_n 2, 1) := by decide +kernel
theorem d26_30 : decode prog_21_method_12_code 30 = .ok (.aload_n 0, 1) := by decide +kernel
theorem d26_31 : decode prog_21_method_12_code 31 = .ok (.getfield 26, 3) := by decide +kernel
theorem d26_34 : decode prog_21_method_12_code 34 = .ok (.iload_n 1, 1) := by decide +kernel
theorem d26_35 : decode prog_21_method_12_code 35 = .ok (.iaload, 1) := by decide +kernel
theorem d26_36 : decode prog_21_method_12_code 36 = .ok (.iload_n 2, 1) := by decide +kernel
theorem d26_37 : decode prog_21_method_12_code 37 = .ok (.isub, 1) := by decide +kernel
theorem d26_38 : decode prog_21_method_12_code 38 = .ok (.getstatic 84, 3) := by decide +kernel
theorem d26_41 : decode prog_21_method_12_code 41 = .ok (.invokespecial 90, 3) := by decide +kernel
theorem d26_44 : decode prog_21_method_12_code 44 = .ok (.aastore, 1) := by decide +kernel
theorem d26_45 : decode prog_21_method_12_code 45 = .ok (.aload_n 0, 1) := by decide +kernel
theorem d26_46 : decode prog_21_method_12_code 46 = .ok (.getfield 38, 3) := by decide +kernel
theorem d26_49 : decode prog_21_method_12_code 49 = .ok (.iload_n 1, 1) := by decide +kernel
theorem d26_50 : decode prog_21_method_12_code 50 = .ok (.aaload, 1) := by decide +kernel
theorem d26_51 : decode prog_21_method_12_code 51 = .ok (.areturn, 1) := by decide +kernel
theorem ef_26 (m : MethodId) (a0 : Addr) (p1 : Int32) : entryFrame m #[(.ref a0), (.int p1)] 3 = mkF m 0 #[.val (.ref a0), .val (.int p1), .unset] [] := by first | (simp [entryFrame, mkF, argsToLocals, Value.category]; done) | rfl
theorem rmMvalue (l : Launch) (Z : State) (az : Array Value) (hw : HW az Z) (ws : List Jvm.Cond) (a0 : Addr) (p1 : Int32) (bb r_1 r_2 r_3 r_4 r_5 r_6 r_7 r_8 r_9 r_10 : Addr) (kr_1 kr_2 kr_3 kr_4 kr_5 kr_6 kr_7 kr_8 kr_9 kr_10 : ClassId) (zc : Int32) (fm : Value) (uu ui ua : Addr) (k0 : ClassId) (z : Int32) (bs : List Int32) (ad x_1 x_2 x_3 x_4 x_5 : Int32) (c_1 c_2 : Value) (h0 : Heap) (n0 : Nat) (Z0 : n0 ≤ h0.size) (S_C : tS0 Z h0 (.int zc)) (hzc : ¬ zc = 0) (S_F : tS1 Z h0 fm) (hfm : fm.isRef = true) (S_uu : tS2 Z h0 (.ref uu)) (S_ui : tS3 Z h0 (.ref ui)) (S_ua : tS4 Z h0 (.ref ua)) (nui : uu ≠ ui) (nua : uu ≠ ua) (nia : ui ≠ ua) (S_su : tS5 Z h0 (.ref uu)) (S_sa : tS6 Z h0 (.ref ua)) (E_uu : Exa Z h0 uu "sun/nio/cs/UTF_8") (E_ua : Exa Z h0 ua "sun/nio/cs/US_ASCII") (V_bb : Arv Z h0 bb k0 .byte z (bs.map .int) (.int 0)) (hz : z.toInt = bs.length) (hbs : ∀ b ∈ bs, 0 ≤ b.toInt ∧ b.toInt ≤ 127) (E_bb : Exa Z h0 bb "[B") (hs6 : bs.length ≤ 6) (PA : PAt Z h0 a0 bb r_1 r_2 r_3 r_4 r_5 r_6 r_7 r_8 r_9 r_10 kr_1 kr_2 kr_3 kr_4 kr_5 kr_6 kr_7 kr_8 kr_9 kr_10 ad 1 x_1 x_2 x_3 x_4 x_5 c_1 c_2 .null 0) (hnd : [a0, r_1, r_2, r_3, r_4, r_5, r_6, r_7, r_8, r_9, r_10].Nodup) (hg : ∀ x ∈ [a0, r_1, r_2, r_3, r_4, r_5, r_6, r_7, r_8, r_9, r_10], n0 ≤ x) (hr : 0 ≤ x_4.toInt ∧ x_4.toInt ≤ x_5.toInt ∧ x_5.toInt ≤ bs.length) (h1 : p1 = 0) :
    MetFree l mN11 (head1 (Jvm.Cond.code mN11 prog_21_method_12_code 3 (some (.object "java/lang/String")) :: ws) (rO 5 3 10 112)) (fun a U => a = #[(.ref a0), (.int p1)] ∧ Z.Warmed39 U.vm ∧ U.heap = h0 ∧ (PCW Z h0) U.vm) (fun _ _ _ _ _ => True) (fun _ U o U' => ∃ v L, o = .returned v ∧ (Q_gt Z [a0, r_1, r_2, r_3, r_4, r_5, r_6, r_7, r_8, r_9, r_10] (fun h s => PAt Z h a0 bb r_1 r_2 r_3 r_4 r_5 r_6 r_7 r_8 r_9 r_10 kr_1 kr_2 kr_3 kr_4 kr_5 kr_6 kr_7 kr_8 kr_9 kr_10 ad 1 x_1 x_2 x_3 x_4 x_5 c_1 c_2 (.ref s) 0) (own_sl bs x_4 x_5) h0 n0) v U'.heap U'.vm L ∧ ReturnedEndW U o U' L (rO 5 3 10 112).cells (rO 5 3 10 112).slots) := by
  refine MetFree.of_bodySF (plainFor_of_name pn_7) hisR ?_
  intro p e s m args below meth c s₁ Bd hml0 hP hK
  obtain ⟨rfl, hZ, hh, Hc⟩ := hP
  have hx := Bd.exec
  have hby := Bd.bytes
  have hlk : meth.locks = false := Bd.notSynchronized
  have hml : c.maxLocals = 3 := hml0
  have hown : s.vm.findClass "com/example/grantbook/grantbook/licence/PlainAttributes" = some m.cls := findClass_of_methodNamed Bd.named
  have X0 : Stand p l e (rO 5 3 10 112) s m #[(.ref a0), (.int p1)] below meth c s₁ [] 0 0 := Stand.of_body Bd
  have X0 : Stand p l e (rO 5 3 10 112) (s.setVm s.vm) m #[(.ref a0), (.int p1)] below meth c s₁ [] 0 0 := X0
  have e0 : s₁.heap = h0 := by rw [← hh, Bd.state]; rfl
  have hS : s.Since s.vm n0 := (State.WarmedH.refl s).since n0
  have hk : n0 ≤ h0.size := Z0
  have N0 := Fr.nil n0
  show GoW p e below s ((Q_gt Z [a0, r_1, r_2, r_3, r_4, r_5, r_6, r_7, r_8, r_9, r_10] (fun h s => PAt Z h a0 bb r_1 r_2 r_3 r_4 r_5 r_6 r_7 r_8 r_9 r_10 kr_1 kr_2 kr_3 kr_4 kr_5 kr_6 kr_7 kr_8 kr_9 kr_10 ad 1 x_1 x_2 x_3 x_4 x_5 c_1 c_2 (.ref s) 0) (own_sl bs x_4 x_5) h0 n0)) (rO 5 3 10 112).cells (rO 5 3 10 112).slots (s₁.setTop (entryFrame m #[(.ref a0), (.int p1)] 3))
  rw [ef_26 m a0 p1]
  subst h1
  obtain ⟨y_1, y_2, y_3, y_4, y_5, t_1, d_1, d_2, d_3, u_0, u_1, E_a0, F_bytes, F_nameStarts, F_localNameStarts, F_nameEnds, F_valueStarts, F_valueEnds, F_qNames, F_localNames, F_values, F_told, F_uris, F_added, F_length, V_r_1, V_r_2, V_r_3, V_r_4, V_r_5, V_r_6, V_r_7, V_r_8, V_r_9, V_r_10, O_6, O_7, O_8, O_10⟩ := PA
  have g_a0 : n0 ≤ a0 := hg _ (List.mem_of_getElem? (i := 0) rfl)
  have g_r_1 : n0 ≤ r_1 := hg _ (List.mem_of_getElem? (i := 1) rfl)
  have g_r_2 : n0 ≤ r_2 := hg _ (List.mem_of_getElem? (i := 2) rfl)
  have g_r_3 : n0 ≤ r_3 := hg _ (List.mem_of_getElem? (i := 3) rfl)
  have g_r_4 : n0 ≤ r_4 := hg _ (List.mem_of_getElem? (i := 4) rfl)
  have g_r_5 : n0 ≤ r_5 := hg _ (List.mem_of_getElem? (i := 5) rfl)
  have g_r_6 : n0 ≤ r_6 := hg _ (List.mem_of_getElem? (i := 6) rfl)
  have g_r_7 : n0 ≤ r_7 := hg _ (List.mem_of_getElem? (i := 7) rfl)
  have g_r_8 : n0 ≤ r_8 := hg _ (List.mem_of_getElem? (i := 8) rfl)
  have g_r_9 : n0 ≤ r_9 := hg _ (List.mem_of_getElem? (i := 9) rfl)
  have g_r_10 : n0 ≤ r_10 := hg _ (List.mem_of_getElem? (i := 10) rfl)
  have ho := own_hod hz hr
  refine GoW.st (S' := s₁.setTop (mkF m 1 #[vr a0, vi 0, .unset] [.ref a0])) (fun _ kk => XS.aloadN X0.here hx rfl (hb hby d26_0) rfl rfl kk) ?_
  obtain ⟨T1, X1, e1, st1⟩ := getF X0 hx hZ hown (host := "") (Or.inl (ow hw 44 rfl)) Via.refl e0 F_values (g := (mkF m 1 #[vr a0, vi 0, .unset] [.ref a0])) rfl rfl (hb hby d26_1)
  refine GoW.st (S' := T1.setTop (mkF m 5 #[vr a0, vi 0, .unset] [.int 0, .ref r_8])) (fun _ kk => st1 _ (XS.iloadN X1.here hx rfl (hb hby d26_4) rfl kk)) ?_
  obtain ⟨cl2, Ar2, qk2, S2, Ng2, H2, G2⟩ := (id V_r_8)
  have hin2 : ¬ ((0 : Int32) < 0 ∨ cl2.slots.size ≤ ((0 : Int32)).toNatClampNeg) := inb_of S2 ⟨by decide, by decide⟩
  have hat2 : cl2.slots[((0 : Int32)).toNatClampNeg]? = some .null := Has.at H2 hin2 rfl
  refine GoW.st (S' := T1.setTop (mkF m 10 #[vr a0, vi 0, .unset] [.ref a0])) (fun _ kk => X1.aaload hx (j := (0 : Int32)) (v := .null) (by rw [e1]; exact Ar2.1) (State.isArrayOf_alike hZ.alike Ar2.2.1) rfl Ar2.2.2 hin2 hat2 (g := (mkF m 5 #[vr a0, vi 0, .unset] [.int 0, .ref r_8])) rfl rfl (hb hby d26_5) _ (XS.ifnonnullNo X1.here hx rfl (hb hby d26_6) rfl (XS.aloadN X1.here hx rfl (hb hby d26_9) rfl rfl kk))) ?_
  obtain ⟨T3, X3, e3, st3⟩ := getF X1 hx hZ hown (host := "") (Or.inl (ow hw 34 rfl)) Via.refl e1 F_valueStarts (g := (mkF m 10 #[vr a0, vi 0, .unset] [.ref a0])) rfl rfl (hb hby d26_10)
  refine GoW.st (S' := T3.setTop (mkF m 14 #[vr a0, vi 0, .unset] [.int 0, .ref r_4])) (fun _ kk => st3 _ (XS.iloadN X3.here hx rfl (hb hby d26_13) rfl kk)) ?_
  obtain ⟨cl4, Ar4, qk4, S4, Ng4, H4, G4⟩ := (id V_r_4)
  have hin4 : ¬ ((0 : Int32) < 0 ∨ cl4.slots.size ≤ ((0 : Int32)).toNatClampNeg) := inb_of S4 ⟨by decide, by decide⟩
  have hat4 : cl4.slots[((0 : Int32)).toNatClampNeg]? = some (.int x_4) := Has.at H4 hin4 rfl
  refine GoW.st (S' := T3.setTop (mkF m 17 #[vr a0, vi 0, vi x_4] [.ref a0])) (fun _ kk => X3.iaload hx (j := (0 : Int32)) (v := (.int x_4)) (by rw [e3]; exact Ar4.1) (State.isArrayOf_alike hZ.alike Ar4.2.1) Ar4.2.2 hin4 hat4 (g := (mkF m 14 #[vr a0, vi 0, .unset] [.int 0, .ref r_4])) rfl rfl (hb hby d26_14) _ (XS.istoreN X3.here hx rfl (hb hby d26_15) rfl (l' := #[vr a0, vi 0, vi x_4]) rfl (XS.aloadN X3.here hx rfl (hb hby d26_16) rfl rfl kk))) ?_
  obtain ⟨T5, X5, e5, st5⟩ := getF X3 hx hZ hown (host := "") (Or.inl (ow hw 44 rfl)) Via.refl e3 F_values (g := (mkF m 17 #[vr a0, vi 0, vi x_4] [.ref a0])) rfl rfl (hb hby d26_17)
  refine GoW.st (S' := T5.setTop (mkF m 21 #[vr a0, vi 0, vi x_4] [.int 0, .ref r_8])) (fun _ kk => st5 _ (XS.iloadN X5.here hx rfl (hb hby d26_20) rfl kk)) ?_
  obtain ⟨T6, h6, X6, e6, E6, A6, D6, -, st6⟩ := newO X5 hx hZ hown (ow hw 38 rfl) (ow hw 59 rfl) (ow hw 58 rfl) e5 (g := (mkF m 21 #[vr a0, vi 0, vi x_4] [.int 0, .ref r_8])) rfl (hb hby d26_21) (by decide : 0 + 1 ≤ _) (by decide : 0 + 4 ≤ _)
  obtain ⟨b6, g6⟩ : ∃ z, z = h0.size := ⟨_, rfl⟩
  rw [← g6] at A6 D6 st6
  have ne_uu_b6 : uu ≠ b6 := Nat.ne_of_lt (Nat.lt_of_lt_of_le E_uu.lt (Nat.le_of_eq g6.symm))
  have ne_ua_b6 : ua ≠ b6 := Nat.ne_of_lt (Nat.lt_of_lt_of_le E_ua.lt (Nat.le_of_eq g6.symm))
  have ne_bb_b6 : bb ≠ b6 := Nat.ne_of_lt (Nat.lt_of_lt_of_le V_bb.lt (Nat.le_of_eq g6.symm))
  have ne_a0_b6 : a0 ≠ b6 := Nat.ne_of_lt (Nat.lt_of_lt_of_le E_a0.lt (Nat.le_of_eq g6.symm))
  have ne_r_1_b6 : r_1 ≠ b6 := Nat.ne_of_lt (Nat.lt_of_lt_of_le V_r_1.lt (Nat.le_of_eq g6.symm))
  have ne_r_2_b6 : r_2 ≠ b6 := Nat.ne_of_lt (Nat.lt_of_lt_of_le V_r_2.lt (Nat.le_of_eq g6.symm))
  have ne_r_3_b6 : r_3 ≠ b6 := Nat.ne_of_lt (Nat.lt_of_lt_of_le V_r_3.lt (Nat.le_of_eq g6.symm))
  have ne_r_4_b6 : r_4 ≠ b6 := Nat.ne_of_lt (Nat.lt_of_lt_of_le V_r_4.lt (Nat.le_of_eq g6.symm))
  have ne_r_5_b6 : r_5 ≠ b6 := Nat.ne_of_lt (Nat.lt_of_lt_of_le V_r_5.lt (Nat.le_of_eq g6.symm))
  have ne_r_6_b6 : r_6 ≠ b6 := Nat.ne_of_lt (Nat.lt_of_lt_of_le V_r_6.lt (Nat.le_of_eq g6.symm))
  have ne_r_7_b6 : r_7 ≠ b6 := Nat.ne_of_lt (Nat.lt_of_lt_of_le V_r_7.lt (Nat.le_of_eq g6.symm))
  have ne_r_8_b6 : r_8 ≠ b6 := Nat.ne_of_lt (Nat.lt_of_lt_of_le V_r_8.lt (Nat.le_of_eq g6.symm))
  have ne_r_9_b6 : r_9 ≠ b6 := Nat.ne_of_lt (Nat.lt_of_lt_of_le V_r_9.lt (Nat.le_of_eq g6.symm))
  have ne_r_10_b6 : r_10 ≠ b6 := Nat.ne_of_lt (Nat.lt_of_lt_of_le V_r_10.lt (Nat.le_of_eq g6.symm))
  have g_b6 : n0 ≤ b6 := Nat.le_trans Z0 (Nat.le_of_eq g6.symm)
  have Sf_b6 : Safe Z consts_1 s.vm h0 b6 := Safe.new (Nat.le_of_eq g6.symm)
  have sz_b6 : h0.size ≤ b6 := Nat.le_trans (Keep.refl h0 [a0, r_1, r_2, r_3, r_4, r_5, r_6, r_7, r_8, r_9, r_10]).1 (Nat.le_of_eq g6.symm)
  have Sf_b6' := Safe.ext E6 Hc Sf_b6
  have Hc := CHv.ext E6 Hc
  have Sf_b6 := Sf_b6'
  have S_C := S_C.ext E6
  have S_F := S_F.ext E6
  have S_uu := S_uu.ext E6
  have S_ui := S_ui.ext E6
  have S_ua := S_ua.ext E6
  have S_su := S_su.ext E6
  have S_sa := S_sa.ext E6
  have E_uu := E_uu.ext E6
  have E_ua := E_ua.ext E6
  have V_bb := V_bb.ext E6
  have E_bb := E_bb.ext E6
  have E_a0 := E_a0.ext E6
  have F_bytes := F_bytes.ext E6
  have F_nameStarts := F_nameStarts.ext E6
  have F_localNameStarts := F_localNameStarts.ext E6
  have F_nameEnds := F_nameEnds.ext E6
  have F_valueStarts := F_valueStarts.ext E6
  have F_valueEnds := F_valueEnds.ext E6
  have F_qNames := F_qNames.ext E6
  have F_localNames := F_localNames.ext E6
  have F_values := F_values.ext E6
  have F_told := F_told.ext E6
  have F_uris := F_uris.ext E6
  have F_added := F_added.ext E6
  have F_length := F_length.ext E6
  have V_r_1 := V_r_1.ext E6
  have V_r_2 := V_r_2.ext E6
  have V_r_3 := V_r_3.ext E6
  have V_r_4 := V_r_4.ext E6
  have V_r_5 := V_r_5.ext E6
  have V_r_6 := V_r_6.ext E6
  have V_r_7 := V_r_7.ext E6
  have V_r_8 := V_r_8.ext E6
  have V_r_9 := V_r_9.ext E6
  have V_r_10 := V_r_10.ext E6
  have Zs7 := Nat.le_trans Z0 E6.1
  have hk := Nat.le_trans hk E6.1
  have Kp8 := (Keep.refl h0 [a0, r_1, r_2, r_3, r_4, r_5, r_6, r_7, r_8, r_9, r_10]).ext E6
  have E_b6 := A6
  have F_value_b6 : tF1 Z h6 b6 .null := D6 (Or.inr (ow hw 60 rfl)) (ty := (.array .byte)) (by decide)
  have F_coder_b6 : tF0 Z h6 b6 (.int 0) := D6 (Or.inr (ow hw 61 rfl)) (ty := .byte) (by decide)
  refine GoW.st (S' := T6.setTop (mkF m 26 #[vr a0, vi 0, vi x_4] [.ref a0, .ref b6, .ref b6, .int 0, .ref r_8])) (fun _ kk => st6 _ (XS.dup X6.here hx rfl (hb hby d26_24) rfl rfl (XS.aloadN X6.here hx rfl (hb hby d26_25) rfl rfl kk))) ?_
  obtain ⟨T9, X9, e9, st9⟩ := getF X6 hx hZ hown (host := "") (Or.inl (ow hw 26 rfl)) Via.refl e6 F_bytes (g := (mkF m 26 #[vr a0, vi 0, vi x_4] [.ref a0, .ref b6, .ref b6, .int 0, .ref r_8])) rfl rfl (hb hby d26_26)
  refine GoW.st (S' := T9.setTop (mkF m 31 #[vr a0, vi 0, vi x_4] [.ref a0, .int x_4, .ref bb, .ref b6, .ref b6, .int 0, .ref r_8])) (fun _ kk => st9 _ (XS.iloadN X9.here hx rfl (hb hby d26_29) rfl (XS.aloadN X9.here hx rfl (hb hby d26_30) rfl rfl kk))) ?_
  obtain ⟨T10, X10, e10, st10⟩ := getF X9 hx hZ hown (host := "") (Or.inl (ow hw 36 rfl)) Via.refl e9 F_valueEnds (g := (mkF m 31 #[vr a0, vi 0, vi x_4] [.ref a0, .int x_4, .ref bb, .ref b6, .ref b6, .int 0, .ref r_8])) rfl rfl (hb hby d26_31)
  refine GoW.st (S' := T10.setTop (mkF m 35 #[vr a0, vi 0, vi x_4] [.int 0, .ref r_5, .int x_4, .ref bb, .ref b6, .ref b6, .int 0, .ref r_8])) (fun _ kk => st10 _ (XS.iloadN X10.here hx rfl (hb hby d26_34) rfl kk)) ?_
  obtain ⟨cl11, Ar11, qk11, S11, Ng11, H11, G11⟩ := (id V_r_5)
  have hin11 : ¬ ((0 : Int32) < 0 ∨ cl11.slots.size ≤ ((0 : Int32)).toNatClampNeg) := inb_of S11 ⟨by decide, by decide⟩
  have hat11 : cl11.slots[((0 : Int32)).toNatClampNeg]? = some (.int x_5) := Has.at H11 hin11 rfl
  refine GoW.st (S' := T10.setTop (mkF m 38 #[vr a0, vi 0, vi x_4] [.int (x_5 - x_4), .int x_4, .ref bb, .ref b6, .ref b6, .int 0, .ref r_8])) (fun _ kk => X10.iaload hx (j := (0 : Int32)) (v := (.int x_5)) (by rw [e10]; exact Ar11.1) (State.isArrayOf_alike hZ.alike Ar11.2.1) Ar11.2.2 hin11 hat11 (g := (mkF m 35 #[vr a0, vi 0, vi x_4] [.int 0, .ref r_5, .int x_4, .ref bb, .ref b6, .ref b6, .int 0, .ref r_8])) rfl rfl (hb hby d26_35) _ (XS.iloadN X10.here hx rfl (hb hby d26_36) rfl (XS.isub X10.here hx rfl (hb hby d26_37) rfl kk))) ?_
  obtain ⟨T12, X12, e12, st12⟩ := getS2 X10 hx hZ hown (host := "") (Or.inl (ow hw 162 rfl)) Via.refl e10 S_su (g := (mkF m 38 #[vr a0, vi 0, vi x_4] [.int (x_5 - x_4), .int x_4, .ref bb, .ref b6, .ref b6, .int 0, .ref r_8])) rfl (hb hby d26_38)
  refine GoW.st (S' := T12.setTop (mkF m 41 #[vr a0, vi 0, vi x_4] [.ref uu, .int (x_5 - x_4), .int x_4, .ref bb, .ref b6, .ref b6, .int 0, .ref r_8])) st12 ?_
  obtain ⟨_, _, ⟨T13, L13, k13, n13⟩, -, X13, hS13, hg13, ⟨Lc13, hQ13, l13, y13, z13⟩, st13⟩ := X12.specialBackS hx (y := mN19) rfl hown (mvT hZ (ow hw 91 rfl)) (mvT hZ (ow hw 92 rfl)) (mvT hZ (ow hw 93 rfl)) (by decide) (own_backS (W := 3) (P := PCS Z h6 b6) (rmIB_uu l Z az hw [] b6 bb x_4 (x_5 - x_4) uu zc fm uu ui ua k0 z bs h6 n0 Zs7 S_C hzc S_F hfm  S_uu S_ui S_ua nui nua nia E_b6 F_coder_b6 F_value_b6 g_b6 (Ne.symm ne_bb_b6) V_bb hz hbs E_bb ho hs6 E_uu rfl) hZ (ow hw 93 rfl) (ow hw 58 rfl) (by decide) (by decide)) (g := (mkF m 41 #[vr a0, vi 0, vi x_4] [.ref uu, .int (x_5 - x_4), .int x_4, .ref bb, .ref b6, .ref b6, .int 0, .ref r_8])) rfl (by rw [hml]; rfl) (Steps.refl _) (a := b6) (argsL := [.ref bb, .int x_4, .int (x_5 - x_4), .ref uu]) (rest := [.ref b6, .int 0, .ref r_8]) (lenOf pd_9 rfl) rfl (oW rfl rfl) (hb hby d26_41) (fun vmq hvq => ⟨rfl, e12, ⟨(own_chat hZ hvq (own_EW hw) Hc).1, (own_chat hZ hvq (own_EW hw) Hc).safe E_b6.lt Sf_b6⟩, (by decide : 1 + 2 ≤ _), (by decide : 4 + 6 ≤ _)⟩)
  dsimp only [Pt.U, Pt.locs, Pt.cells, Pt.slots] at X13 l13 y13 z13 st13 hQ13 hS13 hg13
  rw [l13, y13, z13] at X13
  obtain ⟨X13, hS, hZ, hown⟩ := rebS hS (own_hk e12 hk) X13 hS13 hg13 hZ hown
  obtain ⟨rfl, N13q, K13, Hc13, CS13⟩ := hQ13
  have N13 := Fr.app N0 N13q
  have S_C := own_stak K13 (allS (P := fun x => ∀ cell : Cell, (h6)[x]? = some cell → cell.vm.isStatics = false) (Exa.nostat E_b6) all0) S_C
  have S_F := own_stak K13 (allS (P := fun x => ∀ cell : Cell, (h6)[x]? = some cell → cell.vm.isStatics = false) (Exa.nostat E_b6) all0) S_F
  have S_uu := own_stak K13 (allS (P := fun x => ∀ cell : Cell, (h6)[x]? = some cell → cell.vm.isStatics = false) (Exa.nostat E_b6) all0) S_uu
  have S_ui := own_stak K13 (allS (P := fun x => ∀ cell : Cell, (h6)[x]? = some cell → cell.vm.isStatics = false) (Exa.nostat E_b6) all0) S_ui
  have S_ua := own_stak K13 (allS (P := fun x => ∀ cell : Cell, (h6)[x]? = some cell → cell.vm.isStatics = false) (Exa.nostat E_b6) all0) S_ua
  have S_su := own_stak K13 (allS (P := fun x => ∀ cell : Cell, (h6)[x]? = some cell → cell.vm.isStatics = false) (Exa.nostat E_b6) all0) S_su
  have S_sa := own_stak K13 (allS (P := fun x => ∀ cell : Cell, (h6)[x]? = some cell → cell.vm.isStatics = false) (Exa.nostat E_b6) all0) S_sa
  have E_uu := E_uu.keep K13
  have E_ua := E_ua.keep K13
  have V_bb := V_bb.keep K13 (ninS ne_bb_b6 nin0)
  have E_bb := E_bb.keep K13
  have E_a0 := E_a0.keep K13
  have F_bytes := F_bytes.keep K13 (ninS ne_a0_b6 nin0)
  have F_nameStarts := F_nameStarts.keep K13 (ninS ne_a0_b6 nin0)
  have F_localNameStarts := F_localNameStarts.keep K13 (ninS ne_a0_b6 nin0)
  have F_nameEnds := F_nameEnds.keep K13 (ninS ne_a0_b6 nin0)
  have F_valueStarts := F_valueStarts.keep K13 (ninS ne_a0_b6 nin0)
  have F_valueEnds := F_valueEnds.keep K13 (ninS ne_a0_b6 nin0)
  have F_qNames := F_qNames.keep K13 (ninS ne_a0_b6 nin0)
  have F_localNames := F_localNames.keep K13 (ninS ne_a0_b6 nin0)
  have F_values := F_values.keep K13 (ninS ne_a0_b6 nin0)
  have F_told := F_told.keep K13 (ninS ne_a0_b6 nin0)
  have F_uris := F_uris.keep K13 (ninS ne_a0_b6 nin0)
  have F_added := F_added.keep K13 (ninS ne_a0_b6 nin0)
  have F_length := F_length.keep K13 (ninS ne_a0_b6 nin0)
  have V_r_1 := V_r_1.keep K13 (ninS ne_r_1_b6 nin0)
  have V_r_2 := V_r_2.keep K13 (ninS ne_r_2_b6 nin0)
  have V_r_3 := V_r_3.keep K13 (ninS ne_r_3_b6 nin0)
  have V_r_4 := V_r_4.keep K13 (ninS ne_r_4_b6 nin0)
  have V_r_5 := V_r_5.keep K13 (ninS ne_r_5_b6 nin0)
  have V_r_6 := V_r_6.keep K13 (ninS ne_r_6_b6 nin0)
  have V_r_7 := V_r_7.keep K13 (ninS ne_r_7_b6 nin0)
  have V_r_8 := V_r_8.keep K13 (ninS ne_r_8_b6 nin0)
  have V_r_9 := V_r_9.keep K13 (ninS ne_r_9_b6 nin0)
  have V_r_10 := V_r_10.keep K13 (ninS ne_r_10_b6 nin0)
  have E_b6 := E_b6.keep K13
  have Zs14 := Nat.le_trans Zs7 K13.1
  have hk := Nat.le_trans hk K13.1
  have Kp15 := Kp8.trans K13 (allS (Or.inr sz_b6) all0)
  have Hc := Hc13
  have Ec13 := CS13.1
  have hk : T13.heap.size ≤ (T13.heap).size := Nat.le_of_eq (congrArg Array.size (show T13.heap = T13.heap from rfl))
  refine GoW.tr (S' := T13.setTop (mkF m 44 #[vr a0, vi 0, vi x_4] [.ref b6, .int 0, .ref r_8])) st13 ?_
  rw [own_pq x_4 x_5] at CS13
  obtain ⟨cl16, Ar16, qk16, S16, Ng16, H16, G16⟩ := (id V_r_8)
  have hin16 : ¬ ((0 : Int32) < 0 ∨ cl16.slots.size ≤ ((0 : Int32)).toNatClampNeg) := inb_of S16 ⟨by decide, by decide⟩
  obtain ⟨T16, h16, X16, e16, W16, st16⟩ := stR X13 hx hZ rfl Ar16 (j := (0 : Int32)) hin16 rfl (Sto.ofV Ar16 qk16 O_8 (Ins.self Ec13)) (g := (mkF m 44 #[vr a0, vi 0, vi x_4] [.ref b6, .int 0, .ref r_8])) rfl rfl (hb hby d26_44)
  have V_r_8 : Arv Z h16 r_8 kr_8 (.object "java/lang/String") (2 : Int32) [(.ref b6), d_3] .null := Arv.set Ar16 qk16 S16 Ng16 H16 G16 rfl W16 0 rfl (Nat.le_of_ble_eq_true rfl)
  have N16 := Fr.snoc X16 N13 g_r_8
  have Hc := CHv.wr W16 (Safe.arr hZ.alike Ar16 (fun q => nomatch q)) Hc
  have S_C := S_C.wr W16
  have S_F := S_F.wr W16
  have S_uu := S_uu.wr W16
  have S_ui := S_ui.wr W16
  have S_ua := S_ua.wr W16
  have S_su := S_su.wr W16
  have S_sa := S_sa.wr W16
  have CS13 := CSt.fp (Keep.of_wr W16) (allS (P := FP Z T13.heap) (FP.arr Ar16 (fun q => nomatch q)) all0) (ow hw 59 rfl) (ow hw 18 rfl) CS13
  have E_uu := E_uu.wr W16
  have E_ua := E_ua.wr W16
  have E_a0 := E_a0.wr W16
  have F_bytes := F_bytes.other W16 (Or.inl (own_ndi hnd 0 8 rfl rfl (by decide)))
  have F_nameStarts := F_nameStarts.other W16 (Or.inl (own_ndi hnd 0 8 rfl rfl (by decide)))
  have F_localNameStarts := F_localNameStarts.other W16 (Or.inl (own_ndi hnd 0 8 rfl rfl (by decide)))
  have F_nameEnds := F_nameEnds.other W16 (Or.inl (own_ndi hnd 0 8 rfl rfl (by decide)))
  have F_valueStarts := F_valueStarts.other W16 (Or.inl (own_ndi hnd 0 8 rfl rfl (by decide)))
  have F_valueEnds := F_valueEnds.other W16 (Or.inl (own_ndi hnd 0 8 rfl rfl (by decide)))
  have F_qNames := F_qNames.other W16 (Or.inl (own_ndi hnd 0 8 rfl rfl (by decide)))
  have F_localNames := F_localNames.other W16 (Or.inl (own_ndi hnd 0 8 rfl rfl (by decide)))
  have F_values := F_values.other W16 (Or.inl (own_ndi hnd 0 8 rfl rfl (by decide)))
  have F_told := F_told.other W16 (Or.inl (own_ndi hnd 0 8 rfl rfl (by decide)))
  have F_uris := F_uris.other W16 (Or.inl (own_ndi hnd 0 8 rfl rfl (by decide)))
  have F_added := F_added.other W16 (Or.inl (own_ndi hnd 0 8 rfl rfl (by decide)))
  have F_length := F_length.other W16 (Or.inl (own_ndi hnd 0 8 rfl rfl (by decide)))
  have V_r_1 := V_r_1.other W16 (own_ndi hnd 1 8 rfl rfl (by decide))
  have V_r_2 := V_r_2.other W16 (own_ndi hnd 2 8 rfl rfl (by decide))
  have V_r_3 := V_r_3.other W16 (own_ndi hnd 3 8 rfl rfl (by decide))
  have V_r_4 := V_r_4.other W16 (own_ndi hnd 4 8 rfl rfl (by decide))
  have V_r_5 := V_r_5.other W16 (own_ndi hnd 5 8 rfl rfl (by decide))
  have V_r_6 := V_r_6.other W16 (own_ndi hnd 6 8 rfl rfl (by decide))
  have V_r_7 := V_r_7.other W16 (own_ndi hnd 7 8 rfl rfl (by decide))
  have V_r_9 := V_r_9.other W16 (Ne.symm (own_ndi hnd 8 9 rfl rfl (by decide)))
  have V_r_10 := V_r_10.other W16 (Ne.symm (own_ndi hnd 8 10 rfl rfl (by decide)))
  have Ec13 := Ec13.wr W16
  have Zs17 := Nat.le_trans Zs14 (Keep.of_wr W16).1
  have hk := Nat.le_trans hk (Keep.of_wr W16).1
  have Kp18 := Kp15.wr W16 (Or.inl (List.mem_of_getElem? (i := 8) rfl))
  refine GoW.st (S' := T16.setTop (mkF m 46 #[vr a0, vi 0, vi x_4] [.ref a0])) (fun _ kk => st16 _ (XS.aloadN X16.here hx rfl (hb hby d26_45) rfl rfl kk)) ?_
  obtain ⟨T19, X19, e19, st19⟩ := getF X16 hx hZ hown (host := "") (Or.inl (ow hw 44 rfl)) Via.refl e16 F_values (g := (mkF m 46 #[vr a0, vi 0, vi x_4] [.ref a0])) rfl rfl (hb hby d26_46)
  refine GoW.st (S' := T19.setTop (mkF m 50 #[vr a0, vi 0, vi x_4] [.int 0, .ref r_8])) (fun _ kk => st19 _ (XS.iloadN X19.here hx rfl (hb hby d26_49) rfl kk)) ?_
  obtain ⟨cl20, Ar20, qk20, S20, Ng20, H20, G20⟩ := (id V_r_8)
  have hin20 : ¬ ((0 : Int32) < 0 ∨ cl20.slots.size ≤ ((0 : Int32)).toNatClampNeg) := inb_of S20 ⟨by decide, by decide⟩
  have hat20 : cl20.slots[((0 : Int32)).toNatClampNeg]? = some (.ref b6) := Has.at H20 hin20 rfl
  refine GoW.st (S' := T19.setTop (mkF m 51 #[vr a0, vi 0, vi x_4] [.ref b6])) (fun _ kk => X19.aaload hx (j := (0 : Int32)) (v := (.ref b6)) (by rw [e19]; exact Ar20.1) (State.isArrayOf_alike hZ.alike Ar20.2.1) rfl Ar20.2.2 hin20 hat20 (g := (mkF m 50 #[vr a0, vi 0, vi x_4] [.int 0, .ref r_8])) rfl rfl (hb hby d26_50) _ kk) ?_
  exact GoW.retA X19 hx hlk hS (own_hk e19 hk) Bd.returns rfl rfl (hb hby d26_51) (by rw [e19]; exact ⟨_, rfl, N16, Kp18, (own_chat hZ X19.warmed (own_EW hw) Hc).1, ⟨_, _, _, _, _, _, _, _, _, _, _, E_a0, F_bytes, F_nameStarts, F_localNameStarts, F_nameEnds, F_valueStarts, F_valueEnds, F_qNames, F_localNames, F_values, F_told, F_uris, F_added, F_length, V_r_1, V_r_2, V_r_3, V_r_4, V_r_5, V_r_6, V_r_7, V_r_8, V_r_9, V_r_10, O_6, O_7, O_8, O_10⟩, CS13⟩) (by decide) (by decide)
theorem d25_0 : decode prog_21_method_23_code 0 = .ok (.aload_n 0, 1) := by decide +kernel
theorem d25_1 : decode prog_21_method_23_code 1 = .ok (.iload_n 1, 1) := by decide +kernel
theorem d25_2 : decode prog_21_method_23_code 2 = .ok (.invokevirtual 103, 3) := by decide +kernel
theorem d25_5 : decode prog_21_method_23_code 5 = .ok (.ifCond .eq 16, 3) := by decide +kernel
theorem d25_8 : decode prog_21_method_23_code 8 = .ok (.aload_n 0, 1) := by decide +kernel
theorem d25_9 : decode prog_21_method_23_code 9 = .ok (.aload_n 0, 1) := by decide +kernel
theorem d25_10 : decode prog_21_method_23_code 10 = .ok (.getfield 41, 3) := by decide +kernel
theorem d25_13 : decode prog_21_method_23_code 13 = .ok (.iload_n 1, 1) := by decide +kernel
theorem d25_14 : decode prog_21_method_23_code 14 = .ok (.iaload, 1) := by decide +kernel
theorem d25_15 : decode prog_21_method_23_code 15 = .ok (.invokevirtual 111, 3) := by decide +kernel
theorem d25_18 : decode prog_21_method_23_code 18 = .ok (.goto 4, 3) := by decide +kernel
theorem d25_22 : decode prog_21_method_23_code 22 = .ok (.areturn, 1) := by decide +kernel
theorem ef_25 (m : MethodId) (a0 : Addr) (p1 : Int32) : entryFrame m #[(.ref a0), (.int p1)] 2 = mkF m 0 #[.val (.ref a0), .val (.int p1)] [] := by first | (simp [entryFrame, mkF, argsToLocals, Value.category]; done) | rfl
theorem rmGvalue (l : Launch) (Z : State) (az : Array Value) (hw : HW az Z) (ws : List Jvm.Cond) (a0 : Addr) (p1 : Int32) (bb r_1 r_2 r_3 r_4 r_5 r_6 r_7 r_8 r_9 r_10 : Addr) (kr_1 kr_2 kr_3 kr_4 kr_5 kr_6 kr_7 kr_8 kr_9 kr_10 : ClassId) (zc : Int32) (fm : Value) (uu ui ua : Addr) (k0 : ClassId) (z : Int32) (bs : List Int32) (ad x_1 x_2 x_3 x_4 x_5 : Int32) (c_1 c_2 : Value) (h0 : Heap) (n0 : Nat) (Z0 : n0 ≤ h0.size) (S_C : tS0 Z h0 (.int zc)) (hzc : ¬ zc = 0) (S_F : tS1 Z h0 fm) (hfm : fm.isRef = true) (S_uu : tS2 Z h0 (.ref uu)) (S_ui : tS3 Z h0 (.ref ui)) (S_ua : tS4 Z h0 (.ref ua)) (nui : uu ≠ ui) (nua : uu ≠ ua) (nia : ui ≠ ua) (S_su : tS5 Z h0 (.ref uu)) (S_sa : tS6 Z h0 (.ref ua)) (E_uu : Exa Z h0 uu "sun/nio/cs/UTF_8") (E_ua : Exa Z h0 ua "sun/nio/cs/US_ASCII") (V_bb : Arv Z h0 bb k0 .byte z (bs.map .int) (.int 0)) (hz : z.toInt = bs.length) (hbs : ∀ b ∈ bs, 0 ≤ b.toInt ∧ b.toInt ≤ 127) (E_bb : Exa Z h0 bb "[B") (hs6 : bs.length ≤ 6) (PA : PAt Z h0 a0 bb r_1 r_2 r_3 r_4 r_5 r_6 r_7 r_8 r_9 r_10 kr_1 kr_2 kr_3 kr_4 kr_5 kr_6 kr_7 kr_8 kr_9 kr_10 ad 1 x_1 x_2 x_3 x_4 x_5 c_1 c_2 .null 0) (hnd : [a0, r_1, r_2, r_3, r_4, r_5, r_6, r_7, r_8, r_9, r_10].Nodup) (hg : ∀ x ∈ [a0, r_1, r_2, r_3, r_4, r_5, r_6, r_7, r_8, r_9, r_10], n0 ≤ x) (hr : 0 ≤ x_4.toInt ∧ x_4.toInt ≤ x_5.toInt ∧ x_5.toInt ≤ bs.length) (h1 : p1 = 0) :
    MetFree l mN5 (head1 (Jvm.Cond.code mN5 prog_21_method_23_code 2 (some (.object "java/lang/String")) :: ws) (rO 6 3 10 126)) (fun a U => a = #[(.ref a0), (.int p1)] ∧ Z.Warmed39 U.vm ∧ U.heap = h0 ∧ (PCW Z h0) U.vm) (fun _ _ _ _ _ => True) (fun _ U o U' => ∃ v L, o = .returned v ∧ (Q_gt Z [a0, r_1, r_2, r_3, r_4, r_5, r_6, r_7, r_8, r_9, r_10] (fun h s => PAt Z h a0 bb r_1 r_2 r_3 r_4 r_5 r_6 r_7 r_8 r_9 r_10 kr_1 kr_2 kr_3 kr_4 kr_5 kr_6 kr_7 kr_8 kr_9 kr_10 ad 1 x_1 x_2 x_3 x_4 x_5 c_1 c_2 (.ref s) 0) (own_sl bs x_4 x_5) h0 n0) v U'.heap U'.vm L ∧ ReturnedEndW U o U' L (rO 6 3 10 126).cells (rO 6 3 10 126).slots) := by
  refine MetFree.of_bodySF (plainFor_of_name pn_7) hisR ?_
  intro p e s m args below meth c s₁ Bd hml0 hP hK
  obtain ⟨rfl, hZ, hh, Hc⟩ := hP
  have hx := Bd.exec
  have hby := Bd.bytes
  have hlk : meth.locks = false := Bd.notSynchronized
  have hml : c.maxLocals = 2 := hml0
  have hown : s.vm.findClass "com/example/grantbook/grantbook/licence/PlainAttributes" = some m.cls := findClass_of_methodNamed Bd.named
  have X0 : Stand p l e (rO 6 3 10 126) s m #[(.ref a0), (.int p1)] below meth c s₁ [] 0 0 := Stand.of_body Bd
  have X0 : Stand p l e (rO 6 3 10 126) (s.setVm s.vm) m #[(.ref a0), (.int p1)] below meth c s₁ [] 0 0 := X0
  have e0 : s₁.heap = h0 := by rw [← hh, Bd.state]; rfl
  have hS : s.Since s.vm n0 := (State.WarmedH.refl s).since n0
  have hk : n0 ≤ h0.size := Z0
  have N0 := Fr.nil n0
  show GoW p e below s ((Q_gt Z [a0, r_1, r_2, r_3, r_4, r_5, r_6, r_7, r_8, r_9, r_10] (fun h s => PAt Z h a0 bb r_1 r_2 r_3 r_4 r_5 r_6 r_7 r_8 r_9 r_10 kr_1 kr_2 kr_3 kr_4 kr_5 kr_6 kr_7 kr_8 kr_9 kr_10 ad 1 x_1 x_2 x_3 x_4 x_5 c_1 c_2 (.ref s) 0) (own_sl bs x_4 x_5) h0 n0)) (rO 6 3 10 126).cells (rO 6 3 10 126).slots (s₁.setTop (entryFrame m #[(.ref a0), (.int p1)] 2))
  rw [ef_25 m a0 p1]
  subst h1
  obtain ⟨y_1, y_2, y_3, y_4, y_5, t_1, d_1, d_2, d_3, u_0, u_1, E_a0, F_bytes, F_nameStarts, F_localNameStarts, F_nameEnds, F_valueStarts, F_valueEnds, F_qNames, F_localNames, F_values, F_told, F_uris, F_added, F_length, V_r_1, V_r_2, V_r_3, V_r_4, V_r_5, V_r_6, V_r_7, V_r_8, V_r_9, V_r_10, O_6, O_7, O_8, O_10⟩ := (id PA)
  refine GoW.st (S' := s₁.setTop (mkF m 2 #[vr a0, vi 0] [.int 0, .ref a0])) (fun _ kk => XS.aloadN X0.here hx rfl (hb hby d25_0) rfl rfl (XS.iloadN X0.here hx rfl (hb hby d25_1) rfl kk)) ?_
  obtain ⟨cq1, qp1, qp1'⟩ := E_a0.cell
  obtain ⟨_, _, ⟨T1, L1, k1, n1⟩, -, X1, ⟨Lc1, hQ1, l1, y1, z1⟩, st1⟩ := X0.privateBack hx (y := mN6) hown (mvT hZ (ow hw 77 rfl)) (mvT hZ (ow hw 78 rfl)) (own_selp hZ (ow hw 18 rfl) (ow hw 79 rfl) (ow hw 78 rfl) (by decide)) (Cond.privateMethod_at (mvP hZ (ow hw 79 rfl) (args := #[]))) (mvT hZ (ow hw 80 rfl)) (by decide) (backOf (W := 0) (rmIT l Z az hw [] a0 (0 : Int32) h0 n0 Z0 F_length rfl) hZ (ow hw 80 rfl) (ow hw 19 rfl) (by decide) (by decide)) (g := (mkF m 2 #[vr a0, vi 0] [.int 0, .ref a0])) rfl (by rw [hml]; rfl) (Steps.refl _) (a := a0) (by rw [e0]; exact qp1) qp1' (argsL := [.int 0]) (rest := []) (lenOf pd_7 rfl) rfl (oW rfl rfl) (hb hby d25_2) (fun _ _ => ⟨rfl, e0, (by decide : 0 + 0 ≤ _), (by decide : 0 + 0 ≤ _)⟩)
  dsimp only [Pt.U, Pt.locs, Pt.cells, Pt.slots] at X1 l1 y1 z1 st1 hQ1
  rw [l1, y1, z1] at X1
  obtain ⟨hv1, N1q, e1⟩ := hQ1
  subst hv1
  have N1 := Fr.app N0 N1q
  refine GoW.st (S' := T1.setTop (mkF m 10 #[vr a0, vi 0] [.ref a0, .ref a0])) (fun _ kk => st1.trans (XS.ifNo X1.here hx rfl (hb hby d25_5) rfl ((if0 _ _).trans (feq (by decide : ¬ ((1 : Int32) = (0 : Int32)))).1) (XS.aloadN X1.here hx rfl (hb hby d25_8) rfl rfl (XS.aloadN X1.here hx rfl (hb hby d25_9) rfl rfl kk)))) ?_
  obtain ⟨T2, X2, e2, st2⟩ := getF X1 hx hZ hown (host := "") (Or.inl (ow hw 46 rfl)) Via.refl e1 F_told (g := (mkF m 10 #[vr a0, vi 0] [.ref a0, .ref a0])) rfl rfl (hb hby d25_10)
  refine GoW.st (S' := T2.setTop (mkF m 14 #[vr a0, vi 0] [.int 0, .ref r_9, .ref a0])) (fun _ kk => st2 _ (XS.iloadN X2.here hx rfl (hb hby d25_13) rfl kk)) ?_
  obtain ⟨cl3, Ar3, qk3, S3, Ng3, H3, G3⟩ := (id V_r_9)
  have hin3 : ¬ ((0 : Int32) < 0 ∨ cl3.slots.size ≤ ((0 : Int32)).toNatClampNeg) := inb_of S3 ⟨by decide, by decide⟩
  have hat3 : cl3.slots[((0 : Int32)).toNatClampNeg]? = some (.int 0) := Has.at H3 hin3 rfl
  refine GoW.st (S' := T2.setTop (mkF m 15 #[vr a0, vi 0] [.int 0, .ref a0])) (fun _ kk => X2.iaload hx (j := (0 : Int32)) (v := (.int 0)) (by rw [e2]; exact Ar3.1) (State.isArrayOf_alike hZ.alike Ar3.2.1) Ar3.2.2 hin3 hat3 (g := (mkF m 14 #[vr a0, vi 0] [.int 0, .ref r_9, .ref a0])) rfl rfl (hb hby d25_14) _ kk) ?_
  obtain ⟨cq4, kq4, q4a, q4b, q4c⟩ := isOf hZ e2 E_a0
  obtain ⟨_, _, ⟨T4, L4, k4, n4⟩, -, X4, hS4, hg4, ⟨Lc4, hQ4, l4, y4, z4⟩, st4⟩ := X2.virtualBackS hx (y := mN11) (z := mN11) hown (mvT hZ (ow hw 157 rfl)) (mvT hZ (ow hw 158 rfl)) (notFace_of_selects (args := #[]) (mvT hZ (ow hw 160 rfl))) (mvT hZ (ow hw 160 rfl)) (mvT hZ (ow hw 159 rfl)) (by decide) (own_backS (W := 0) (P := PCW Z h0) (rmMvalue l Z az hw [] a0 (0 : Int32) bb r_1 r_2 r_3 r_4 r_5 r_6 r_7 r_8 r_9 r_10 kr_1 kr_2 kr_3 kr_4 kr_5 kr_6 kr_7 kr_8 kr_9 kr_10 zc fm uu ui ua k0 z bs ad x_1 x_2 x_3 x_4 x_5 c_1 c_2 h0 n0 Z0 S_C hzc S_F hfm  S_uu S_ui S_ua nui nua nia S_su S_sa E_uu E_ua V_bb hz hbs E_bb hs6 PA hnd hg hr rfl) hZ (ow hw 161 rfl) (ow hw 19 rfl) (by decide) (by decide)) q4a q4c (g := (mkF m 15 #[vr a0, vi 0] [.int 0, .ref a0])) rfl (by rw [hml]; rfl) (Steps.refl _) (argsL := [.int 0]) (rest := []) (lenOf pd_6 rfl) rfl (oW rfl rfl) (hb hby d25_15) (fun vmq hvq => ⟨rfl, e2, (own_chat hZ hvq (own_EW hw) Hc).1, (by decide : 0 + 3 ≤ _), (by decide : 0 + 10 ≤ _)⟩)
  dsimp only [Pt.U, Pt.locs, Pt.cells, Pt.slots] at X4 l4 y4 z4 st4 hQ4 hS4 hg4
  rw [l4, y4, z4] at X4
  obtain ⟨X4, hS, hZ, hown⟩ := rebS hS (own_hk e2 hk) X4 hS4 hg4 hZ hown
  obtain ⟨s4, rfl, N4q, K4, Hc4, PAq4, CS4⟩ := hQ4
  have N4 := Fr.app N1 N4q
  have fp5 := PAt.fp PA
  have S_C := own_stak K4 (fun x hx => FP.nostat (fp5 x hx)) S_C
  have S_F := own_stak K4 (fun x hx => FP.nostat (fp5 x hx)) S_F
  have S_uu := own_stak K4 (fun x hx => FP.nostat (fp5 x hx)) S_uu
  have S_ui := own_stak K4 (fun x hx => FP.nostat (fp5 x hx)) S_ui
  have S_ua := own_stak K4 (fun x hx => FP.nostat (fp5 x hx)) S_ua
  have S_su := own_stak K4 (fun x hx => FP.nostat (fp5 x hx)) S_su
  have S_sa := own_stak K4 (fun x hx => FP.nostat (fp5 x hx)) S_sa
  have E_uu := E_uu.keep K4
  have E_ua := E_ua.keep K4
  have V_bb := Arv.fpB K4 fp5 (ow hw 18 rfl) V_bb
  have E_bb := E_bb.keep K4
  have E_a0 := E_a0.keep K4
  have Zs6 := Nat.le_trans Z0 K4.1
  have hk := Nat.le_trans hk K4.1
  have Kp7 := (Keep.refl h0 [a0, r_1, r_2, r_3, r_4, r_5, r_6, r_7, r_8, r_9, r_10]).trans K4 (fun x hx => Or.inl hx)
  have Hc := Hc4
  have Ec4 := CS4.1
  have PA := PAq4
  have hk : T4.heap.size ≤ (T4.heap).size := Nat.le_of_eq (congrArg Array.size (show T4.heap = T4.heap from rfl))
  refine GoW.st (S' := T4.setTop (mkF m 22 #[vr a0, vi 0] [.ref s4])) (fun _ kk => st4.trans (XS.goto X4.here hx rfl (pc0 := 18) (pc' := 22) rfl (hb hby d25_18) (by decide) (by decide) kk)) ?_
  exact GoW.retA X4 hx hlk hS (own_hk rfl hk) Bd.returns rfl rfl (hb hby d25_22) (by exact ⟨_, rfl, N4, Kp7, (own_chat hZ X4.warmed (own_EW hw) Hc).1, PA, CS4⟩) (by decide) (by decide)
def fFd (p0 : Int32) (p1 : Int32) : Int32 := ((((p0.toUInt32 >>> (((3 : Int32) * p1) &&& 31).toUInt32).toInt32) &&& (7 : Int32)) % (7 : Int32))
theorem d2_0 : decode method_2_code 0 = .ok (.iload_n 0, 1) := by decide +kernel
theorem d2_1 : decode method_2_code 1 = .ok (.iconst 3, 1) := by decide +kernel
theorem d2_2 : decode method_2_code 2 = .ok (.iload_n 1, 1) := by decide +kernel
theorem d2_3 : decode method_2_code 3 = .ok (.imul, 1) := by decide +kernel
theorem d2_4 : decode method_2_code 4 = .ok (.iushr, 1) := by decide +kernel
theorem d2_5 : decode method_2_code 5 = .ok (.bipush 7, 2) := by decide +kernel
theorem d2_7 : decode method_2_code 7 = .ok (.iand, 1) := by decide +kernel
theorem d2_8 : decode method_2_code 8 = .ok (.bipush 7, 2) := by decide +kernel
theorem d2_10 : decode method_2_code 10 = .ok (.irem, 1) := by decide +kernel
theorem d2_11 : decode method_2_code 11 = .ok (.ireturn, 1) := by decide +kernel
theorem pn_8 : plainName "com/example/grantbook/grantbook/licence/PlainAttributesAddPinLaw" = true := by first | (simp [plainName, overriddenIn]; done) | decide +kernel
theorem ef_2 (m : MethodId) (p0 : Int32) (p1 : Int32) : entryFrame m #[(.int p0), (.int p1)] 2 = mkF m 0 #[.val (.int p0), .val (.int p1)] [] := by first | (simp [entryFrame, mkF, argsToLocals, Value.category]; done) | rfl
theorem rmFd (l : Launch) (Z : State) (az : Array Value) (hw : HW az Z) (ws : List Jvm.Cond) (p0 : Int32) (p1 : Int32)  (h0 : Heap) (n0 : Nat) (Z0 : n0 ≤ h0.size)  :
    MF l mN14 (Jvm.Cond.code mN14 method_2_code 2 (some .int) :: ws) (rO 0 0 0 0) #[(.int p0), (.int p1)] Z h0 (PQ (.int (fFd p0 p1)) n0 h0) := by
  refine MetFree.of_bodySF (plainFor_of_name pn_8) hisR ?_
  intro p e s m args below meth c s₁ Bd hml0 hP hK
  obtain ⟨rfl, hZ, hh⟩ := hP
  have hx := Bd.exec
  have hby := Bd.bytes
  have hlk : meth.locks = false := Bd.notSynchronized
  have hml : c.maxLocals = 2 := hml0
  have hown : s.vm.findClass "com/example/grantbook/grantbook/licence/PlainAttributesAddPinLaw" = some m.cls := findClass_of_methodNamed Bd.named
  have X0 : Stand p l e (rO 0 0 0 0) s m #[(.int p0), (.int p1)] below meth c s₁ [] 0 0 := Stand.of_body Bd
  have e0 : s₁.heap = h0 := by rw [← hh, Bd.state]; rfl
  have N0 := Fr.nil n0
  show Go p e below s ((PQ (.int (fFd p0 p1)) n0 h0)) (rO 0 0 0 0).cells (rO 0 0 0 0).slots (s₁.setTop (entryFrame m #[(.int p0), (.int p1)] 2))
  rw [ef_2 m p0 p1]
  refine Go.st (S' := s₁.setTop (mkF m 7 #[vi p0, vi p1] [.int 7, .int ((p0.toUInt32 >>> (((3 : Int32) * p1) &&& 31).toUInt32).toInt32)])) (fun _ kk => XS.iloadN X0.here hx rfl (hb hby d2_0) rfl (XS.iconst X0.here hx rfl (hb hby d2_1) (XS.iloadN X0.here hx rfl (hb hby d2_2) rfl (XS.imul X0.here hx rfl (hb hby d2_3) rfl (XS.iushr X0.here hx rfl (hb hby d2_4) rfl (XS.bipush X0.here hx rfl (hb hby d2_5) kk)))))) ?_
  refine Go.st (S' := s₁.setTop (mkF m 11 #[vi p0, vi p1] [.int ((((p0.toUInt32 >>> (((3 : Int32) * p1) &&& 31).toUInt32).toInt32) &&& (7 : Int32)) % (7 : Int32))])) (fun _ kk => XS.iand X0.here hx rfl (hb hby d2_7) rfl (XS.bipush X0.here hx rfl (hb hby d2_8) (iremM (g := (mkF m 10 #[vi p0, vi p1] [.int 7, .int (((p0.toUInt32 >>> (((3 : Int32) * p1) &&& 31).toUInt32).toInt32) &&& (7 : Int32))])) X0 hx rfl (hb hby d2_10) rfl (by decide) kk))) ?_
  exact Go.retI X0 hx hlk Bd.returns (hb hby d2_11) (⟨congrArg (fun q => some (Value.int q)) (Eq.symm (show fFd p0 p1 = ((((p0.toUInt32 >>> (((3 : Int32) * p1) &&& 31).toUInt32).toInt32) &&& (7 : Int32)) % (7 : Int32)) from by rfl)), N0, e0⟩) (by decide) (by decide)
def fMax (p0 : Int32) (p1 : Int32) : Int32 := (if p0 < p1 then p1 else p0)
theorem d4_0 : decode jdk_29_method_65_code 0 = .ok (.iload_n 0, 1) := by decide +kernel
theorem d4_1 : decode jdk_29_method_65_code 1 = .ok (.iload_n 1, 1) := by decide +kernel
theorem d4_2 : decode jdk_29_method_65_code 2 = .ok (.if_icmp .lt 7, 3) := by decide +kernel
theorem d4_5 : decode jdk_29_method_65_code 5 = .ok (.iload_n 0, 1) := by decide +kernel
theorem d4_6 : decode jdk_29_method_65_code 6 = .ok (.goto 4, 3) := by decide +kernel
theorem d4_9 : decode jdk_29_method_65_code 9 = .ok (.iload_n 1, 1) := by decide +kernel
theorem d4_10 : decode jdk_29_method_65_code 10 = .ok (.ireturn, 1) := by decide +kernel
theorem pf_4 : plainFor mN16 = true := by decide +kernel
theorem ef_4 (m : MethodId) (p0 : Int32) (p1 : Int32) : entryFrame m #[(.int p0), (.int p1)] 2 = mkF m 0 #[.val (.int p0), .val (.int p1)] [] := by first | (simp [entryFrame, mkF, argsToLocals, Value.category]; done) | rfl
theorem rmMax (l : Launch) (Z : State) (az : Array Value) (hw : HW az Z) (ws : List Jvm.Cond) (p0 : Int32) (p1 : Int32)  (h0 : Heap) (n0 : Nat) (Z0 : n0 ≤ h0.size)  :
    MF l mN16 (Jvm.Cond.code mN16 jdk_29_method_65_code 2 (some .int) :: ws) (rO 0 0 0 0) #[(.int p0), (.int p1)] Z h0 (PQ (.int (fMax p0 p1)) n0 h0) := by
  refine MetFree.of_bodySF pf_4 hisR ?_
  intro p e s m args below meth c s₁ Bd hml0 hP hK
  obtain ⟨rfl, hZ, hh⟩ := hP
  have hx := Bd.exec
  have hby := Bd.bytes
  have hlk : meth.locks = false := Bd.notSynchronized
  have hml : c.maxLocals = 2 := hml0
  have hown : s.vm.findClass "java/lang/Math" = some m.cls := findClass_of_methodNamed Bd.named
  have X0 : Stand p l e (rO 0 0 0 0) s m #[(.int p0), (.int p1)] below meth c s₁ [] 0 0 := Stand.of_body Bd
  have e0 : s₁.heap = h0 := by rw [← hh, Bd.state]; rfl
  have N0 := Fr.nil n0
  show Go p e below s ((PQ (.int (fMax p0 p1)) n0 h0)) (rO 0 0 0 0).cells (rO 0 0 0 0).slots (s₁.setTop (entryFrame m #[(.int p0), (.int p1)] 2))
  rw [ef_4 m p0 p1]
  refine Go.st (S' := s₁.setTop (mkF m 2 #[vi p0, vi p1] [.int p1, .int p0])) (fun _ kk => XS.iloadN X0.here hx rfl (hb hby d4_0) rfl (XS.iloadN X0.here hx rfl (hb hby d4_1) rfl kk)) ?_
  by_cases hc1 : p0 < p1
  · refine Go.st (S' := s₁.setTop (mkF m 10 #[vi p0, vi p1] [.int p1])) (fun _ kk => XS.icmpYes X0.here hx rfl (pc0 := 2) (pc' := 9) rfl (hb hby d4_2) rfl (tlt hc1).1 (by decide) (by decide) (XS.iloadN X0.here hx rfl (hb hby d4_9) rfl kk)) ?_
    exact Go.retI X0 hx hlk Bd.returns (hb hby d4_10) (⟨congrArg (fun q => some (Value.int q)) (Eq.symm (show fMax p0 p1 = p1 from by unfold fMax; rw [if_pos hc1])), N0, e0⟩) (by decide) (by decide)
  · refine Go.st (S' := s₁.setTop (mkF m 10 #[vi p0, vi p1] [.int p0])) (fun _ kk => XS.icmpNo X0.here hx rfl (hb hby d4_2) rfl (flt hc1).1 (XS.iloadN X0.here hx rfl (hb hby d4_5) rfl (XS.goto X0.here hx rfl (pc0 := 6) (pc' := 10) rfl (hb hby d4_6) (by decide) (by decide) kk))) ?_
    exact Go.retI X0 hx hlk Bd.returns (hb hby d4_10) (⟨congrArg (fun q => some (Value.int q)) (Eq.symm (show fMax p0 p1 = p0 from by unfold fMax; rw [if_neg hc1])), N0, e0⟩) (by decide) (by decide)
theorem own_fd (q k : Int32) : 0 ≤ (fFd q k).toInt ∧ (fFd q k).toInt ≤ 6 := by
  unfold fFd
  generalize (q.toUInt32 >>> (((3 : Int32) * k) &&& 31).toUInt32).toInt32 = w
  have m : (w &&& (7 : Int32)).toInt = w.toInt % (2 ^ 3 : Nat) := c_mask w 7 3 (by decide) (by decide)
  simp only [Nat.reducePow, Int.cast_ofNat_Int] at m
  have r := (c_irem (w &&& (7 : Int32)) 7 7 (by decide)).1 (by omega)
  omega
theorem own_mn (a b : Int32) : (fMin a b).toInt = if a.toInt ≤ b.toInt then a.toInt else b.toInt := by
  unfold fMin
  by_cases q : b < a
  · rw [if_pos q, if_neg (by rw [Int32.lt_iff_toInt_lt] at q; omega)]
  · rw [if_neg q, if_pos (by rw [Int32.lt_iff_toInt_lt] at q; omega)]
theorem own_mx (a b : Int32) : (fMax a b).toInt = if a.toInt < b.toInt then b.toInt else a.toInt := by
  unfold fMax
  by_cases q : a < b
  · rw [if_pos q, if_pos (by rw [Int32.lt_iff_toInt_lt] at q; omega)]
  · rw [if_neg q, if_neg (by rw [Int32.lt_iff_toInt_lt] at q; omega)]
theorem own_as {a b : Int32} (ha : -100 ≤ a.toInt ∧ a.toInt ≤ 100) (hb : -100 ≤ b.toInt ∧ b.toInt ≤ 100) : (a + b).toInt = a.toInt + b.toInt ∧ (a - b).toInt = a.toInt - b.toInt := by
  have q1 := c_iadd a b
  have q2 := c_isub a b
  have h1 := (a + b).le_toInt
  have h2 := (a + b).toInt_lt
  have h3 := (a - b).le_toInt
  have h4 := (a - b).toInt_lt
  simp only [Int.reducePow, Int.reduceNeg] at *
  omega
/-- what attr answers -/
def AtB (v1 v2 v3 v4 v5 : Int32) : Prop := (0 ≤ v1.toInt ∧ v1.toInt ≤ v2.toInt ∧ v2.toInt ≤ v3.toInt ∧ v3.toInt ≤ 6) ∧ 0 ≤ v4.toInt ∧ v4.toInt ≤ v5.toInt ∧ v5.toInt ≤ 6
theorem own_attr {x y z u v lo hi : Int32} (hx : 0 ≤ x.toInt ∧ x.toInt ≤ 6) (hy : 0 ≤ y.toInt ∧ y.toInt ≤ 6) (hz : 0 ≤ z.toInt ∧ z.toInt ≤ 6) (hu : 0 ≤ u.toInt ∧ u.toInt ≤ 6) (hv : 0 ≤ v.toInt ∧ v.toInt ≤ 6) (el : lo = fMin x (fMin y z)) (eh : hi = fMax x (fMax y z)) : AtB lo ((((x + y) + z) - lo) - hi) hi (fMin u v) (fMax u v) := by
  have l1 := own_mn x (fMin y z)
  rw [← el] at l1
  have l2 := own_mn y z
  have h1 := own_mx x (fMax y z)
  rw [← eh] at h1
  have h2 := own_mx y z
  have m1 := own_mn u v
  have m2 := own_mx u v
  have bl : 0 ≤ lo.toInt ∧ lo.toInt ≤ 6 := by split at l1 <;> split at l2 <;> omega
  have bh : 0 ≤ hi.toInt ∧ hi.toInt ≤ 6 := by split at h1 <;> split at h2 <;> omega
  have s1 := (own_as (a := x) (b := y) (by omega) (by omega)).1
  have s2 := (own_as (a := x + y) (b := z) (by omega) (by omega)).1
  have s3 := (own_as (a := x + y + z) (b := lo) (by omega) (by omega)).2
  have s4 := (own_as (a := x + y + z - lo) (b := hi) (by omega) (by omega)).2
  unfold AtB
  refine ⟨?_, ?_⟩
  · split at l1 <;> split at l2 <;> split at h1 <;> split at h2 <;> omega
  · split at m1 <;> split at m2 <;> omega
def Q_at (Z : State) (h0 : Heap) (n0 : Nat) (v : Option Value) (h : Heap) (L : List Loc) : Prop := ∃ (b : Addr) (k : ClassId) (v1 v2 v3 v4 v5 : Int32), v = some (.ref b) ∧ Fr n0 L ∧ Keep h0 h [] ∧ Arv Z h b k .int 5 [.int v1, .int v2, .int v3, .int v4, .int v5] (.int 0) ∧ h0.size ≤ b ∧ AtB v1 v2 v3 v4 v5
theorem own_ateq {bs : List Int32} {p q k z : Int32} (hz : z.toInt = bs.length) (hbs : ∀ b ∈ bs, 0 ≤ b.toInt ∧ b.toInt ≤ 127) (hr : 0 ≤ p.toInt ∧ p.toInt ≤ q.toInt ∧ q.toInt ≤ bs.length) (hk : 0 ≤ k.toInt) (hlt : k < (q - p)) : (0 ≤ k.toInt ∧ k.toInt < (own_sl bs p q).length) ∧ (¬ (p + k) < 0 ∧ (p + k) < z) ∧ bt (own_sl bs p q) k = ((bt bs (p + k)).toUInt32.toUInt16.toUInt32.toInt32) := by
  have d := own_dif hz hr
  have l := own_sll hr
  rw [Int32.lt_iff_toInt_lt] at hlt
  have s := own_lim hz ⟨hr.1, hk, (by omega : p.toInt + k.toInt ≤ bs.length)⟩
  have hi : 0 ≤ (p + k).toInt ∧ (p + k).toInt < bs.length := by omega
  have e : bt (own_sl bs p q) k = bt bs (p + k) := by
    unfold bt
    rw [own_nat32 hk, own_nat32 hi.1, own_slg hr (by omega), s]
    congr 1
    omega
  refine ⟨by omega, own_inz hi.1 (by omega), ?_⟩
  rw [e]
  have b := hbs _ (own_btin hi)
  exact (own_cc16 ⟨b.1, by omega⟩).symm
theorem d1_0 : decode method_3_code 0 = .ok (.iload_n 0, 1) := by decide +kernel
theorem d1_1 : decode method_3_code 1 = .ok (.iconst 0, 1) := by decide +kernel
theorem d1_2 : decode method_3_code 2 = .ok (.invokestatic 7, 3) := by decide +kernel
theorem d1_5 : decode method_3_code 5 = .ok (.istore_n 1, 1) := by decide +kernel
theorem d1_6 : decode method_3_code 6 = .ok (.iload_n 0, 1) := by decide +kernel
theorem d1_7 : decode method_3_code 7 = .ok (.iconst 1, 1) := by decide +kernel
theorem d1_8 : decode method_3_code 8 = .ok (.invokestatic 7, 3) := by decide +kernel
theorem d1_11 : decode method_3_code 11 = .ok (.istore_n 2, 1) := by decide +kernel
theorem d1_12 : decode method_3_code 12 = .ok (.iload_n 0, 1) := by decide +kernel
theorem d1_13 : decode method_3_code 13 = .ok (.iconst 2, 1) := by decide +kernel
theorem d1_14 : decode method_3_code 14 = .ok (.invokestatic 7, 3) := by decide +kernel
theorem d1_17 : decode method_3_code 17 = .ok (.istore_n 3, 1) := by decide +kernel
theorem d1_18 : decode method_3_code 18 = .ok (.iload_n 1, 1) := by decide +kernel
theorem d1_19 : decode method_3_code 19 = .ok (.iload_n 2, 1) := by decide +kernel
theorem d1_20 : decode method_3_code 20 = .ok (.iload_n 3, 1) := by decide +kernel
theorem d1_21 : decode method_3_code 21 = .ok (.invokestatic 13, 3) := by decide +kernel
theorem d1_24 : decode method_3_code 24 = .ok (.invokestatic 13, 3) := by decide +kernel
theorem d1_27 : decode method_3_code 27 = .ok (.istore 4, 2) := by decide +kernel
theorem d1_29 : decode method_3_code 29 = .ok (.iload_n 1, 1) := by decide +kernel
theorem d1_30 : decode method_3_code 30 = .ok (.iload_n 2, 1) := by decide +kernel
theorem d1_31 : decode method_3_code 31 = .ok (.iload_n 3, 1) := by decide +kernel
theorem d1_32 : decode method_3_code 32 = .ok (.invokestatic 18, 3) := by decide +kernel
theorem d1_35 : decode method_3_code 35 = .ok (.invokestatic 18, 3) := by decide +kernel
theorem d1_38 : decode method_3_code 38 = .ok (.istore 5, 2) := by decide +kernel
theorem d1_40 : decode method_3_code 40 = .ok (.iload_n 1, 1) := by decide +kernel
theorem d1_41 : decode method_3_code 41 = .ok (.iload_n 2, 1) := by decide +kernel
theorem d1_42 : decode method_3_code 42 = .ok (.iadd, 1) := by decide +kernel
theorem d1_43 : decode method_3_code 43 = .ok (.iload_n 3, 1) := by decide +kernel
theorem d1_44 : decode method_3_code 44 = .ok (.iadd, 1) := by decide +kernel
theorem d1_45 : decode method_3_code 45 = .ok (.iload 4, 2) := by decide +kernel
theorem d1_47 : decode method_3_code 47 = .ok (.isub, 1) := by decide +kernel
theorem d1_48 : decode method_3_code 48 = .ok (.iload 5, 2) := by decide +kernel
theorem d1_50 : decode method_3_code 50 = .ok (.isub, 1) := by decide +kernel
theorem d1_51 : decode method_3_code 51 = .ok (.istore 6, 2) := by decide +kernel
theorem d1_53 : decode method_3_code 53 = .ok (.iload_n 0, 1) := by decide +kernel
theorem d1_54 : decode method_3_code 54 = .ok (.iconst 3, 1) := by decide +kernel
theorem d1_55 : decode method_3_code 55 = .ok (.invokestatic 7, 3) := by decide +kernel
theorem d1_58 : decode method_3_code 58 = .ok (.istore 7, 2) := by decide +kernel
theorem d1_60 : decode method_3_code 60 = .ok (.iload_n 0, 1) := by decide +kernel
theorem d1_61 : decode method_3_code 61 = .ok (.iconst 4, 1) := by decide +kernel
theorem d1_62 : decode method_3_code 62 = .ok (.invokestatic 7, 3) := by decide +kernel
theorem d1_65 : decode method_3_code 65 = .ok (.istore 8, 2) := by decide +kernel
theorem d1_67 : decode method_3_code 67 = .ok (.iconst 5, 1) := by decide +kernel
theorem d1_68 : decode method_3_code 68 = .ok (.newarray .int, 2) := by decide +kernel
theorem d1_70 : decode method_3_code 70 = .ok (.dup, 1) := by decide +kernel
theorem d1_71 : decode method_3_code 71 = .ok (.iconst 0, 1) := by decide +kernel
theorem d1_72 : decode method_3_code 72 = .ok (.iload 4, 2) := by decide +kernel
theorem d1_74 : decode method_3_code 74 = .ok (.iastore, 1) := by decide +kernel
theorem d1_75 : decode method_3_code 75 = .ok (.dup, 1) := by decide +kernel
theorem d1_76 : decode method_3_code 76 = .ok (.iconst 1, 1) := by decide +kernel
theorem d1_77 : decode method_3_code 77 = .ok (.iload 6, 2) := by decide +kernel
theorem d1_79 : decode method_3_code 79 = .ok (.iastore, 1) := by decide +kernel
theorem d1_80 : decode method_3_code 80 = .ok (.dup, 1) := by decide +kernel
theorem d1_81 : decode method_3_code 81 = .ok (.iconst 2, 1) := by decide +kernel
theorem d1_82 : decode method_3_code 82 = .ok (.iload 5, 2) := by decide +kernel
theorem d1_84 : decode method_3_code 84 = .ok (.iastore, 1) := by decide +kernel
theorem d1_85 : decode method_3_code 85 = .ok (.dup, 1) := by decide +kernel
theorem d1_86 : decode method_3_code 86 = .ok (.iconst 3, 1) := by decide +kernel
theorem d1_87 : decode method_3_code 87 = .ok (.iload 7, 2) := by decide +kernel
theorem d1_89 : decode method_3_code 89 = .ok (.iload 8, 2) := by decide +kernel
theorem d1_91 : decode method_3_code 91 = .ok (.invokestatic 13, 3) := by decide +kernel
theorem d1_94 : decode method_3_code 94 = .ok (.iastore, 1) := by decide +kernel
theorem d1_95 : decode method_3_code 95 = .ok (.dup, 1) := by decide +kernel
theorem d1_96 : decode method_3_code 96 = .ok (.iconst 4, 1) := by decide +kernel
theorem d1_97 : decode method_3_code 97 = .ok (.iload 7, 2) := by decide +kernel
theorem d1_99 : decode method_3_code 99 = .ok (.iload 8, 2) := by decide +kernel
theorem d1_101 : decode method_3_code 101 = .ok (.invokestatic 18, 3) := by decide +kernel
theorem d1_104 : decode method_3_code 104 = .ok (.iastore, 1) := by decide +kernel
theorem d1_105 : decode method_3_code 105 = .ok (.areturn, 1) := by decide +kernel
theorem ef_1 (m : MethodId) (p0 : Int32) : entryFrame m #[(.int p0)] 9 = mkF m 0 #[.val (.int p0), .unset, .unset, .unset, .unset, .unset, .unset, .unset, .unset] [] := by first | (simp [entryFrame, mkF, argsToLocals, Value.category]; done) | rfl
theorem rmAt (l : Launch) (Z : State) (az : Array Value) (hw : HW az Z) (ws : List Jvm.Cond) (p0 : Int32)  (h0 : Heap) (n0 : Nat) (Z0 : n0 ≤ h0.size)  :
    MF l mN13 (Jvm.Cond.code mN13 method_3_code 9 (some (.array .int)) :: ws) (rO 1 1 5 16) #[(.int p0)] Z h0 (Q_at Z h0 n0) := by
  refine MetFree.of_bodySF (plainFor_of_name pn_8) hisR ?_
  intro p e s m args below meth c s₁ Bd hml0 hP hK
  obtain ⟨rfl, hZ, hh⟩ := hP
  have hx := Bd.exec
  have hby := Bd.bytes
  have hlk : meth.locks = false := Bd.notSynchronized
  have hml : c.maxLocals = 9 := hml0
  have hown : s.vm.findClass "com/example/grantbook/grantbook/licence/PlainAttributesAddPinLaw" = some m.cls := findClass_of_methodNamed Bd.named
  have X0 : Stand p l e (rO 1 1 5 16) s m #[(.int p0)] below meth c s₁ [] 0 0 := Stand.of_body Bd
  have e0 : s₁.heap = h0 := by rw [← hh, Bd.state]; rfl
  have N0 := Fr.nil n0
  show Go p e below s ((Q_at Z h0 n0)) (rO 1 1 5 16).cells (rO 1 1 5 16).slots (s₁.setTop (entryFrame m #[(.int p0)] 9))
  rw [ef_1 m p0]
  refine Go.st (S' := s₁.setTop (mkF m 2 #[vi p0, .unset, .unset, .unset, .unset, .unset, .unset, .unset, .unset] [.int 0, .int p0])) (fun _ kk => XS.iloadN X0.here hx rfl (hb hby d1_0) rfl (XS.iconst X0.here hx rfl (hb hby d1_1) kk)) ?_
  obtain ⟨_, _, ⟨T1, L1, k1, n1⟩, -, X1, ⟨Lc1, hQ1, l1, y1, z1⟩, st1⟩ := Jvm.LawKit.callS X0 hx (y := mN14) hown (mvT hZ (ow hw 6 rfl)) (mvT hZ (ow hw 7 rfl)) (mvT hZ (ow hw 4 rfl)) (mvT hZ (ow hw 8 rfl)) (by decide) (backOf (W := 0) (rmFd l Z az hw [] p0 (0 : Int32)  h0 n0 Z0 ) hZ (ow hw 8 rfl) (ow hw 4 rfl) (by decide) (by decide)) (g := (mkF m 2 #[vi p0, .unset, .unset, .unset, .unset, .unset, .unset, .unset, .unset] [.int 0, .int p0])) rfl (by rw [hml]; rfl) (argsL := [.int p0, .int 0]) (rest := []) (lenOf pd_1 rfl) rfl (oW rfl rfl) (hb hby d1_2) (fun _ _ => ⟨rfl, e0, (by decide : 0 + 0 ≤ _), (by decide : 0 + 0 ≤ _)⟩)
  dsimp only [Pt.U, Pt.locs, Pt.cells, Pt.slots] at X1 l1 y1 z1 st1 hQ1
  rw [l1, y1, z1] at X1
  obtain ⟨hv1, N1q, e1⟩ := hQ1
  rw [show fFd p0 (0 : Int32) = ((((p0.toUInt32 >>> (((3 : Int32) * (0 : Int32)) &&& 31).toUInt32).toInt32) &&& (7 : Int32)) % (7 : Int32)) from rfl] at hv1
  subst hv1
  have N1 := Fr.app N0 N1q
  refine Go.st (S' := T1.setTop (mkF m 5 #[vi p0, .unset, .unset, .unset, .unset, .unset, .unset, .unset, .unset] [.int ((((p0.toUInt32 >>> (((3 : Int32) * (0 : Int32)) &&& 31).toUInt32).toInt32) &&& (7 : Int32)) % (7 : Int32))])) st1 ?_
  obtain ⟨fx, h_fx⟩ : ∃ z : Int32, z = ((((p0.toUInt32 >>> (((3 : Int32) * (0 : Int32)) &&& 31).toUInt32).toInt32) &&& (7 : Int32)) % (7 : Int32)) := ⟨_, rfl⟩
  rw [← h_fx]
  have hb_fx : 0 ≤ fx.toInt ∧ fx.toInt ≤ 6 := by rw [h_fx]; exact own_fd _ _
  refine Go.st (S' := T1.setTop (mkF m 8 #[vi p0, vi fx, .unset, .unset, .unset, .unset, .unset, .unset, .unset] [.int 1, .int p0])) (fun _ kk => XS.istoreN X1.here hx rfl (hb hby d1_5) rfl (l' := #[vi p0, vi fx, .unset, .unset, .unset, .unset, .unset, .unset, .unset]) rfl (XS.iloadN X1.here hx rfl (hb hby d1_6) rfl (XS.iconst X1.here hx rfl (hb hby d1_7) kk))) ?_
  obtain ⟨_, _, ⟨T2, L2, k2, n2⟩, -, X2, ⟨Lc2, hQ2, l2, y2, z2⟩, st2⟩ := Jvm.LawKit.callS X1 hx (y := mN14) hown (mvT hZ (ow hw 6 rfl)) (mvT hZ (ow hw 7 rfl)) (mvT hZ (ow hw 4 rfl)) (mvT hZ (ow hw 8 rfl)) (by decide) (backOf (W := 0) (rmFd l Z az hw [] p0 (1 : Int32)  h0 n0 Z0 ) hZ (ow hw 8 rfl) (ow hw 4 rfl) (by decide) (by decide)) (g := (mkF m 8 #[vi p0, vi fx, .unset, .unset, .unset, .unset, .unset, .unset, .unset] [.int 1, .int p0])) rfl (by rw [hml]; rfl) (argsL := [.int p0, .int 1]) (rest := []) (lenOf pd_1 rfl) rfl (oW rfl rfl) (hb hby d1_8) (fun _ _ => ⟨rfl, e1, (by decide : 0 + 0 ≤ _), (by decide : 0 + 0 ≤ _)⟩)
  dsimp only [Pt.U, Pt.locs, Pt.cells, Pt.slots] at X2 l2 y2 z2 st2 hQ2
  rw [l2, y2, z2] at X2
  obtain ⟨hv2, N2q, e2⟩ := hQ2
  rw [show fFd p0 (1 : Int32) = ((((p0.toUInt32 >>> (((3 : Int32) * (1 : Int32)) &&& 31).toUInt32).toInt32) &&& (7 : Int32)) % (7 : Int32)) from rfl] at hv2
  subst hv2
  have N2 := Fr.app N1 N2q
  refine Go.st (S' := T2.setTop (mkF m 11 #[vi p0, vi fx, .unset, .unset, .unset, .unset, .unset, .unset, .unset] [.int ((((p0.toUInt32 >>> (((3 : Int32) * (1 : Int32)) &&& 31).toUInt32).toInt32) &&& (7 : Int32)) % (7 : Int32))])) st2 ?_
  obtain ⟨fy, h_fy⟩ : ∃ z : Int32, z = ((((p0.toUInt32 >>> (((3 : Int32) * (1 : Int32)) &&& 31).toUInt32).toInt32) &&& (7 : Int32)) % (7 : Int32)) := ⟨_, rfl⟩
  rw [← h_fy]
  have hb_fy : 0 ≤ fy.toInt ∧ fy.toInt ≤ 6 := by rw [h_fy]; exact own_fd _ _
  refine Go.st (S' := T2.setTop (mkF m 14 #[vi p0, vi fx, vi fy, .unset, .unset, .unset, .unset, .unset, .unset] [.int 2, .int p0])) (fun _ kk => XS.istoreN X2.here hx rfl (hb hby d1_11) rfl (l' := #[vi p0, vi fx, vi fy, .unset, .unset, .unset, .unset, .unset, .unset]) rfl (XS.iloadN X2.here hx rfl (hb hby d1_12) rfl (XS.iconst X2.here hx rfl (hb hby d1_13) kk))) ?_
  obtain ⟨_, _, ⟨T3, L3, k3, n3⟩, -, X3, ⟨Lc3, hQ3, l3, y3, z3⟩, st3⟩ := Jvm.LawKit.callS X2 hx (y := mN14) hown (mvT hZ (ow hw 6 rfl)) (mvT hZ (ow hw 7 rfl)) (mvT hZ (ow hw 4 rfl)) (mvT hZ (ow hw 8 rfl)) (by decide) (backOf (W := 0) (rmFd l Z az hw [] p0 (2 : Int32)  h0 n0 Z0 ) hZ (ow hw 8 rfl) (ow hw 4 rfl) (by decide) (by decide)) (g := (mkF m 14 #[vi p0, vi fx, vi fy, .unset, .unset, .unset, .unset, .unset, .unset] [.int 2, .int p0])) rfl (by rw [hml]; rfl) (argsL := [.int p0, .int 2]) (rest := []) (lenOf pd_1 rfl) rfl (oW rfl rfl) (hb hby d1_14) (fun _ _ => ⟨rfl, e2, (by decide : 0 + 0 ≤ _), (by decide : 0 + 0 ≤ _)⟩)
  dsimp only [Pt.U, Pt.locs, Pt.cells, Pt.slots] at X3 l3 y3 z3 st3 hQ3
  rw [l3, y3, z3] at X3
  obtain ⟨hv3, N3q, e3⟩ := hQ3
  rw [show fFd p0 (2 : Int32) = ((((p0.toUInt32 >>> (((3 : Int32) * (2 : Int32)) &&& 31).toUInt32).toInt32) &&& (7 : Int32)) % (7 : Int32)) from rfl] at hv3
  subst hv3
  have N3 := Fr.app N2 N3q
  refine Go.st (S' := T3.setTop (mkF m 17 #[vi p0, vi fx, vi fy, .unset, .unset, .unset, .unset, .unset, .unset] [.int ((((p0.toUInt32 >>> (((3 : Int32) * (2 : Int32)) &&& 31).toUInt32).toInt32) &&& (7 : Int32)) % (7 : Int32))])) st3 ?_
  obtain ⟨fz, h_fz⟩ : ∃ z : Int32, z = ((((p0.toUInt32 >>> (((3 : Int32) * (2 : Int32)) &&& 31).toUInt32).toInt32) &&& (7 : Int32)) % (7 : Int32)) := ⟨_, rfl⟩
  rw [← h_fz]
  have hb_fz : 0 ≤ fz.toInt ∧ fz.toInt ≤ 6 := by rw [h_fz]; exact own_fd _ _
  refine Go.st (S' := T3.setTop (mkF m 21 #[vi p0, vi fx, vi fy, vi fz, .unset, .unset, .unset, .unset, .unset] [.int fz, .int fy, .int fx])) (fun _ kk => XS.istoreN X3.here hx rfl (hb hby d1_17) rfl (l' := #[vi p0, vi fx, vi fy, vi fz, .unset, .unset, .unset, .unset, .unset]) rfl (XS.iloadN X3.here hx rfl (hb hby d1_18) rfl (XS.iloadN X3.here hx rfl (hb hby d1_19) rfl (XS.iloadN X3.here hx rfl (hb hby d1_20) rfl kk)))) ?_
  obtain ⟨_, _, ⟨T4, L4, k4, n4⟩, -, X4, ⟨Lc4, hQ4, l4, y4, z4⟩, st4⟩ := Jvm.LawKit.callS X3 hx (y := mN17) hown (mvT hZ (ow hw 9 rfl)) (mvT hZ (ow hw 10 rfl)) (mvT hZ (ow hw 11 rfl)) (mvT hZ (ow hw 12 rfl)) (by decide) (backOf (W := 1) (rmMin l Z az hw [] fy fz  h0 n0 Z0 ) hZ (ow hw 12 rfl) (ow hw 11 rfl) (by decide) (by decide)) (g := (mkF m 21 #[vi p0, vi fx, vi fy, vi fz, .unset, .unset, .unset, .unset, .unset] [.int fz, .int fy, .int fx])) rfl (by rw [hml]; rfl) (argsL := [.int fy, .int fz]) (rest := [.int fx]) (lenOf pd_1 rfl) rfl (oW rfl rfl) (hb hby d1_21) (fun _ _ => ⟨rfl, e3, (by decide : 0 + 0 ≤ _), (by decide : 0 + 0 ≤ _)⟩)
  dsimp only [Pt.U, Pt.locs, Pt.cells, Pt.slots] at X4 l4 y4 z4 st4 hQ4
  rw [l4, y4, z4] at X4
  obtain ⟨hv4, N4q, e4⟩ := hQ4
  subst hv4
  have N4 := Fr.app N3 N4q
  refine Go.st (S' := T4.setTop (mkF m 24 #[vi p0, vi fx, vi fy, vi fz, .unset, .unset, .unset, .unset, .unset] [.int (fMin fy fz), .int fx])) st4 ?_
  obtain ⟨_, _, ⟨T5, L5, k5, n5⟩, -, X5, ⟨Lc5, hQ5, l5, y5, z5⟩, st5⟩ := Jvm.LawKit.callS X4 hx (y := mN17) hown (mvT hZ (ow hw 9 rfl)) (mvT hZ (ow hw 10 rfl)) (mvT hZ (ow hw 11 rfl)) (mvT hZ (ow hw 12 rfl)) (by decide) (backOf (W := 0) (rmMin l Z az hw [] fx (fMin fy fz)  h0 n0 Z0 ) hZ (ow hw 12 rfl) (ow hw 11 rfl) (by decide) (by decide)) (g := (mkF m 24 #[vi p0, vi fx, vi fy, vi fz, .unset, .unset, .unset, .unset, .unset] [.int (fMin fy fz), .int fx])) rfl (by rw [hml]; rfl) (argsL := [.int fx, .int (fMin fy fz)]) (rest := []) (lenOf pd_1 rfl) rfl (oW rfl rfl) (hb hby d1_24) (fun _ _ => ⟨rfl, e4, (by decide : 0 + 0 ≤ _), (by decide : 0 + 0 ≤ _)⟩)
  dsimp only [Pt.U, Pt.locs, Pt.cells, Pt.slots] at X5 l5 y5 z5 st5 hQ5
  rw [l5, y5, z5] at X5
  obtain ⟨hv5, N5q, e5⟩ := hQ5
  subst hv5
  have N5 := Fr.app N4 N5q
  refine Go.st (S' := T5.setTop (mkF m 27 #[vi p0, vi fx, vi fy, vi fz, .unset, .unset, .unset, .unset, .unset] [.int (fMin fx (fMin fy fz))])) st5 ?_
  obtain ⟨flo, h_flo⟩ : ∃ z : Int32, z = (fMin fx (fMin fy fz)) := ⟨_, rfl⟩
  rw [← h_flo]
  refine Go.st (S' := T5.setTop (mkF m 32 #[vi p0, vi fx, vi fy, vi fz, vi flo, .unset, .unset, .unset, .unset] [.int fz, .int fy, .int fx])) (fun _ kk => XS.istore X5.here hx rfl (hb hby d1_27) rfl (l' := #[vi p0, vi fx, vi fy, vi fz, vi flo, .unset, .unset, .unset, .unset]) rfl (XS.iloadN X5.here hx rfl (hb hby d1_29) rfl (XS.iloadN X5.here hx rfl (hb hby d1_30) rfl (XS.iloadN X5.here hx rfl (hb hby d1_31) rfl kk)))) ?_
  obtain ⟨_, _, ⟨T6, L6, k6, n6⟩, -, X6, ⟨Lc6, hQ6, l6, y6, z6⟩, st6⟩ := Jvm.LawKit.callS X5 hx (y := mN16) hown (mvT hZ (ow hw 13 rfl)) (mvT hZ (ow hw 14 rfl)) (mvT hZ (ow hw 11 rfl)) (mvT hZ (ow hw 15 rfl)) (by decide) (backOf (W := 1) (rmMax l Z az hw [] fy fz  h0 n0 Z0 ) hZ (ow hw 15 rfl) (ow hw 11 rfl) (by decide) (by decide)) (g := (mkF m 32 #[vi p0, vi fx, vi fy, vi fz, vi flo, .unset, .unset, .unset, .unset] [.int fz, .int fy, .int fx])) rfl (by rw [hml]; rfl) (argsL := [.int fy, .int fz]) (rest := [.int fx]) (lenOf pd_1 rfl) rfl (oW rfl rfl) (hb hby d1_32) (fun _ _ => ⟨rfl, e5, (by decide : 0 + 0 ≤ _), (by decide : 0 + 0 ≤ _)⟩)
  dsimp only [Pt.U, Pt.locs, Pt.cells, Pt.slots] at X6 l6 y6 z6 st6 hQ6
  rw [l6, y6, z6] at X6
  obtain ⟨hv6, N6q, e6⟩ := hQ6
  subst hv6
  have N6 := Fr.app N5 N6q
  refine Go.st (S' := T6.setTop (mkF m 35 #[vi p0, vi fx, vi fy, vi fz, vi flo, .unset, .unset, .unset, .unset] [.int (fMax fy fz), .int fx])) st6 ?_
  obtain ⟨_, _, ⟨T7, L7, k7, n7⟩, -, X7, ⟨Lc7, hQ7, l7, y7, z7⟩, st7⟩ := Jvm.LawKit.callS X6 hx (y := mN16) hown (mvT hZ (ow hw 13 rfl)) (mvT hZ (ow hw 14 rfl)) (mvT hZ (ow hw 11 rfl)) (mvT hZ (ow hw 15 rfl)) (by decide) (backOf (W := 0) (rmMax l Z az hw [] fx (fMax fy fz)  h0 n0 Z0 ) hZ (ow hw 15 rfl) (ow hw 11 rfl) (by decide) (by decide)) (g := (mkF m 35 #[vi p0, vi fx, vi fy, vi fz, vi flo, .unset, .unset, .unset, .unset] [.int (fMax fy fz), .int fx])) rfl (by rw [hml]; rfl) (argsL := [.int fx, .int (fMax fy fz)]) (rest := []) (lenOf pd_1 rfl) rfl (oW rfl rfl) (hb hby d1_35) (fun _ _ => ⟨rfl, e6, (by decide : 0 + 0 ≤ _), (by decide : 0 + 0 ≤ _)⟩)
  dsimp only [Pt.U, Pt.locs, Pt.cells, Pt.slots] at X7 l7 y7 z7 st7 hQ7
  rw [l7, y7, z7] at X7
  obtain ⟨hv7, N7q, e7⟩ := hQ7
  subst hv7
  have N7 := Fr.app N6 N7q
  refine Go.st (S' := T7.setTop (mkF m 38 #[vi p0, vi fx, vi fy, vi fz, vi flo, .unset, .unset, .unset, .unset] [.int (fMax fx (fMax fy fz))])) st7 ?_
  obtain ⟨fhi, h_fhi⟩ : ∃ z : Int32, z = (fMax fx (fMax fy fz)) := ⟨_, rfl⟩
  rw [← h_fhi]
  refine Go.st (S' := T7.setTop (mkF m 45 #[vi p0, vi fx, vi fy, vi fz, vi flo, vi fhi, .unset, .unset, .unset] [.int ((fx + fy) + fz)])) (fun _ kk => XS.istore X7.here hx rfl (hb hby d1_38) rfl (l' := #[vi p0, vi fx, vi fy, vi fz, vi flo, vi fhi, .unset, .unset, .unset]) rfl (XS.iloadN X7.here hx rfl (hb hby d1_40) rfl (XS.iloadN X7.here hx rfl (hb hby d1_41) rfl (XS.iadd X7.here hx rfl (hb hby d1_42) rfl (XS.iloadN X7.here hx rfl (hb hby d1_43) rfl (XS.iadd X7.here hx rfl (hb hby d1_44) rfl kk)))))) ?_
  refine Go.st (S' := T7.setTop (mkF m 54 #[vi p0, vi fx, vi fy, vi fz, vi flo, vi fhi, vi ((((fx + fy) + fz) - flo) - fhi), .unset, .unset] [.int p0])) (fun _ kk => XS.iload X7.here hx rfl (hb hby d1_45) rfl (XS.isub X7.here hx rfl (hb hby d1_47) rfl (XS.iload X7.here hx rfl (hb hby d1_48) rfl (XS.isub X7.here hx rfl (hb hby d1_50) rfl (XS.istore X7.here hx rfl (hb hby d1_51) rfl (l' := #[vi p0, vi fx, vi fy, vi fz, vi flo, vi fhi, vi ((((fx + fy) + fz) - flo) - fhi), .unset, .unset]) rfl (XS.iloadN X7.here hx rfl (hb hby d1_53) rfl kk)))))) ?_
  refine Go.st (S' := T7.setTop (mkF m 55 #[vi p0, vi fx, vi fy, vi fz, vi flo, vi fhi, vi ((((fx + fy) + fz) - flo) - fhi), .unset, .unset] [.int 3, .int p0])) (fun _ kk => XS.iconst X7.here hx rfl (hb hby d1_54) kk) ?_
  obtain ⟨_, _, ⟨T8, L8, k8, n8⟩, -, X8, ⟨Lc8, hQ8, l8, y8, z8⟩, st8⟩ := Jvm.LawKit.callS X7 hx (y := mN14) hown (mvT hZ (ow hw 6 rfl)) (mvT hZ (ow hw 7 rfl)) (mvT hZ (ow hw 4 rfl)) (mvT hZ (ow hw 8 rfl)) (by decide) (backOf (W := 0) (rmFd l Z az hw [] p0 (3 : Int32)  h0 n0 Z0 ) hZ (ow hw 8 rfl) (ow hw 4 rfl) (by decide) (by decide)) (g := (mkF m 55 #[vi p0, vi fx, vi fy, vi fz, vi flo, vi fhi, vi ((((fx + fy) + fz) - flo) - fhi), .unset, .unset] [.int 3, .int p0])) rfl (by rw [hml]; rfl) (argsL := [.int p0, .int 3]) (rest := []) (lenOf pd_1 rfl) rfl (oW rfl rfl) (hb hby d1_55) (fun _ _ => ⟨rfl, e7, (by decide : 0 + 0 ≤ _), (by decide : 0 + 0 ≤ _)⟩)
  dsimp only [Pt.U, Pt.locs, Pt.cells, Pt.slots] at X8 l8 y8 z8 st8 hQ8
  rw [l8, y8, z8] at X8
  obtain ⟨hv8, N8q, e8⟩ := hQ8
  rw [show fFd p0 (3 : Int32) = ((((p0.toUInt32 >>> (((3 : Int32) * (3 : Int32)) &&& 31).toUInt32).toInt32) &&& (7 : Int32)) % (7 : Int32)) from rfl] at hv8
  subst hv8
  have N8 := Fr.app N7 N8q
  refine Go.st (S' := T8.setTop (mkF m 58 #[vi p0, vi fx, vi fy, vi fz, vi flo, vi fhi, vi ((((fx + fy) + fz) - flo) - fhi), .unset, .unset] [.int ((((p0.toUInt32 >>> (((3 : Int32) * (3 : Int32)) &&& 31).toUInt32).toInt32) &&& (7 : Int32)) % (7 : Int32))])) st8 ?_
  obtain ⟨fu, h_fu⟩ : ∃ z : Int32, z = ((((p0.toUInt32 >>> (((3 : Int32) * (3 : Int32)) &&& 31).toUInt32).toInt32) &&& (7 : Int32)) % (7 : Int32)) := ⟨_, rfl⟩
  rw [← h_fu]
  have hb_fu : 0 ≤ fu.toInt ∧ fu.toInt ≤ 6 := by rw [h_fu]; exact own_fd _ _
  refine Go.st (S' := T8.setTop (mkF m 62 #[vi p0, vi fx, vi fy, vi fz, vi flo, vi fhi, vi ((((fx + fy) + fz) - flo) - fhi), vi fu, .unset] [.int 4, .int p0])) (fun _ kk => XS.istore X8.here hx rfl (hb hby d1_58) rfl (l' := #[vi p0, vi fx, vi fy, vi fz, vi flo, vi fhi, vi ((((fx + fy) + fz) - flo) - fhi), vi fu, .unset]) rfl (XS.iloadN X8.here hx rfl (hb hby d1_60) rfl (XS.iconst X8.here hx rfl (hb hby d1_61) kk))) ?_
  obtain ⟨_, _, ⟨T9, L9, k9, n9⟩, -, X9, ⟨Lc9, hQ9, l9, y9, z9⟩, st9⟩ := Jvm.LawKit.callS X8 hx (y := mN14) hown (mvT hZ (ow hw 6 rfl)) (mvT hZ (ow hw 7 rfl)) (mvT hZ (ow hw 4 rfl)) (mvT hZ (ow hw 8 rfl)) (by decide) (backOf (W := 0) (rmFd l Z az hw [] p0 (4 : Int32)  h0 n0 Z0 ) hZ (ow hw 8 rfl) (ow hw 4 rfl) (by decide) (by decide)) (g := (mkF m 62 #[vi p0, vi fx, vi fy, vi fz, vi flo, vi fhi, vi ((((fx + fy) + fz) - flo) - fhi), vi fu, .unset] [.int 4, .int p0])) rfl (by rw [hml]; rfl) (argsL := [.int p0, .int 4]) (rest := []) (lenOf pd_1 rfl) rfl (oW rfl rfl) (hb hby d1_62) (fun _ _ => ⟨rfl, e8, (by decide : 0 + 0 ≤ _), (by decide : 0 + 0 ≤ _)⟩)
  dsimp only [Pt.U, Pt.locs, Pt.cells, Pt.slots] at X9 l9 y9 z9 st9 hQ9
  rw [l9, y9, z9] at X9
  obtain ⟨hv9, N9q, e9⟩ := hQ9
  rw [show fFd p0 (4 : Int32) = ((((p0.toUInt32 >>> (((3 : Int32) * (4 : Int32)) &&& 31).toUInt32).toInt32) &&& (7 : Int32)) % (7 : Int32)) from rfl] at hv9
  subst hv9
  have N9 := Fr.app N8 N9q
  refine Go.st (S' := T9.setTop (mkF m 65 #[vi p0, vi fx, vi fy, vi fz, vi flo, vi fhi, vi ((((fx + fy) + fz) - flo) - fhi), vi fu, .unset] [.int ((((p0.toUInt32 >>> (((3 : Int32) * (4 : Int32)) &&& 31).toUInt32).toInt32) &&& (7 : Int32)) % (7 : Int32))])) st9 ?_
  obtain ⟨fv, h_fv⟩ : ∃ z : Int32, z = ((((p0.toUInt32 >>> (((3 : Int32) * (4 : Int32)) &&& 31).toUInt32).toInt32) &&& (7 : Int32)) % (7 : Int32)) := ⟨_, rfl⟩
  rw [← h_fv]
  have hb_fv : 0 ≤ fv.toInt ∧ fv.toInt ≤ 6 := by rw [h_fv]; exact own_fd _ _
  refine Go.st (S' := T9.setTop (mkF m 68 #[vi p0, vi fx, vi fy, vi fz, vi flo, vi fhi, vi ((((fx + fy) + fz) - flo) - fhi), vi fu, vi fv] [.int 5])) (fun _ kk => XS.istore X9.here hx rfl (hb hby d1_65) rfl (l' := #[vi p0, vi fx, vi fy, vi fz, vi flo, vi fhi, vi ((((fx + fy) + fz) - flo) - fhi), vi fu, vi fv]) rfl (XS.iconst X9.here hx rfl (hb hby d1_67) kk)) ?_
  obtain ⟨T10, h10, k10, X10, e10, E10, A10, E_b10, st10⟩ := newPE X9 hx hZ (ow hw 16 rfl) e9 (g := (mkF m 68 #[vi p0, vi fx, vi fy, vi fz, vi flo, vi fhi, vi ((((fx + fy) + fz) - flo) - fhi), vi fu, vi fv] [.int 5])) rfl (hb hby d1_68) rfl (by decide) (cap := 5) (by decide) (by decide) (by decide : 0 + 1 ≤ _) (by decide : 0 + 5 ≤ _) (ad := "[I") rfl
  obtain ⟨b10, g10⟩ : ∃ z, z = h0.size := ⟨_, rfl⟩
  rw [← g10] at A10 E_b10 st10
  have g_b10 : n0 ≤ b10 := Nat.le_trans Z0 (Nat.le_of_eq g10.symm)
  have sz_b10 : h0.size ≤ b10 := Nat.le_trans (Keep.refl h0 []).1 (Nat.le_of_eq g10.symm)
  have Zs11 := Nat.le_trans Z0 E10.1
  have Kp12 := (Keep.refl h0 []).ext E10
  have V_b10 : Arv Z h10 b10 k10 .int (5 : Int32) [(.int 0), (.int 0), (.int 0), (.int 0), (.int 0)] (.int 0) := (Arv.new A10 (by decide)).pad (pad_rep [] (.int 0) 5)
  refine Go.st (S' := T10.setTop (mkF m 74 #[vi p0, vi fx, vi fy, vi fz, vi flo, vi fhi, vi ((((fx + fy) + fz) - flo) - fhi), vi fu, vi fv] [.int flo, .int 0, .ref b10, .ref b10])) (fun _ kk => st10 _ (XS.dup X10.here hx rfl (hb hby d1_70) rfl rfl (XS.iconst X10.here hx rfl (hb hby d1_71) (XS.iload X10.here hx rfl (hb hby d1_72) rfl kk)))) ?_
  obtain ⟨cl13, Ar13, qk13, S13, Ng13, H13, G13⟩ := (id V_b10)
  have hin13 : ¬ ((0 : Int32) < 0 ∨ cl13.slots.size ≤ ((0 : Int32)).toNatClampNeg) := inb_of S13 ⟨by decide, by decide⟩
  obtain ⟨T13, h13, X13, e13, W13, st13⟩ := stI X10 hx hZ e10 Ar13 (j := (0 : Int32)) hin13 (g := (mkF m 74 #[vi p0, vi fx, vi fy, vi fz, vi flo, vi fhi, vi ((((fx + fy) + fz) - flo) - fhi), vi fu, vi fv] [.int flo, .int 0, .ref b10, .ref b10])) rfl rfl (hb hby d1_74)
  have V_b10 : Arv Z h13 b10 k10 .int (5 : Int32) [(.int flo), (.int 0), (.int 0), (.int 0), (.int 0)] (.int 0) := Arv.set Ar13 qk13 S13 Ng13 H13 G13 rfl W13 0 rfl (Nat.le_of_ble_eq_true rfl)
  have N13 := Fr.snoc X13 N9 g_b10
  have E_b10 := E_b10.wr W13
  have Zs14 := Nat.le_trans Zs11 (Keep.of_wr W13).1
  have Kp15 := Kp12.wr W13 (Or.inr sz_b10)
  refine Go.st (S' := T13.setTop (mkF m 79 #[vi p0, vi fx, vi fy, vi fz, vi flo, vi fhi, vi ((((fx + fy) + fz) - flo) - fhi), vi fu, vi fv] [.int ((((fx + fy) + fz) - flo) - fhi), .int 1, .ref b10, .ref b10])) (fun _ kk => st13 _ (XS.dup X13.here hx rfl (hb hby d1_75) rfl rfl (XS.iconst X13.here hx rfl (hb hby d1_76) (XS.iload X13.here hx rfl (hb hby d1_77) rfl kk)))) ?_
  obtain ⟨cl16, Ar16, qk16, S16, Ng16, H16, G16⟩ := (id V_b10)
  have hin16 : ¬ ((1 : Int32) < 0 ∨ cl16.slots.size ≤ ((1 : Int32)).toNatClampNeg) := inb_of S16 ⟨by decide, by decide⟩
  obtain ⟨T16, h16, X16, e16, W16, st16⟩ := stI X13 hx hZ e13 Ar16 (j := (1 : Int32)) hin16 (g := (mkF m 79 #[vi p0, vi fx, vi fy, vi fz, vi flo, vi fhi, vi ((((fx + fy) + fz) - flo) - fhi), vi fu, vi fv] [.int ((((fx + fy) + fz) - flo) - fhi), .int 1, .ref b10, .ref b10])) rfl rfl (hb hby d1_79)
  have V_b10 : Arv Z h16 b10 k10 .int (5 : Int32) [(.int flo), (.int ((((fx + fy) + fz) - flo) - fhi)), (.int 0), (.int 0), (.int 0)] (.int 0) := Arv.set Ar16 qk16 S16 Ng16 H16 G16 rfl W16 1 rfl (Nat.le_of_ble_eq_true rfl)
  have N16 := Fr.snoc X16 N13 g_b10
  have E_b10 := E_b10.wr W16
  have Zs17 := Nat.le_trans Zs14 (Keep.of_wr W16).1
  have Kp18 := Kp15.wr W16 (Or.inr sz_b10)
  refine Go.st (S' := T16.setTop (mkF m 84 #[vi p0, vi fx, vi fy, vi fz, vi flo, vi fhi, vi ((((fx + fy) + fz) - flo) - fhi), vi fu, vi fv] [.int fhi, .int 2, .ref b10, .ref b10])) (fun _ kk => st16 _ (XS.dup X16.here hx rfl (hb hby d1_80) rfl rfl (XS.iconst X16.here hx rfl (hb hby d1_81) (XS.iload X16.here hx rfl (hb hby d1_82) rfl kk)))) ?_
  obtain ⟨cl19, Ar19, qk19, S19, Ng19, H19, G19⟩ := (id V_b10)
  have hin19 : ¬ ((2 : Int32) < 0 ∨ cl19.slots.size ≤ ((2 : Int32)).toNatClampNeg) := inb_of S19 ⟨by decide, by decide⟩
  obtain ⟨T19, h19, X19, e19, W19, st19⟩ := stI X16 hx hZ e16 Ar19 (j := (2 : Int32)) hin19 (g := (mkF m 84 #[vi p0, vi fx, vi fy, vi fz, vi flo, vi fhi, vi ((((fx + fy) + fz) - flo) - fhi), vi fu, vi fv] [.int fhi, .int 2, .ref b10, .ref b10])) rfl rfl (hb hby d1_84)
  have V_b10 : Arv Z h19 b10 k10 .int (5 : Int32) [(.int flo), (.int ((((fx + fy) + fz) - flo) - fhi)), (.int fhi), (.int 0), (.int 0)] (.int 0) := Arv.set Ar19 qk19 S19 Ng19 H19 G19 rfl W19 2 rfl (Nat.le_of_ble_eq_true rfl)
  have N19 := Fr.snoc X19 N16 g_b10
  have E_b10 := E_b10.wr W19
  have Zs20 := Nat.le_trans Zs17 (Keep.of_wr W19).1
  have Kp21 := Kp18.wr W19 (Or.inr sz_b10)
  refine Go.st (S' := T19.setTop (mkF m 91 #[vi p0, vi fx, vi fy, vi fz, vi flo, vi fhi, vi ((((fx + fy) + fz) - flo) - fhi), vi fu, vi fv] [.int fv, .int fu, .int 3, .ref b10, .ref b10])) (fun _ kk => st19 _ (XS.dup X19.here hx rfl (hb hby d1_85) rfl rfl (XS.iconst X19.here hx rfl (hb hby d1_86) (XS.iload X19.here hx rfl (hb hby d1_87) rfl (XS.iload X19.here hx rfl (hb hby d1_89) rfl kk))))) ?_
  obtain ⟨_, _, ⟨T22, L22, k22, n22⟩, -, X22, ⟨Lc22, hQ22, l22, y22, z22⟩, st22⟩ := Jvm.LawKit.callS X19 hx (y := mN17) hown (mvT hZ (ow hw 9 rfl)) (mvT hZ (ow hw 10 rfl)) (mvT hZ (ow hw 11 rfl)) (mvT hZ (ow hw 12 rfl)) (by decide) (backOf (W := 3) (rmMin l Z az hw [] fu fv  h19 n0 Zs20 ) hZ (ow hw 12 rfl) (ow hw 11 rfl) (by decide) (by decide)) (g := (mkF m 91 #[vi p0, vi fx, vi fy, vi fz, vi flo, vi fhi, vi ((((fx + fy) + fz) - flo) - fhi), vi fu, vi fv] [.int fv, .int fu, .int 3, .ref b10, .ref b10])) rfl (by rw [hml]; rfl) (argsL := [.int fu, .int fv]) (rest := [.int 3, .ref b10, .ref b10]) (lenOf pd_1 rfl) rfl (oW rfl rfl) (hb hby d1_91) (fun _ _ => ⟨rfl, e19, (by decide : 1 + 0 ≤ _), (by decide : 5 + 0 ≤ _)⟩)
  dsimp only [Pt.U, Pt.locs, Pt.cells, Pt.slots] at X22 l22 y22 z22 st22 hQ22
  rw [l22, y22, z22] at X22
  obtain ⟨hv22, N22q, e22⟩ := hQ22
  subst hv22
  have N22 := Fr.app N19 N22q
  refine Go.st (S' := T22.setTop (mkF m 94 #[vi p0, vi fx, vi fy, vi fz, vi flo, vi fhi, vi ((((fx + fy) + fz) - flo) - fhi), vi fu, vi fv] [.int (fMin fu fv), .int 3, .ref b10, .ref b10])) st22 ?_
  obtain ⟨cl23, Ar23, qk23, S23, Ng23, H23, G23⟩ := (id V_b10)
  have hin23 : ¬ ((3 : Int32) < 0 ∨ cl23.slots.size ≤ ((3 : Int32)).toNatClampNeg) := inb_of S23 ⟨by decide, by decide⟩
  obtain ⟨T23, h23, X23, e23, W23, st23⟩ := stI X22 hx hZ e22 Ar23 (j := (3 : Int32)) hin23 (g := (mkF m 94 #[vi p0, vi fx, vi fy, vi fz, vi flo, vi fhi, vi ((((fx + fy) + fz) - flo) - fhi), vi fu, vi fv] [.int (fMin fu fv), .int 3, .ref b10, .ref b10])) rfl rfl (hb hby d1_94)
  have V_b10 : Arv Z h23 b10 k10 .int (5 : Int32) [(.int flo), (.int ((((fx + fy) + fz) - flo) - fhi)), (.int fhi), (.int (fMin fu fv)), (.int 0)] (.int 0) := Arv.set Ar23 qk23 S23 Ng23 H23 G23 rfl W23 3 rfl (Nat.le_of_ble_eq_true rfl)
  have N23 := Fr.snoc X23 N22 g_b10
  have E_b10 := E_b10.wr W23
  have Zs24 := Nat.le_trans Zs20 (Keep.of_wr W23).1
  have Kp25 := Kp21.wr W23 (Or.inr sz_b10)
  refine Go.st (S' := T23.setTop (mkF m 101 #[vi p0, vi fx, vi fy, vi fz, vi flo, vi fhi, vi ((((fx + fy) + fz) - flo) - fhi), vi fu, vi fv] [.int fv, .int fu, .int 4, .ref b10, .ref b10])) (fun _ kk => st23 _ (XS.dup X23.here hx rfl (hb hby d1_95) rfl rfl (XS.iconst X23.here hx rfl (hb hby d1_96) (XS.iload X23.here hx rfl (hb hby d1_97) rfl (XS.iload X23.here hx rfl (hb hby d1_99) rfl kk))))) ?_
  obtain ⟨_, _, ⟨T26, L26, k26, n26⟩, -, X26, ⟨Lc26, hQ26, l26, y26, z26⟩, st26⟩ := Jvm.LawKit.callS X23 hx (y := mN16) hown (mvT hZ (ow hw 13 rfl)) (mvT hZ (ow hw 14 rfl)) (mvT hZ (ow hw 11 rfl)) (mvT hZ (ow hw 15 rfl)) (by decide) (backOf (W := 3) (rmMax l Z az hw [] fu fv  h23 n0 Zs24 ) hZ (ow hw 15 rfl) (ow hw 11 rfl) (by decide) (by decide)) (g := (mkF m 101 #[vi p0, vi fx, vi fy, vi fz, vi flo, vi fhi, vi ((((fx + fy) + fz) - flo) - fhi), vi fu, vi fv] [.int fv, .int fu, .int 4, .ref b10, .ref b10])) rfl (by rw [hml]; rfl) (argsL := [.int fu, .int fv]) (rest := [.int 4, .ref b10, .ref b10]) (lenOf pd_1 rfl) rfl (oW rfl rfl) (hb hby d1_101) (fun _ _ => ⟨rfl, e23, (by decide : 1 + 0 ≤ _), (by decide : 5 + 0 ≤ _)⟩)
  dsimp only [Pt.U, Pt.locs, Pt.cells, Pt.slots] at X26 l26 y26 z26 st26 hQ26
  rw [l26, y26, z26] at X26
  obtain ⟨hv26, N26q, e26⟩ := hQ26
  subst hv26
  have N26 := Fr.app N23 N26q
  refine Go.st (S' := T26.setTop (mkF m 104 #[vi p0, vi fx, vi fy, vi fz, vi flo, vi fhi, vi ((((fx + fy) + fz) - flo) - fhi), vi fu, vi fv] [.int (fMax fu fv), .int 4, .ref b10, .ref b10])) st26 ?_
  obtain ⟨cl27, Ar27, qk27, S27, Ng27, H27, G27⟩ := (id V_b10)
  have hin27 : ¬ ((4 : Int32) < 0 ∨ cl27.slots.size ≤ ((4 : Int32)).toNatClampNeg) := inb_of S27 ⟨by decide, by decide⟩
  obtain ⟨T27, h27, X27, e27, W27, st27⟩ := stI X26 hx hZ e26 Ar27 (j := (4 : Int32)) hin27 (g := (mkF m 104 #[vi p0, vi fx, vi fy, vi fz, vi flo, vi fhi, vi ((((fx + fy) + fz) - flo) - fhi), vi fu, vi fv] [.int (fMax fu fv), .int 4, .ref b10, .ref b10])) rfl rfl (hb hby d1_104)
  have V_b10 : Arv Z h27 b10 k10 .int (5 : Int32) [(.int flo), (.int ((((fx + fy) + fz) - flo) - fhi)), (.int fhi), (.int (fMin fu fv)), (.int (fMax fu fv))] (.int 0) := Arv.set Ar27 qk27 S27 Ng27 H27 G27 rfl W27 4 rfl (Nat.le_of_ble_eq_true rfl)
  have N27 := Fr.snoc X27 N26 g_b10
  have E_b10 := E_b10.wr W27
  have Zs28 := Nat.le_trans Zs24 (Keep.of_wr W27).1
  have Kp29 := Kp25.wr W27 (Or.inr sz_b10)
  refine Go.st (S' := T27.setTop (mkF m 105 #[vi p0, vi fx, vi fy, vi fz, vi flo, vi fhi, vi ((((fx + fy) + fz) - flo) - fhi), vi fu, vi fv] [.ref b10])) st27 ?_
  exact Go.retA X27 hx hlk Bd.returns rfl rfl (hb hby d1_105) (by rw [e27]; exact ⟨_, _, _, _, _, _, _, rfl, N27, Kp29, V_b10, sz_b10, own_attr hb_fx hb_fy hb_fz hb_fu hb_fv h_flo h_fhi⟩) (by decide) (by decide)
theorem d30_0 : decode method_4_code 0 = .ok (.iload 4, 2) := by decide +kernel
theorem d30_2 : decode method_4_code 2 = .ok (.iload_n 3, 1) := by decide +kernel
theorem d30_3 : decode method_4_code 3 = .ok (.if_icmp .ge 19, 3) := by decide +kernel
theorem d30_6 : decode method_4_code 6 = .ok (.aload_n 0, 1) := by decide +kernel
theorem d30_7 : decode method_4_code 7 = .ok (.iload 4, 2) := by decide +kernel
theorem d30_9 : decode method_4_code 9 = .ok (.invokevirtual 21, 3) := by decide +kernel
theorem d30_12 : decode method_4_code 12 = .ok (.aload_n 1, 1) := by decide +kernel
theorem d30_13 : decode method_4_code 13 = .ok (.iload_n 2, 1) := by decide +kernel
theorem d30_14 : decode method_4_code 14 = .ok (.iload 4, 2) := by decide +kernel
theorem d30_16 : decode method_4_code 16 = .ok (.iadd, 1) := by decide +kernel
theorem d30_17 : decode method_4_code 17 = .ok (.baload, 1) := by decide +kernel
theorem d30_18 : decode method_4_code 18 = .ok (.i2c, 1) := by decide +kernel
theorem d30_19 : decode method_4_code 19 = .ok (.if_icmp .ne 7, 3) := by decide +kernel
theorem d30_22 : decode method_4_code 22 = .ok (.iconst 1, 1) := by decide +kernel
theorem d30_23 : decode method_4_code 23 = .ok (.goto 4, 3) := by decide +kernel
theorem d30_27 : decode method_4_code 27 = .ok (.ireturn, 1) := by decide +kernel
theorem ef_30 (m : MethodId) (a0 : Addr) (a1 : Addr) (p2 : Int32) (p3 : Int32) (p4 : Int32) : entryFrame m #[(.ref a0), (.ref a1), (.int p2), (.int p3), (.int p4)] 5 = mkF m 0 #[.val (.ref a0), .val (.ref a1), .val (.int p2), .val (.int p3), .val (.int p4)] [] := by first | (simp [entryFrame, mkF, argsToLocals, Value.category]; done) | rfl
theorem rmAu (l : Launch) (Z : State) (az : Array Value) (hw : HW az Z) (ws : List Jvm.Cond) (a0 : Addr) (a1 : Addr) (p2 : Int32) (p3 : Int32) (p4 : Int32) (zc : Int32) (fm : Value) (k0 : ClassId) (z : Int32) (bs : List Int32) (q : Int32) (h0 : Heap) (n0 : Nat) (Z0 : n0 ≤ h0.size) (S_C : tS0 Z h0 (.int zc)) (hzc : ¬ zc = 0) (S_F : tS1 Z h0 fm) (hfm : fm.isRef = true) (V_a1 : Arv Z h0 a1 k0 .byte z (bs.map .int) (.int 0)) (hz : z.toInt = bs.length) (hbs : ∀ b ∈ bs, 0 ≤ b.toInt ∧ b.toInt ≤ 127) (CS : CSt Z h0 a0 (own_sl bs p2 q)) (hr : 0 ≤ p2.toInt ∧ p2.toInt ≤ q.toInt ∧ q.toInt ≤ bs.length) (h3 : p3 = q - p2) (hk4 : 0 ≤ p4.toInt) :
    MF l mN12 (Jvm.Cond.code mN12 method_4_code 5 (some .boolean) :: ws) (rO 5 0 0 66) #[(.ref a0), (.ref a1), (.int p2), (.int p3), (.int p4)] Z h0 (PQ (.int 1) n0 h0) := by
  refine MetFree.of_bodySF (plainFor_of_name pn_8) hisR ?_
  intro p e s m args below meth c s₁ Bd hml0 hP hK
  obtain ⟨rfl, hZ, hh⟩ := hP
  have hx := Bd.exec
  have hby := Bd.bytes
  have hlk : meth.locks = false := Bd.notSynchronized
  have hml : c.maxLocals = 5 := hml0
  have hown : s.vm.findClass "com/example/grantbook/grantbook/licence/PlainAttributesAddPinLaw" = some m.cls := findClass_of_methodNamed Bd.named
  have X0 : Stand p l e (rO 5 0 0 66) s m #[(.ref a0), (.ref a1), (.int p2), (.int p3), (.int p4)] below meth c s₁ [] 0 0 := Stand.of_body Bd
  have e0 : s₁.heap = h0 := by rw [← hh, Bd.state]; rfl
  have N0 := Fr.nil n0
  show Go p e below s ((PQ (.int 1) n0 h0)) (rO 5 0 0 66).cells (rO 5 0 0 66).slots (s₁.setTop (entryFrame m #[(.ref a0), (.ref a1), (.int p2), (.int p3), (.int p4)] 5))
  rw [ef_30 m a0 a1 p2 p3 p4]
  subst h3
  have E_a0 := CS.1
  refine Go.st (S' := s₁.setTop (mkF m 3 #[vr a0, vr a1, vi p2, vi (q - p2), vi p4] [.int (q - p2), .int p4])) (fun _ kk => XS.iload X0.here hx rfl (hb hby d30_0) rfl (XS.iloadN X0.here hx rfl (hb hby d30_2) rfl kk)) ?_
  by_cases hc1 : p4 < (q - p2)
  · refine Go.st (S' := s₁.setTop (mkF m 6 #[vr a0, vr a1, vi p2, vi (q - p2), vi p4] [])) (fun _ kk => XS.icmpNo X0.here hx rfl (hb hby d30_3) rfl (tlt hc1).2.1 kk) ?_
    have hae := own_ateq hz hbs hr hk4 hc1
    have hix := hae.1
    refine Go.st (S' := s₁.setTop (mkF m 9 #[vr a0, vr a1, vi p2, vi (q - p2), vi p4] [.int p4, .ref a0])) (fun _ kk => XS.aloadN X0.here hx rfl (hb hby d30_6) rfl rfl (XS.iload X0.here hx rfl (hb hby d30_7) rfl kk)) ?_
    obtain ⟨cq2, kq2, q2a, q2b, q2c⟩ := isOf hZ e0 E_a0
    obtain ⟨_, _, ⟨T2, L2, k2, n2⟩, -, X2, ⟨Lc2, hQ2, l2, y2, z2⟩, st2⟩ := X0.virtualBack hx (y := mN20) (z := mN20) hown (mvT hZ (ow hw 181 rfl)) (mvT hZ (ow hw 182 rfl)) (notFace_of_selects (args := #[]) (mvT hZ (ow hw 184 rfl))) (mvT hZ (ow hw 184 rfl)) (mvT hZ (ow hw 183 rfl)) (by decide) (backOf (W := 0) (rmCa l Z az hw [] a0 p4 zc fm (own_sl bs p2 q) h0 n0 Z0 S_C hzc S_F hfm  CS hix) hZ (ow hw 185 rfl) (ow hw 58 rfl) (by decide) (by decide)) q2a q2c (g := (mkF m 9 #[vr a0, vr a1, vi p2, vi (q - p2), vi p4] [.int p4, .ref a0])) rfl (by rw [hml]; rfl) (Steps.refl _) (argsL := [.int p4]) (rest := []) (lenOf pd_23 rfl) rfl (oW rfl rfl) (hb hby d30_9) (fun _ _ => ⟨rfl, e0, (by decide : 0 + 0 ≤ _), (by decide : 0 + 0 ≤ _)⟩)
    dsimp only [Pt.U, Pt.locs, Pt.cells, Pt.slots] at X2 l2 y2 z2 st2 hQ2
    rw [l2, y2, z2] at X2
    obtain ⟨hv2, N2q, e2⟩ := hQ2
    subst hv2
    have N2 := Fr.app N0 N2q
    refine Go.st (S' := T2.setTop (mkF m 17 #[vr a0, vr a1, vi p2, vi (q - p2), vi p4] [.int (p2 + p4), .ref a1, .int (bt (own_sl bs p2 q) p4)])) (fun _ kk => st2.trans (XS.aloadN X2.here hx rfl (hb hby d30_12) rfl rfl (XS.iloadN X2.here hx rfl (hb hby d30_13) rfl (XS.iload X2.here hx rfl (hb hby d30_14) rfl (XS.iadd X2.here hx rfl (hb hby d30_16) rfl kk))))) ?_
    obtain ⟨cl3, Ar3, qk3, S3, Ng3, H3, G3⟩ := (id V_a1)
    have hin3 : ¬ ((p2 + p4) < 0 ∨ cl3.slots.size ≤ ((p2 + p4)).toNatClampNeg) := inb_of S3 hae.2.1
    have hat3 : cl3.slots[((p2 + p4)).toNatClampNeg]? = some (.int (bt bs (p2 + p4))) := own_at H3 hin3
    refine Go.st (S' := T2.setTop (mkF m 27 #[vr a0, vr a1, vi p2, vi (q - p2), vi p4] [.int 1])) (fun _ kk => X2.baloadBytes hx (j := (p2 + p4)) (v := (.int (bt bs (p2 + p4)))) (by rw [e2]; exact Ar3.1) (State.isArrayOf_alike hZ.alike Ar3.2.1) Ar3.2.2 hin3 hat3 (g := (mkF m 17 #[vr a0, vr a1, vi p2, vi (q - p2), vi p4] [.int (p2 + p4), .ref a1, .int (bt (own_sl bs p2 q) p4)])) rfl rfl (hb hby d30_17) _ (XS.i2c X2.here hx rfl (hb hby d30_18) rfl (XS.icmpNo X2.here hx rfl (hb hby d30_19) rfl (teq hae.2.2).2 (XS.iconst X2.here hx rfl (hb hby d30_22) (XS.goto X2.here hx rfl (pc0 := 23) (pc' := 27) rfl (hb hby d30_23) (by decide) (by decide) kk))))) ?_
    exact Go.retN X2 hx hlk (t := .boolean) Bd.returns (by simp) (hb hby d30_27) (⟨rfl, N2, e2⟩) (by decide) (by decide)
  · refine Go.st (S' := s₁.setTop (mkF m 27 #[vr a0, vr a1, vi p2, vi (q - p2), vi p4] [.int 1])) (fun _ kk => XS.icmpYes X0.here hx rfl (pc0 := 3) (pc' := 22) rfl (hb hby d30_3) rfl (flt hc1).2.1 (by decide) (by decide) (XS.iconst X0.here hx rfl (hb hby d30_22) (XS.goto X0.here hx rfl (pc0 := 23) (pc' := 27) rfl (hb hby d30_23) (by decide) (by decide) kk))) ?_
    exact Go.retN X0 hx hlk (t := .boolean) Bd.returns (by simp) (hb hby d30_27) (⟨rfl, N0, e0⟩) (by decide) (by decide)
theorem d27_0 : decode method_5_code 0 = .ok (.iload_n 3, 1) := by decide +kernel
theorem d27_1 : decode method_5_code 1 = .ok (.iload_n 2, 1) := by decide +kernel
theorem d27_2 : decode method_5_code 2 = .ok (.isub, 1) := by decide +kernel
theorem d27_3 : decode method_5_code 3 = .ok (.istore 4, 2) := by decide +kernel
theorem d27_5 : decode method_5_code 5 = .ok (.aload_n 0, 1) := by decide +kernel
theorem d27_6 : decode method_5_code 6 = .ok (.ifnull 12, 3) := by decide +kernel
theorem d27_9 : decode method_5_code 9 = .ok (.aload_n 0, 1) := by decide +kernel
theorem d27_10 : decode method_5_code 10 = .ok (.invokevirtual 27, 3) := by decide +kernel
theorem d27_13 : decode method_5_code 13 = .ok (.iload 4, 2) := by decide +kernel
theorem d27_15 : decode method_5_code 15 = .ok (.if_icmp .eq 5, 3) := by decide +kernel
theorem d27_20 : decode method_5_code 20 = .ok (.aload_n 0, 1) := by decide +kernel
theorem d27_21 : decode method_5_code 21 = .ok (.aload_n 1, 1) := by decide +kernel
theorem d27_22 : decode method_5_code 22 = .ok (.iload_n 2, 1) := by decide +kernel
theorem d27_23 : decode method_5_code 23 = .ok (.iload 4, 2) := by decide +kernel
theorem d27_25 : decode method_5_code 25 = .ok (.iconst 0, 1) := by decide +kernel
theorem d27_26 : decode method_5_code 26 = .ok (.invokestatic 31, 3) := by decide +kernel
theorem d27_29 : decode method_5_code 29 = .ok (.ifCond .eq 67, 3) := by decide +kernel
theorem d27_32 : decode method_5_code 32 = .ok (.aload_n 0, 1) := by decide +kernel
theorem d27_33 : decode method_5_code 33 = .ok (.aload_n 1, 1) := by decide +kernel
theorem d27_34 : decode method_5_code 34 = .ok (.iload_n 2, 1) := by decide +kernel
theorem d27_35 : decode method_5_code 35 = .ok (.iload 4, 2) := by decide +kernel
theorem d27_37 : decode method_5_code 37 = .ok (.iconst 1, 1) := by decide +kernel
theorem d27_38 : decode method_5_code 38 = .ok (.invokestatic 31, 3) := by decide +kernel
theorem d27_41 : decode method_5_code 41 = .ok (.ifCond .eq 55, 3) := by decide +kernel
theorem d27_44 : decode method_5_code 44 = .ok (.aload_n 0, 1) := by decide +kernel
theorem d27_45 : decode method_5_code 45 = .ok (.aload_n 1, 1) := by decide +kernel
theorem d27_46 : decode method_5_code 46 = .ok (.iload_n 2, 1) := by decide +kernel
theorem d27_47 : decode method_5_code 47 = .ok (.iload 4, 2) := by decide +kernel
theorem d27_49 : decode method_5_code 49 = .ok (.iconst 2, 1) := by decide +kernel
theorem d27_50 : decode method_5_code 50 = .ok (.invokestatic 31, 3) := by decide +kernel
theorem d27_53 : decode method_5_code 53 = .ok (.ifCond .eq 43, 3) := by decide +kernel
theorem d27_56 : decode method_5_code 56 = .ok (.aload_n 0, 1) := by decide +kernel
theorem d27_57 : decode method_5_code 57 = .ok (.aload_n 1, 1) := by decide +kernel
theorem d27_58 : decode method_5_code 58 = .ok (.iload_n 2, 1) := by decide +kernel
theorem d27_59 : decode method_5_code 59 = .ok (.iload 4, 2) := by decide +kernel
theorem d27_61 : decode method_5_code 61 = .ok (.iconst 3, 1) := by decide +kernel
theorem d27_62 : decode method_5_code 62 = .ok (.invokestatic 31, 3) := by decide +kernel
theorem d27_65 : decode method_5_code 65 = .ok (.ifCond .eq 31, 3) := by decide +kernel
theorem d27_68 : decode method_5_code 68 = .ok (.aload_n 0, 1) := by decide +kernel
theorem d27_69 : decode method_5_code 69 = .ok (.aload_n 1, 1) := by decide +kernel
theorem d27_70 : decode method_5_code 70 = .ok (.iload_n 2, 1) := by decide +kernel
theorem d27_71 : decode method_5_code 71 = .ok (.iload 4, 2) := by decide +kernel
theorem d27_73 : decode method_5_code 73 = .ok (.iconst 4, 1) := by decide +kernel
theorem d27_74 : decode method_5_code 74 = .ok (.invokestatic 31, 3) := by decide +kernel
theorem d27_77 : decode method_5_code 77 = .ok (.ifCond .eq 19, 3) := by decide +kernel
theorem d27_80 : decode method_5_code 80 = .ok (.aload_n 0, 1) := by decide +kernel
theorem d27_81 : decode method_5_code 81 = .ok (.aload_n 1, 1) := by decide +kernel
theorem d27_82 : decode method_5_code 82 = .ok (.iload_n 2, 1) := by decide +kernel
theorem d27_83 : decode method_5_code 83 = .ok (.iload 4, 2) := by decide +kernel
theorem d27_85 : decode method_5_code 85 = .ok (.iconst 5, 1) := by decide +kernel
theorem d27_86 : decode method_5_code 86 = .ok (.invokestatic 31, 3) := by decide +kernel
theorem d27_89 : decode method_5_code 89 = .ok (.ifCond .eq 7, 3) := by decide +kernel
theorem d27_92 : decode method_5_code 92 = .ok (.iconst 1, 1) := by decide +kernel
theorem d27_93 : decode method_5_code 93 = .ok (.goto 4, 3) := by decide +kernel
theorem d27_97 : decode method_5_code 97 = .ok (.ireturn, 1) := by decide +kernel
theorem ef_27 (m : MethodId) (a0 : Addr) (a1 : Addr) (p2 : Int32) (p3 : Int32) : entryFrame m #[(.ref a0), (.ref a1), (.int p2), (.int p3)] 5 = mkF m 0 #[.val (.ref a0), .val (.ref a1), .val (.int p2), .val (.int p3), .unset] [] := by first | (simp [entryFrame, mkF, argsToLocals, Value.category]; done) | rfl
theorem rmSa (l : Launch) (Z : State) (az : Array Value) (hw : HW az Z) (ws : List Jvm.Cond) (a0 : Addr) (a1 : Addr) (p2 : Int32) (p3 : Int32) (zc : Int32) (fm : Value) (k0 : ClassId) (z : Int32) (bs : List Int32) (h0 : Heap) (n0 : Nat) (Z0 : n0 ≤ h0.size) (S_C : tS0 Z h0 (.int zc)) (hzc : ¬ zc = 0) (S_F : tS1 Z h0 fm) (hfm : fm.isRef = true) (V_a1 : Arv Z h0 a1 k0 .byte z (bs.map .int) (.int 0)) (hz : z.toInt = bs.length) (hbs : ∀ b ∈ bs, 0 ≤ b.toInt ∧ b.toInt ≤ 127) (CS : CSt Z h0 a0 (own_sl bs p2 p3)) (hr : 0 ≤ p2.toInt ∧ p2.toInt ≤ p3.toInt ∧ p3.toInt ≤ bs.length) :
    MF l mN15 (Jvm.Cond.code mN15 method_5_code 5 (some .boolean) :: ws) (rO 6 0 0 82) #[(.ref a0), (.ref a1), (.int p2), (.int p3)] Z h0 (PQ (.int 1) n0 h0) := by
  refine MetFree.of_bodySF (plainFor_of_name pn_8) hisR ?_
  intro p e s m args below meth c s₁ Bd hml0 hP hK
  obtain ⟨rfl, hZ, hh⟩ := hP
  have hx := Bd.exec
  have hby := Bd.bytes
  have hlk : meth.locks = false := Bd.notSynchronized
  have hml : c.maxLocals = 5 := hml0
  have hown : s.vm.findClass "com/example/grantbook/grantbook/licence/PlainAttributesAddPinLaw" = some m.cls := findClass_of_methodNamed Bd.named
  have X0 : Stand p l e (rO 6 0 0 82) s m #[(.ref a0), (.ref a1), (.int p2), (.int p3)] below meth c s₁ [] 0 0 := Stand.of_body Bd
  have e0 : s₁.heap = h0 := by rw [← hh, Bd.state]; rfl
  have N0 := Fr.nil n0
  show Go p e below s ((PQ (.int 1) n0 h0)) (rO 6 0 0 82).cells (rO 6 0 0 82).slots (s₁.setTop (entryFrame m #[(.ref a0), (.ref a1), (.int p2), (.int p3)] 5))
  rw [ef_27 m a0 a1 p2 p3]
  have hln : (p3 - p2).toInt = (own_sl bs p2 p3).length := by rw [own_dif hz hr, own_sll hr]
  have E_a0 := CS.1
  refine Go.st (S' := s₁.setTop (mkF m 9 #[vr a0, vr a1, vi p2, vi p3, vi (p3 - p2)] [])) (fun _ kk => XS.iloadN X0.here hx rfl (hb hby d27_0) rfl (XS.iloadN X0.here hx rfl (hb hby d27_1) rfl (XS.isub X0.here hx rfl (hb hby d27_2) rfl (XS.istore X0.here hx rfl (hb hby d27_3) rfl (l' := #[vr a0, vr a1, vi p2, vi p3, vi (p3 - p2)]) rfl (XS.aloadN X0.here hx rfl (hb hby d27_5) rfl rfl (XS.ifnullNo X0.here hx rfl (hb hby d27_6) rfl kk)))))) ?_
  refine Go.st (S' := s₁.setTop (mkF m 10 #[vr a0, vr a1, vi p2, vi p3, vi (p3 - p2)] [.ref a0])) (fun _ kk => XS.aloadN X0.here hx rfl (hb hby d27_9) rfl rfl kk) ?_
  obtain ⟨cq1, kq1, q1a, q1b, q1c⟩ := isOf hZ e0 E_a0
  obtain ⟨_, _, ⟨T1, L1, k1, n1⟩, -, X1, ⟨Lc1, hQ1, l1, y1, z1⟩, st1⟩ := X0.virtualBack hx (y := mN25) (z := mN25) hown (mvT hZ (ow hw 168 rfl)) (mvT hZ (ow hw 169 rfl)) (notFace_of_selects (args := #[]) (mvT hZ (ow hw 171 rfl))) (mvT hZ (ow hw 171 rfl)) (mvT hZ (ow hw 170 rfl)) (by decide) (backOf (W := 0) (rmLn l Z az hw [] a0 zc fm (own_sl bs p2 p3) (p3 - p2) h0 n0 Z0 S_C hzc S_F hfm  CS hln) hZ (ow hw 172 rfl) (ow hw 58 rfl) (by decide) (by decide)) q1a q1c (g := (mkF m 10 #[vr a0, vr a1, vi p2, vi p3, vi (p3 - p2)] [.ref a0])) rfl (by rw [hml]; rfl) (Steps.refl _) (argsL := []) (rest := []) (lenOf pd_20 rfl) rfl (oW rfl rfl) (hb hby d27_10) (fun _ _ => ⟨rfl, e0, (by decide : 0 + 0 ≤ _), (by decide : 0 + 0 ≤ _)⟩)
  dsimp only [Pt.U, Pt.locs, Pt.cells, Pt.slots] at X1 l1 y1 z1 st1 hQ1
  rw [l1, y1, z1] at X1
  obtain ⟨hv1, N1q, e1⟩ := hQ1
  subst hv1
  have N1 := Fr.app N0 N1q
  refine Go.st (S' := T1.setTop (mkF m 23 #[vr a0, vr a1, vi p2, vi p3, vi (p3 - p2)] [.int p2, .ref a1, .ref a0])) (fun _ kk => st1.trans (XS.iload X1.here hx rfl (hb hby d27_13) rfl (XS.icmpYes X1.here hx rfl (pc0 := 15) (pc' := 20) rfl (hb hby d27_15) rfl (teq (rfl : (p3 - p2) = (p3 - p2))).1 (by decide) (by decide) (XS.aloadN X1.here hx rfl (hb hby d27_20) rfl rfl (XS.aloadN X1.here hx rfl (hb hby d27_21) rfl rfl (XS.iloadN X1.here hx rfl (hb hby d27_22) rfl kk)))))) ?_
  refine Go.st (S' := T1.setTop (mkF m 26 #[vr a0, vr a1, vi p2, vi p3, vi (p3 - p2)] [.int 0, .int (p3 - p2), .int p2, .ref a1, .ref a0])) (fun _ kk => XS.iload X1.here hx rfl (hb hby d27_23) rfl (XS.iconst X1.here hx rfl (hb hby d27_25) kk)) ?_
  obtain ⟨_, _, ⟨T2, L2, k2, n2⟩, -, X2, ⟨Lc2, hQ2, l2, y2, z2⟩, st2⟩ := Jvm.LawKit.callS X1 hx (y := mN12) hown (mvT hZ (ow hw 178 rfl)) (mvT hZ (ow hw 179 rfl)) (mvT hZ (ow hw 4 rfl)) (mvT hZ (ow hw 180 rfl)) (by decide) (backOf (W := 0) (rmAu l Z az hw [] a0 a1 p2 (p3 - p2) (0 : Int32) zc fm k0 z bs p3 h0 n0 Z0 S_C hzc S_F hfm  V_a1 hz hbs CS hr rfl (by decide)) hZ (ow hw 180 rfl) (ow hw 4 rfl) (by decide) (by decide)) (g := (mkF m 26 #[vr a0, vr a1, vi p2, vi p3, vi (p3 - p2)] [.int 0, .int (p3 - p2), .int p2, .ref a1, .ref a0])) rfl (by rw [hml]; rfl) (argsL := [.ref a0, .ref a1, .int p2, .int (p3 - p2), .int 0]) (rest := []) (lenOf pd_22 rfl) rfl (oW rfl rfl) (hb hby d27_26) (fun _ _ => ⟨rfl, e1, (by decide : 0 + 0 ≤ _), (by decide : 0 + 0 ≤ _)⟩)
  dsimp only [Pt.U, Pt.locs, Pt.cells, Pt.slots] at X2 l2 y2 z2 st2 hQ2
  rw [l2, y2, z2] at X2
  obtain ⟨hv2, N2q, e2⟩ := hQ2
  subst hv2
  have N2 := Fr.app N1 N2q
  refine Go.st (S' := T2.setTop (mkF m 37 #[vr a0, vr a1, vi p2, vi p3, vi (p3 - p2)] [.int (p3 - p2), .int p2, .ref a1, .ref a0])) (fun _ kk => st2 _ (XS.ifNo X2.here hx rfl (hb hby d27_29) rfl ((if0 _ _).trans (feq (by decide : ¬ ((1 : Int32) = (0 : Int32)))).1) (XS.aloadN X2.here hx rfl (hb hby d27_32) rfl rfl (XS.aloadN X2.here hx rfl (hb hby d27_33) rfl rfl (XS.iloadN X2.here hx rfl (hb hby d27_34) rfl (XS.iload X2.here hx rfl (hb hby d27_35) rfl kk)))))) ?_
  refine Go.st (S' := T2.setTop (mkF m 38 #[vr a0, vr a1, vi p2, vi p3, vi (p3 - p2)] [.int 1, .int (p3 - p2), .int p2, .ref a1, .ref a0])) (fun _ kk => XS.iconst X2.here hx rfl (hb hby d27_37) kk) ?_
  obtain ⟨_, _, ⟨T3, L3, k3, n3⟩, -, X3, ⟨Lc3, hQ3, l3, y3, z3⟩, st3⟩ := Jvm.LawKit.callS X2 hx (y := mN12) hown (mvT hZ (ow hw 178 rfl)) (mvT hZ (ow hw 179 rfl)) (mvT hZ (ow hw 4 rfl)) (mvT hZ (ow hw 180 rfl)) (by decide) (backOf (W := 0) (rmAu l Z az hw [] a0 a1 p2 (p3 - p2) (1 : Int32) zc fm k0 z bs p3 h0 n0 Z0 S_C hzc S_F hfm  V_a1 hz hbs CS hr rfl (by decide)) hZ (ow hw 180 rfl) (ow hw 4 rfl) (by decide) (by decide)) (g := (mkF m 38 #[vr a0, vr a1, vi p2, vi p3, vi (p3 - p2)] [.int 1, .int (p3 - p2), .int p2, .ref a1, .ref a0])) rfl (by rw [hml]; rfl) (argsL := [.ref a0, .ref a1, .int p2, .int (p3 - p2), .int 1]) (rest := []) (lenOf pd_22 rfl) rfl (oW rfl rfl) (hb hby d27_38) (fun _ _ => ⟨rfl, e2, (by decide : 0 + 0 ≤ _), (by decide : 0 + 0 ≤ _)⟩)
  dsimp only [Pt.U, Pt.locs, Pt.cells, Pt.slots] at X3 l3 y3 z3 st3 hQ3
  rw [l3, y3, z3] at X3
  obtain ⟨hv3, N3q, e3⟩ := hQ3
  subst hv3
  have N3 := Fr.app N2 N3q
  refine Go.st (S' := T3.setTop (mkF m 49 #[vr a0, vr a1, vi p2, vi p3, vi (p3 - p2)] [.int (p3 - p2), .int p2, .ref a1, .ref a0])) (fun _ kk => st3 _ (XS.ifNo X3.here hx rfl (hb hby d27_41) rfl ((if0 _ _).trans (feq (by decide : ¬ ((1 : Int32) = (0 : Int32)))).1) (XS.aloadN X3.here hx rfl (hb hby d27_44) rfl rfl (XS.aloadN X3.here hx rfl (hb hby d27_45) rfl rfl (XS.iloadN X3.here hx rfl (hb hby d27_46) rfl (XS.iload X3.here hx rfl (hb hby d27_47) rfl kk)))))) ?_
  refine Go.st (S' := T3.setTop (mkF m 50 #[vr a0, vr a1, vi p2, vi p3, vi (p3 - p2)] [.int 2, .int (p3 - p2), .int p2, .ref a1, .ref a0])) (fun _ kk => XS.iconst X3.here hx rfl (hb hby d27_49) kk) ?_
  obtain ⟨_, _, ⟨T4, L4, k4, n4⟩, -, X4, ⟨Lc4, hQ4, l4, y4, z4⟩, st4⟩ := Jvm.LawKit.callS X3 hx (y := mN12) hown (mvT hZ (ow hw 178 rfl)) (mvT hZ (ow hw 179 rfl)) (mvT hZ (ow hw 4 rfl)) (mvT hZ (ow hw 180 rfl)) (by decide) (backOf (W := 0) (rmAu l Z az hw [] a0 a1 p2 (p3 - p2) (2 : Int32) zc fm k0 z bs p3 h0 n0 Z0 S_C hzc S_F hfm  V_a1 hz hbs CS hr rfl (by decide)) hZ (ow hw 180 rfl) (ow hw 4 rfl) (by decide) (by decide)) (g := (mkF m 50 #[vr a0, vr a1, vi p2, vi p3, vi (p3 - p2)] [.int 2, .int (p3 - p2), .int p2, .ref a1, .ref a0])) rfl (by rw [hml]; rfl) (argsL := [.ref a0, .ref a1, .int p2, .int (p3 - p2), .int 2]) (rest := []) (lenOf pd_22 rfl) rfl (oW rfl rfl) (hb hby d27_50) (fun _ _ => ⟨rfl, e3, (by decide : 0 + 0 ≤ _), (by decide : 0 + 0 ≤ _)⟩)
  dsimp only [Pt.U, Pt.locs, Pt.cells, Pt.slots] at X4 l4 y4 z4 st4 hQ4
  rw [l4, y4, z4] at X4
  obtain ⟨hv4, N4q, e4⟩ := hQ4
  subst hv4
  have N4 := Fr.app N3 N4q
  refine Go.st (S' := T4.setTop (mkF m 61 #[vr a0, vr a1, vi p2, vi p3, vi (p3 - p2)] [.int (p3 - p2), .int p2, .ref a1, .ref a0])) (fun _ kk => st4 _ (XS.ifNo X4.here hx rfl (hb hby d27_53) rfl ((if0 _ _).trans (feq (by decide : ¬ ((1 : Int32) = (0 : Int32)))).1) (XS.aloadN X4.here hx rfl (hb hby d27_56) rfl rfl (XS.aloadN X4.here hx rfl (hb hby d27_57) rfl rfl (XS.iloadN X4.here hx rfl (hb hby d27_58) rfl (XS.iload X4.here hx rfl (hb hby d27_59) rfl kk)))))) ?_
  refine Go.st (S' := T4.setTop (mkF m 62 #[vr a0, vr a1, vi p2, vi p3, vi (p3 - p2)] [.int 3, .int (p3 - p2), .int p2, .ref a1, .ref a0])) (fun _ kk => XS.iconst X4.here hx rfl (hb hby d27_61) kk) ?_
  obtain ⟨_, _, ⟨T5, L5, k5, n5⟩, -, X5, ⟨Lc5, hQ5, l5, y5, z5⟩, st5⟩ := Jvm.LawKit.callS X4 hx (y := mN12) hown (mvT hZ (ow hw 178 rfl)) (mvT hZ (ow hw 179 rfl)) (mvT hZ (ow hw 4 rfl)) (mvT hZ (ow hw 180 rfl)) (by decide) (backOf (W := 0) (rmAu l Z az hw [] a0 a1 p2 (p3 - p2) (3 : Int32) zc fm k0 z bs p3 h0 n0 Z0 S_C hzc S_F hfm  V_a1 hz hbs CS hr rfl (by decide)) hZ (ow hw 180 rfl) (ow hw 4 rfl) (by decide) (by decide)) (g := (mkF m 62 #[vr a0, vr a1, vi p2, vi p3, vi (p3 - p2)] [.int 3, .int (p3 - p2), .int p2, .ref a1, .ref a0])) rfl (by rw [hml]; rfl) (argsL := [.ref a0, .ref a1, .int p2, .int (p3 - p2), .int 3]) (rest := []) (lenOf pd_22 rfl) rfl (oW rfl rfl) (hb hby d27_62) (fun _ _ => ⟨rfl, e4, (by decide : 0 + 0 ≤ _), (by decide : 0 + 0 ≤ _)⟩)
  dsimp only [Pt.U, Pt.locs, Pt.cells, Pt.slots] at X5 l5 y5 z5 st5 hQ5
  rw [l5, y5, z5] at X5
  obtain ⟨hv5, N5q, e5⟩ := hQ5
  subst hv5
  have N5 := Fr.app N4 N5q
  refine Go.st (S' := T5.setTop (mkF m 73 #[vr a0, vr a1, vi p2, vi p3, vi (p3 - p2)] [.int (p3 - p2), .int p2, .ref a1, .ref a0])) (fun _ kk => st5 _ (XS.ifNo X5.here hx rfl (hb hby d27_65) rfl ((if0 _ _).trans (feq (by decide : ¬ ((1 : Int32) = (0 : Int32)))).1) (XS.aloadN X5.here hx rfl (hb hby d27_68) rfl rfl (XS.aloadN X5.here hx rfl (hb hby d27_69) rfl rfl (XS.iloadN X5.here hx rfl (hb hby d27_70) rfl (XS.iload X5.here hx rfl (hb hby d27_71) rfl kk)))))) ?_
  refine Go.st (S' := T5.setTop (mkF m 74 #[vr a0, vr a1, vi p2, vi p3, vi (p3 - p2)] [.int 4, .int (p3 - p2), .int p2, .ref a1, .ref a0])) (fun _ kk => XS.iconst X5.here hx rfl (hb hby d27_73) kk) ?_
  obtain ⟨_, _, ⟨T6, L6, k6, n6⟩, -, X6, ⟨Lc6, hQ6, l6, y6, z6⟩, st6⟩ := Jvm.LawKit.callS X5 hx (y := mN12) hown (mvT hZ (ow hw 178 rfl)) (mvT hZ (ow hw 179 rfl)) (mvT hZ (ow hw 4 rfl)) (mvT hZ (ow hw 180 rfl)) (by decide) (backOf (W := 0) (rmAu l Z az hw [] a0 a1 p2 (p3 - p2) (4 : Int32) zc fm k0 z bs p3 h0 n0 Z0 S_C hzc S_F hfm  V_a1 hz hbs CS hr rfl (by decide)) hZ (ow hw 180 rfl) (ow hw 4 rfl) (by decide) (by decide)) (g := (mkF m 74 #[vr a0, vr a1, vi p2, vi p3, vi (p3 - p2)] [.int 4, .int (p3 - p2), .int p2, .ref a1, .ref a0])) rfl (by rw [hml]; rfl) (argsL := [.ref a0, .ref a1, .int p2, .int (p3 - p2), .int 4]) (rest := []) (lenOf pd_22 rfl) rfl (oW rfl rfl) (hb hby d27_74) (fun _ _ => ⟨rfl, e5, (by decide : 0 + 0 ≤ _), (by decide : 0 + 0 ≤ _)⟩)
  dsimp only [Pt.U, Pt.locs, Pt.cells, Pt.slots] at X6 l6 y6 z6 st6 hQ6
  rw [l6, y6, z6] at X6
  obtain ⟨hv6, N6q, e6⟩ := hQ6
  subst hv6
  have N6 := Fr.app N5 N6q
  refine Go.st (S' := T6.setTop (mkF m 85 #[vr a0, vr a1, vi p2, vi p3, vi (p3 - p2)] [.int (p3 - p2), .int p2, .ref a1, .ref a0])) (fun _ kk => st6 _ (XS.ifNo X6.here hx rfl (hb hby d27_77) rfl ((if0 _ _).trans (feq (by decide : ¬ ((1 : Int32) = (0 : Int32)))).1) (XS.aloadN X6.here hx rfl (hb hby d27_80) rfl rfl (XS.aloadN X6.here hx rfl (hb hby d27_81) rfl rfl (XS.iloadN X6.here hx rfl (hb hby d27_82) rfl (XS.iload X6.here hx rfl (hb hby d27_83) rfl kk)))))) ?_
  refine Go.st (S' := T6.setTop (mkF m 86 #[vr a0, vr a1, vi p2, vi p3, vi (p3 - p2)] [.int 5, .int (p3 - p2), .int p2, .ref a1, .ref a0])) (fun _ kk => XS.iconst X6.here hx rfl (hb hby d27_85) kk) ?_
  obtain ⟨_, _, ⟨T7, L7, k7, n7⟩, -, X7, ⟨Lc7, hQ7, l7, y7, z7⟩, st7⟩ := Jvm.LawKit.callS X6 hx (y := mN12) hown (mvT hZ (ow hw 178 rfl)) (mvT hZ (ow hw 179 rfl)) (mvT hZ (ow hw 4 rfl)) (mvT hZ (ow hw 180 rfl)) (by decide) (backOf (W := 0) (rmAu l Z az hw [] a0 a1 p2 (p3 - p2) (5 : Int32) zc fm k0 z bs p3 h0 n0 Z0 S_C hzc S_F hfm  V_a1 hz hbs CS hr rfl (by decide)) hZ (ow hw 180 rfl) (ow hw 4 rfl) (by decide) (by decide)) (g := (mkF m 86 #[vr a0, vr a1, vi p2, vi p3, vi (p3 - p2)] [.int 5, .int (p3 - p2), .int p2, .ref a1, .ref a0])) rfl (by rw [hml]; rfl) (argsL := [.ref a0, .ref a1, .int p2, .int (p3 - p2), .int 5]) (rest := []) (lenOf pd_22 rfl) rfl (oW rfl rfl) (hb hby d27_86) (fun _ _ => ⟨rfl, e6, (by decide : 0 + 0 ≤ _), (by decide : 0 + 0 ≤ _)⟩)
  dsimp only [Pt.U, Pt.locs, Pt.cells, Pt.slots] at X7 l7 y7 z7 st7 hQ7
  rw [l7, y7, z7] at X7
  obtain ⟨hv7, N7q, e7⟩ := hQ7
  subst hv7
  have N7 := Fr.app N6 N7q
  refine Go.st (S' := T7.setTop (mkF m 97 #[vr a0, vr a1, vi p2, vi p3, vi (p3 - p2)] [.int 1])) (fun _ kk => st7 _ (XS.ifNo X7.here hx rfl (hb hby d27_89) rfl ((if0 _ _).trans (feq (by decide : ¬ ((1 : Int32) = (0 : Int32)))).1) (XS.iconst X7.here hx rfl (hb hby d27_92) (XS.goto X7.here hx rfl (pc0 := 93) (pc' := 97) rfl (hb hby d27_93) (by decide) (by decide) kk)))) ?_
  exact Go.retN X7 hx hlk (t := .boolean) Bd.returns (by simp) (hb hby d27_97) (⟨rfl, N7, e7⟩) (by decide) (by decide)
theorem own_b7 (p : Int64) : 0 ≤ (((p &&& (127 : Int64)).toInt32.toInt8.toInt32).toInt8.toInt32).toInt ∧ (((p &&& (127 : Int64)).toInt32.toInt8.toInt32).toInt8.toInt32).toInt ≤ 127 := by
  have m : (p &&& (127 : Int64)).toInt = p.toInt % (2 ^ 7 : Nat) := c_maskL p 127 7 (by decide) (by decide)
  simp only [Nat.reducePow, Int.cast_ofNat_Int] at m
  generalize (p &&& (127 : Int64)) = w at *
  have a := c_l2i w
  have a1 := w.toInt32.le_toInt
  have a2 := w.toInt32.toInt_lt
  have b := c_i2b w.toInt32
  have c := c_i2b w.toInt32.toInt8.toInt32
  simp only [Int.reducePow, Int.reduceNeg] at *
  omega
theorem ef_0 (m : MethodId) (q0 : Int64) (p1 : Int32) (p2 : Int32) (p3 : Int32) : entryFrame m #[(.long q0), (.int p1), (.int p2), (.int p3)] maxLocals = mkF m 0 #[.val (.long q0), .second, .val (.int p1), .val (.int p2), .val (.int p3), .unset, .unset, .unset, .unset, .unset, .unset, .unset, .unset, .unset, .unset, .unset, .unset, .unset, .unset, .unset, .unset] [] := by first | (simp [entryFrame, mkF, argsToLocals, Value.category, maxLocals]; done) | rfl
theorem rm0 (l : Launch) (Z : State) (az : Array Value) (hw : HW az Z) (ws : List Jvm.Cond) (q0 : Int64) (p1 : Int32) (p2 : Int32) (p3 : Int32) (zc : Int32) (fm : Value) (uu ui ua : Addr) (h0 : Heap) (n0 : Nat) (Z0 : n0 ≤ h0.size) (S_C : tS0 Z h0 (.int zc)) (hzc : ¬ zc = 0) (S_F : tS1 Z h0 fm) (hfm : fm.isRef = true) (S_uu : tS2 Z h0 (.ref uu)) (S_ui : tS3 Z h0 (.ref ui)) (S_ua : tS4 Z h0 (.ref ua)) (nui : uu ≠ ui) (nua : uu ≠ ua) (nia : ui ≠ ua) (S_su : tS5 Z h0 (.ref uu)) (S_sa : tS6 Z h0 (.ref ua)) (E_uu : Exa Z h0 uu "sun/nio/cs/UTF_8") (E_ua : Exa Z h0 ua "sun/nio/cs/US_ASCII") :
    MetFree l x (head1 (Jvm.Cond.code x code maxLocals ret :: ws) room_1) (fun a U => a = #[(.long q0), (.int p1), (.int p2), (.int p3)] ∧ Z.Warmed39 U.vm ∧ U.heap = h0 ∧ (PCW Z h0) U.vm) (fun _ _ _ _ _ => True) (fun _ U o U' => ∃ v L, o = .returned v ∧ (LQW n0) v U'.heap U'.vm L ∧ ReturnedEndW U o U' L room_1.cells room_1.slots) := by
  refine MetFree.of_bodySF (plainFor_of_name pn_8) hisR ?_
  intro p e s m args below meth c s₁ Bd hml0 hP hK
  obtain ⟨rfl, hZ, hh, Hc⟩ := hP
  have hx := Bd.exec
  have hby := Bd.bytes
  have hlk : meth.locks = false := Bd.notSynchronized
  have hml : c.maxLocals = 21 := hml0
  have hown : s.vm.findClass "com/example/grantbook/grantbook/licence/PlainAttributesAddPinLaw" = some m.cls := findClass_of_methodNamed Bd.named
  have X0 : Stand p l e room_1 s m #[(.long q0), (.int p1), (.int p2), (.int p3)] below meth c s₁ [] 0 0 := Stand.of_body Bd
  have X0 : Stand p l e room_1 (s.setVm s.vm) m #[(.long q0), (.int p1), (.int p2), (.int p3)] below meth c s₁ [] 0 0 := X0
  have e0 : s₁.heap = h0 := by rw [← hh, Bd.state]; rfl
  have hS : s.Since s.vm n0 := (State.WarmedH.refl s).since n0
  have hk : n0 ≤ h0.size := Z0
  have N0 := Fr.nil n0
  show GoW p e below s ((LQW n0)) room_1.cells room_1.slots (s₁.setTop (entryFrame m #[(.long q0), (.int p1), (.int p2), (.int p3)] maxLocals))
  rw [ef_0 m q0 p1 p2 p3]
  refine GoW.st (S' := s₁.setTop (mkF m 2 #[vj q0, .second, vi p1, vi p2, vi p3, .unset, .unset, .unset, .unset, .unset, .unset, .unset, .unset, .unset, .unset, .unset, .unset, .unset, .unset, .unset, .unset] [.int 6])) (fun _ kk => XS.bipush X0.here hx rfl (hb hby at_0) kk) ?_
  obtain ⟨T1, h1, k1, X1, e1, E1, A1, E_b1, st1⟩ := newPE X0 hx hZ (ow hw 0 rfl) e0 (g := (mkF m 2 #[vj q0, .second, vi p1, vi p2, vi p3, .unset, .unset, .unset, .unset, .unset, .unset, .unset, .unset, .unset, .unset, .unset, .unset, .unset, .unset, .unset, .unset] [.int 6])) rfl (hb hby at_2) rfl (by decide) (cap := 6) (by decide) (by decide) (by decide : 0 + 1 ≤ _) (by decide : 0 + 6 ≤ _) (ad := "[B") rfl
  obtain ⟨b1, g1⟩ : ∃ z, z = h0.size := ⟨_, rfl⟩
  rw [← g1] at A1 E_b1 st1
  have ne_uu_b1 : uu ≠ b1 := Nat.ne_of_lt (Nat.lt_of_lt_of_le E_uu.lt (Nat.le_of_eq g1.symm))
  have ne_ua_b1 : ua ≠ b1 := Nat.ne_of_lt (Nat.lt_of_lt_of_le E_ua.lt (Nat.le_of_eq g1.symm))
  have g_b1 : n0 ≤ b1 := Nat.le_trans Z0 (Nat.le_of_eq g1.symm)
  have Sf_b1 : Safe Z consts_1 s.vm h0 b1 := Safe.new (Nat.le_of_eq g1.symm)
  have Sf_b1' := Safe.ext E1 Hc Sf_b1
  have Hc := CHv.ext E1 Hc
  have Sf_b1 := Sf_b1'
  have S_C := S_C.ext E1
  have S_F := S_F.ext E1
  have S_uu := S_uu.ext E1
  have S_ui := S_ui.ext E1
  have S_ua := S_ua.ext E1
  have S_su := S_su.ext E1
  have S_sa := S_sa.ext E1
  have E_uu := E_uu.ext E1
  have E_ua := E_ua.ext E1
  have Zs2 := Nat.le_trans Z0 E1.1
  have hk := Nat.le_trans hk E1.1
  have V_b1 : Arv Z h1 b1 k1 .byte (6 : Int32) [(.int 0), (.int 0), (.int 0), (.int 0), (.int 0), (.int 0)] (.int 0) := (Arv.new A1 (by decide)).pad (pad_rep [] (.int 0) 6)
  refine GoW.st (S' := T1.setTop (mkF m 13 #[vj q0, .second, vi p1, vi p2, vi p3, vr b1, .unset, .unset, .unset, .unset, .unset, .unset, .unset, .unset, .unset, .unset, .unset, .unset, .unset, .unset, .unset] [.long (127 : Int64), .long q0, .int 0, .ref b1])) (fun _ kk => st1 _ (XS.astore X1.here hx rfl (hb hby at_4) rfl rfl (l' := #[vj q0, .second, vi p1, vi p2, vi p3, vr b1, .unset, .unset, .unset, .unset, .unset, .unset, .unset, .unset, .unset, .unset, .unset, .unset, .unset, .unset, .unset]) rfl (XS.aload X1.here hx rfl (hb hby at_6) rfl rfl (XS.iconst X1.here hx rfl (hb hby at_8) (XS.lloadN X1.here hx rfl (hb hby at_9) rfl (X1.ldc2Long hx hown (mvT hZ (ow hw 1 rfl)) (g := (mkF m 10 #[vj q0, .second, vi p1, vi p2, vi p3, vr b1, .unset, .unset, .unset, .unset, .unset, .unset, .unset, .unset, .unset, .unset, .unset, .unset, .unset, .unset, .unset] [.long q0, .int 0, .ref b1])) rfl (hb hby at_10) _ kk)))))) ?_
  refine GoW.st (S' := T1.setTop (mkF m 16 #[vj q0, .second, vi p1, vi p2, vi p3, vr b1, .unset, .unset, .unset, .unset, .unset, .unset, .unset, .unset, .unset, .unset, .unset, .unset, .unset, .unset, .unset] [.int (((q0 &&& (127 : Int64)).toInt32).toInt8.toInt32), .int 0, .ref b1])) (fun _ kk => XS.land X1.here hx rfl (hb hby at_13) rfl (XS.l2i X1.here hx rfl (hb hby at_14) rfl (XS.i2b X1.here hx rfl (hb hby at_15) rfl kk))) ?_
  obtain ⟨cl3, Ar3, qk3, S3, Ng3, H3, G3⟩ := (id V_b1)
  have hin3 : ¬ ((0 : Int32) < 0 ∨ cl3.slots.size ≤ ((0 : Int32)).toNatClampNeg) := inb_of S3 ⟨by decide, by decide⟩
  obtain ⟨T3, h3, X3, e3, W3, st3⟩ := stB X1 hx hZ e1 Ar3 (j := (0 : Int32)) hin3 (g := (mkF m 16 #[vj q0, .second, vi p1, vi p2, vi p3, vr b1, .unset, .unset, .unset, .unset, .unset, .unset, .unset, .unset, .unset, .unset, .unset, .unset, .unset, .unset, .unset] [.int (((q0 &&& (127 : Int64)).toInt32).toInt8.toInt32), .int 0, .ref b1])) rfl rfl (hb hby at_16)
  have V_b1 : Arv Z h3 b1 k1 .byte (6 : Int32) [(.int ((((q0 &&& (127 : Int64)).toInt32).toInt8.toInt32).toInt8.toInt32)), (.int 0), (.int 0), (.int 0), (.int 0), (.int 0)] (.int 0) := Arv.set Ar3 qk3 S3 Ng3 H3 G3 (fits_nar_byte _) W3 0 rfl (Nat.le_of_ble_eq_true rfl)
  have N3 := Fr.snoc X3 N0 g_b1
  have Sf_b1' := Safe.wr W3 Sf_b1 Hc Sf_b1
  have Hc := CHv.wr W3 Sf_b1 Hc
  have Sf_b1 := Sf_b1'
  have S_C := S_C.wr W3
  have S_F := S_F.wr W3
  have S_uu := S_uu.wr W3
  have S_ui := S_ui.wr W3
  have S_ua := S_ua.wr W3
  have S_su := S_su.wr W3
  have S_sa := S_sa.wr W3
  have E_uu := E_uu.wr W3
  have E_ua := E_ua.wr W3
  have E_b1 := E_b1.wr W3
  have Zs4 := Nat.le_trans Zs2 (Keep.of_wr W3).1
  have hk := Nat.le_trans hk (Keep.of_wr W3).1
  refine GoW.st (S' := T3.setTop (mkF m 24 #[vj q0, .second, vi p1, vi p2, vi p3, vr b1, .unset, .unset, .unset, .unset, .unset, .unset, .unset, .unset, .unset, .unset, .unset, .unset, .unset, .unset, .unset] [.long ((q0.toUInt64 >>> ((7 : Int32) &&& 0x3f).toInt64.toUInt64).toInt64), .int 1, .ref b1])) (fun _ kk => st3 _ (XS.aload X3.here hx rfl (hb hby at_17) rfl rfl (XS.iconst X3.here hx rfl (hb hby at_19) (XS.lloadN X3.here hx rfl (hb hby at_20) rfl (XS.bipush X3.here hx rfl (hb hby at_21) (XS.lushr X3.here hx rfl (hb hby at_23) rfl kk)))))) ?_
  refine GoW.st (S' := T3.setTop (mkF m 30 #[vj q0, .second, vi p1, vi p2, vi p3, vr b1, .unset, .unset, .unset, .unset, .unset, .unset, .unset, .unset, .unset, .unset, .unset, .unset, .unset, .unset, .unset] [.int (((((q0.toUInt64 >>> ((7 : Int32) &&& 0x3f).toInt64.toUInt64).toInt64) &&& (127 : Int64)).toInt32).toInt8.toInt32), .int 1, .ref b1])) (fun _ kk => X3.ldc2Long hx hown (mvT hZ (ow hw 1 rfl)) (g := (mkF m 24 #[vj q0, .second, vi p1, vi p2, vi p3, vr b1, .unset, .unset, .unset, .unset, .unset, .unset, .unset, .unset, .unset, .unset, .unset, .unset, .unset, .unset, .unset] [.long ((q0.toUInt64 >>> ((7 : Int32) &&& 0x3f).toInt64.toUInt64).toInt64), .int 1, .ref b1])) rfl (hb hby at_24) _ (XS.land X3.here hx rfl (hb hby at_27) rfl (XS.l2i X3.here hx rfl (hb hby at_28) rfl (XS.i2b X3.here hx rfl (hb hby at_29) rfl kk)))) ?_
  obtain ⟨cl5, Ar5, qk5, S5, Ng5, H5, G5⟩ := (id V_b1)
  have hin5 : ¬ ((1 : Int32) < 0 ∨ cl5.slots.size ≤ ((1 : Int32)).toNatClampNeg) := inb_of S5 ⟨by decide, by decide⟩
  obtain ⟨T5, h5, X5, e5, W5, st5⟩ := stB X3 hx hZ e3 Ar5 (j := (1 : Int32)) hin5 (g := (mkF m 30 #[vj q0, .second, vi p1, vi p2, vi p3, vr b1, .unset, .unset, .unset, .unset, .unset, .unset, .unset, .unset, .unset, .unset, .unset, .unset, .unset, .unset, .unset] [.int (((((q0.toUInt64 >>> ((7 : Int32) &&& 0x3f).toInt64.toUInt64).toInt64) &&& (127 : Int64)).toInt32).toInt8.toInt32), .int 1, .ref b1])) rfl rfl (hb hby at_30)
  have V_b1 : Arv Z h5 b1 k1 .byte (6 : Int32) [(.int ((((q0 &&& (127 : Int64)).toInt32).toInt8.toInt32).toInt8.toInt32)), (.int ((((((q0.toUInt64 >>> ((7 : Int32) &&& 0x3f).toInt64.toUInt64).toInt64) &&& (127 : Int64)).toInt32).toInt8.toInt32).toInt8.toInt32)), (.int 0), (.int 0), (.int 0), (.int 0)] (.int 0) := Arv.set Ar5 qk5 S5 Ng5 H5 G5 (fits_nar_byte _) W5 1 rfl (Nat.le_of_ble_eq_true rfl)
  have N5 := Fr.snoc X5 N3 g_b1
  have Sf_b1' := Safe.wr W5 Sf_b1 Hc Sf_b1
  have Hc := CHv.wr W5 Sf_b1 Hc
  have Sf_b1 := Sf_b1'
  have S_C := S_C.wr W5
  have S_F := S_F.wr W5
  have S_uu := S_uu.wr W5
  have S_ui := S_ui.wr W5
  have S_ua := S_ua.wr W5
  have S_su := S_su.wr W5
  have S_sa := S_sa.wr W5
  have E_uu := E_uu.wr W5
  have E_ua := E_ua.wr W5
  have E_b1 := E_b1.wr W5
  have Zs6 := Nat.le_trans Zs4 (Keep.of_wr W5).1
  have hk := Nat.le_trans hk (Keep.of_wr W5).1
  refine GoW.st (S' := T5.setTop (mkF m 38 #[vj q0, .second, vi p1, vi p2, vi p3, vr b1, .unset, .unset, .unset, .unset, .unset, .unset, .unset, .unset, .unset, .unset, .unset, .unset, .unset, .unset, .unset] [.long ((q0.toUInt64 >>> ((14 : Int32) &&& 0x3f).toInt64.toUInt64).toInt64), .int 2, .ref b1])) (fun _ kk => st5 _ (XS.aload X5.here hx rfl (hb hby at_31) rfl rfl (XS.iconst X5.here hx rfl (hb hby at_33) (XS.lloadN X5.here hx rfl (hb hby at_34) rfl (XS.bipush X5.here hx rfl (hb hby at_35) (XS.lushr X5.here hx rfl (hb hby at_37) rfl kk)))))) ?_
  refine GoW.st (S' := T5.setTop (mkF m 44 #[vj q0, .second, vi p1, vi p2, vi p3, vr b1, .unset, .unset, .unset, .unset, .unset, .unset, .unset, .unset, .unset, .unset, .unset, .unset, .unset, .unset, .unset] [.int (((((q0.toUInt64 >>> ((14 : Int32) &&& 0x3f).toInt64.toUInt64).toInt64) &&& (127 : Int64)).toInt32).toInt8.toInt32), .int 2, .ref b1])) (fun _ kk => X5.ldc2Long hx hown (mvT hZ (ow hw 1 rfl)) (g := (mkF m 38 #[vj q0, .second, vi p1, vi p2, vi p3, vr b1, .unset, .unset, .unset, .unset, .unset, .unset, .unset, .unset, .unset, .unset, .unset, .unset, .unset, .unset, .unset] [.long ((q0.toUInt64 >>> ((14 : Int32) &&& 0x3f).toInt64.toUInt64).toInt64), .int 2, .ref b1])) rfl (hb hby at_38) _ (XS.land X5.here hx rfl (hb hby at_41) rfl (XS.l2i X5.here hx rfl (hb hby at_42) rfl (XS.i2b X5.here hx rfl (hb hby at_43) rfl kk)))) ?_
  obtain ⟨cl7, Ar7, qk7, S7, Ng7, H7, G7⟩ := (id V_b1)
  have hin7 : ¬ ((2 : Int32) < 0 ∨ cl7.slots.size ≤ ((2 : Int32)).toNatClampNeg) := inb_of S7 ⟨by decide, by decide⟩
  obtain ⟨T7, h7, X7, e7, W7, st7⟩ := stB X5 hx hZ e5 Ar7 (j := (2 : Int32)) hin7 (g := (mkF m 44 #[vj q0, .second, vi p1, vi p2, vi p3, vr b1, .unset, .unset, .unset, .unset, .unset, .unset, .unset, .unset, .unset, .unset, .unset, .unset, .unset, .unset, .unset] [.int (((((q0.toUInt64 >>> ((14 : Int32) &&& 0x3f).toInt64.toUInt64).toInt64) &&& (127 : Int64)).toInt32).toInt8.toInt32), .int 2, .ref b1])) rfl rfl (hb hby at_44)
  have V_b1 : Arv Z h7 b1 k1 .byte (6 : Int32) [(.int ((((q0 &&& (127 : Int64)).toInt32).toInt8.toInt32).toInt8.toInt32)), (.int ((((((q0.toUInt64 >>> ((7 : Int32) &&& 0x3f).toInt64.toUInt64).toInt64) &&& (127 : Int64)).toInt32).toInt8.toInt32).toInt8.toInt32)), (.int ((((((q0.toUInt64 >>> ((14 : Int32) &&& 0x3f).toInt64.toUInt64).toInt64) &&& (127 : Int64)).toInt32).toInt8.toInt32).toInt8.toInt32)), (.int 0), (.int 0), (.int 0)] (.int 0) := Arv.set Ar7 qk7 S7 Ng7 H7 G7 (fits_nar_byte _) W7 2 rfl (Nat.le_of_ble_eq_true rfl)
  have N7 := Fr.snoc X7 N5 g_b1
  have Sf_b1' := Safe.wr W7 Sf_b1 Hc Sf_b1
  have Hc := CHv.wr W7 Sf_b1 Hc
  have Sf_b1 := Sf_b1'
  have S_C := S_C.wr W7
  have S_F := S_F.wr W7
  have S_uu := S_uu.wr W7
  have S_ui := S_ui.wr W7
  have S_ua := S_ua.wr W7
  have S_su := S_su.wr W7
  have S_sa := S_sa.wr W7
  have E_uu := E_uu.wr W7
  have E_ua := E_ua.wr W7
  have E_b1 := E_b1.wr W7
  have Zs8 := Nat.le_trans Zs6 (Keep.of_wr W7).1
  have hk := Nat.le_trans hk (Keep.of_wr W7).1
  refine GoW.st (S' := T7.setTop (mkF m 52 #[vj q0, .second, vi p1, vi p2, vi p3, vr b1, .unset, .unset, .unset, .unset, .unset, .unset, .unset, .unset, .unset, .unset, .unset, .unset, .unset, .unset, .unset] [.long ((q0.toUInt64 >>> ((21 : Int32) &&& 0x3f).toInt64.toUInt64).toInt64), .int 3, .ref b1])) (fun _ kk => st7 _ (XS.aload X7.here hx rfl (hb hby at_45) rfl rfl (XS.iconst X7.here hx rfl (hb hby at_47) (XS.lloadN X7.here hx rfl (hb hby at_48) rfl (XS.bipush X7.here hx rfl (hb hby at_49) (XS.lushr X7.here hx rfl (hb hby at_51) rfl kk)))))) ?_
  refine GoW.st (S' := T7.setTop (mkF m 58 #[vj q0, .second, vi p1, vi p2, vi p3, vr b1, .unset, .unset, .unset, .unset, .unset, .unset, .unset, .unset, .unset, .unset, .unset, .unset, .unset, .unset, .unset] [.int (((((q0.toUInt64 >>> ((21 : Int32) &&& 0x3f).toInt64.toUInt64).toInt64) &&& (127 : Int64)).toInt32).toInt8.toInt32), .int 3, .ref b1])) (fun _ kk => X7.ldc2Long hx hown (mvT hZ (ow hw 1 rfl)) (g := (mkF m 52 #[vj q0, .second, vi p1, vi p2, vi p3, vr b1, .unset, .unset, .unset, .unset, .unset, .unset, .unset, .unset, .unset, .unset, .unset, .unset, .unset, .unset, .unset] [.long ((q0.toUInt64 >>> ((21 : Int32) &&& 0x3f).toInt64.toUInt64).toInt64), .int 3, .ref b1])) rfl (hb hby at_52) _ (XS.land X7.here hx rfl (hb hby at_55) rfl (XS.l2i X7.here hx rfl (hb hby at_56) rfl (XS.i2b X7.here hx rfl (hb hby at_57) rfl kk)))) ?_
  obtain ⟨cl9, Ar9, qk9, S9, Ng9, H9, G9⟩ := (id V_b1)
  have hin9 : ¬ ((3 : Int32) < 0 ∨ cl9.slots.size ≤ ((3 : Int32)).toNatClampNeg) := inb_of S9 ⟨by decide, by decide⟩
  obtain ⟨T9, h9, X9, e9, W9, st9⟩ := stB X7 hx hZ e7 Ar9 (j := (3 : Int32)) hin9 (g := (mkF m 58 #[vj q0, .second, vi p1, vi p2, vi p3, vr b1, .unset, .unset, .unset, .unset, .unset, .unset, .unset, .unset, .unset, .unset, .unset, .unset, .unset, .unset, .unset] [.int (((((q0.toUInt64 >>> ((21 : Int32) &&& 0x3f).toInt64.toUInt64).toInt64) &&& (127 : Int64)).toInt32).toInt8.toInt32), .int 3, .ref b1])) rfl rfl (hb hby at_58)
  have V_b1 : Arv Z h9 b1 k1 .byte (6 : Int32) [(.int ((((q0 &&& (127 : Int64)).toInt32).toInt8.toInt32).toInt8.toInt32)), (.int ((((((q0.toUInt64 >>> ((7 : Int32) &&& 0x3f).toInt64.toUInt64).toInt64) &&& (127 : Int64)).toInt32).toInt8.toInt32).toInt8.toInt32)), (.int ((((((q0.toUInt64 >>> ((14 : Int32) &&& 0x3f).toInt64.toUInt64).toInt64) &&& (127 : Int64)).toInt32).toInt8.toInt32).toInt8.toInt32)), (.int ((((((q0.toUInt64 >>> ((21 : Int32) &&& 0x3f).toInt64.toUInt64).toInt64) &&& (127 : Int64)).toInt32).toInt8.toInt32).toInt8.toInt32)), (.int 0), (.int 0)] (.int 0) := Arv.set Ar9 qk9 S9 Ng9 H9 G9 (fits_nar_byte _) W9 3 rfl (Nat.le_of_ble_eq_true rfl)
  have N9 := Fr.snoc X9 N7 g_b1
  have Sf_b1' := Safe.wr W9 Sf_b1 Hc Sf_b1
  have Hc := CHv.wr W9 Sf_b1 Hc
  have Sf_b1 := Sf_b1'
  have S_C := S_C.wr W9
  have S_F := S_F.wr W9
  have S_uu := S_uu.wr W9
  have S_ui := S_ui.wr W9
  have S_ua := S_ua.wr W9
  have S_su := S_su.wr W9
  have S_sa := S_sa.wr W9
  have E_uu := E_uu.wr W9
  have E_ua := E_ua.wr W9
  have E_b1 := E_b1.wr W9
  have Zs10 := Nat.le_trans Zs8 (Keep.of_wr W9).1
  have hk := Nat.le_trans hk (Keep.of_wr W9).1
  refine GoW.st (S' := T9.setTop (mkF m 66 #[vj q0, .second, vi p1, vi p2, vi p3, vr b1, .unset, .unset, .unset, .unset, .unset, .unset, .unset, .unset, .unset, .unset, .unset, .unset, .unset, .unset, .unset] [.long ((q0.toUInt64 >>> ((28 : Int32) &&& 0x3f).toInt64.toUInt64).toInt64), .int 4, .ref b1])) (fun _ kk => st9 _ (XS.aload X9.here hx rfl (hb hby at_59) rfl rfl (XS.iconst X9.here hx rfl (hb hby at_61) (XS.lloadN X9.here hx rfl (hb hby at_62) rfl (XS.bipush X9.here hx rfl (hb hby at_63) (XS.lushr X9.here hx rfl (hb hby at_65) rfl kk)))))) ?_
  refine GoW.st (S' := T9.setTop (mkF m 72 #[vj q0, .second, vi p1, vi p2, vi p3, vr b1, .unset, .unset, .unset, .unset, .unset, .unset, .unset, .unset, .unset, .unset, .unset, .unset, .unset, .unset, .unset] [.int (((((q0.toUInt64 >>> ((28 : Int32) &&& 0x3f).toInt64.toUInt64).toInt64) &&& (127 : Int64)).toInt32).toInt8.toInt32), .int 4, .ref b1])) (fun _ kk => X9.ldc2Long hx hown (mvT hZ (ow hw 1 rfl)) (g := (mkF m 66 #[vj q0, .second, vi p1, vi p2, vi p3, vr b1, .unset, .unset, .unset, .unset, .unset, .unset, .unset, .unset, .unset, .unset, .unset, .unset, .unset, .unset, .unset] [.long ((q0.toUInt64 >>> ((28 : Int32) &&& 0x3f).toInt64.toUInt64).toInt64), .int 4, .ref b1])) rfl (hb hby at_66) _ (XS.land X9.here hx rfl (hb hby at_69) rfl (XS.l2i X9.here hx rfl (hb hby at_70) rfl (XS.i2b X9.here hx rfl (hb hby at_71) rfl kk)))) ?_
  obtain ⟨cl11, Ar11, qk11, S11, Ng11, H11, G11⟩ := (id V_b1)
  have hin11 : ¬ ((4 : Int32) < 0 ∨ cl11.slots.size ≤ ((4 : Int32)).toNatClampNeg) := inb_of S11 ⟨by decide, by decide⟩
  obtain ⟨T11, h11, X11, e11, W11, st11⟩ := stB X9 hx hZ e9 Ar11 (j := (4 : Int32)) hin11 (g := (mkF m 72 #[vj q0, .second, vi p1, vi p2, vi p3, vr b1, .unset, .unset, .unset, .unset, .unset, .unset, .unset, .unset, .unset, .unset, .unset, .unset, .unset, .unset, .unset] [.int (((((q0.toUInt64 >>> ((28 : Int32) &&& 0x3f).toInt64.toUInt64).toInt64) &&& (127 : Int64)).toInt32).toInt8.toInt32), .int 4, .ref b1])) rfl rfl (hb hby at_72)
  have V_b1 : Arv Z h11 b1 k1 .byte (6 : Int32) [(.int ((((q0 &&& (127 : Int64)).toInt32).toInt8.toInt32).toInt8.toInt32)), (.int ((((((q0.toUInt64 >>> ((7 : Int32) &&& 0x3f).toInt64.toUInt64).toInt64) &&& (127 : Int64)).toInt32).toInt8.toInt32).toInt8.toInt32)), (.int ((((((q0.toUInt64 >>> ((14 : Int32) &&& 0x3f).toInt64.toUInt64).toInt64) &&& (127 : Int64)).toInt32).toInt8.toInt32).toInt8.toInt32)), (.int ((((((q0.toUInt64 >>> ((21 : Int32) &&& 0x3f).toInt64.toUInt64).toInt64) &&& (127 : Int64)).toInt32).toInt8.toInt32).toInt8.toInt32)), (.int ((((((q0.toUInt64 >>> ((28 : Int32) &&& 0x3f).toInt64.toUInt64).toInt64) &&& (127 : Int64)).toInt32).toInt8.toInt32).toInt8.toInt32)), (.int 0)] (.int 0) := Arv.set Ar11 qk11 S11 Ng11 H11 G11 (fits_nar_byte _) W11 4 rfl (Nat.le_of_ble_eq_true rfl)
  have N11 := Fr.snoc X11 N9 g_b1
  have Sf_b1' := Safe.wr W11 Sf_b1 Hc Sf_b1
  have Hc := CHv.wr W11 Sf_b1 Hc
  have Sf_b1 := Sf_b1'
  have S_C := S_C.wr W11
  have S_F := S_F.wr W11
  have S_uu := S_uu.wr W11
  have S_ui := S_ui.wr W11
  have S_ua := S_ua.wr W11
  have S_su := S_su.wr W11
  have S_sa := S_sa.wr W11
  have E_uu := E_uu.wr W11
  have E_ua := E_ua.wr W11
  have E_b1 := E_b1.wr W11
  have Zs12 := Nat.le_trans Zs10 (Keep.of_wr W11).1
  have hk := Nat.le_trans hk (Keep.of_wr W11).1
  refine GoW.st (S' := T11.setTop (mkF m 80 #[vj q0, .second, vi p1, vi p2, vi p3, vr b1, .unset, .unset, .unset, .unset, .unset, .unset, .unset, .unset, .unset, .unset, .unset, .unset, .unset, .unset, .unset] [.long ((q0.toUInt64 >>> ((35 : Int32) &&& 0x3f).toInt64.toUInt64).toInt64), .int 5, .ref b1])) (fun _ kk => st11 _ (XS.aload X11.here hx rfl (hb hby at_73) rfl rfl (XS.iconst X11.here hx rfl (hb hby at_75) (XS.lloadN X11.here hx rfl (hb hby at_76) rfl (XS.bipush X11.here hx rfl (hb hby at_77) (XS.lushr X11.here hx rfl (hb hby at_79) rfl kk)))))) ?_
  refine GoW.st (S' := T11.setTop (mkF m 86 #[vj q0, .second, vi p1, vi p2, vi p3, vr b1, .unset, .unset, .unset, .unset, .unset, .unset, .unset, .unset, .unset, .unset, .unset, .unset, .unset, .unset, .unset] [.int (((((q0.toUInt64 >>> ((35 : Int32) &&& 0x3f).toInt64.toUInt64).toInt64) &&& (127 : Int64)).toInt32).toInt8.toInt32), .int 5, .ref b1])) (fun _ kk => X11.ldc2Long hx hown (mvT hZ (ow hw 1 rfl)) (g := (mkF m 80 #[vj q0, .second, vi p1, vi p2, vi p3, vr b1, .unset, .unset, .unset, .unset, .unset, .unset, .unset, .unset, .unset, .unset, .unset, .unset, .unset, .unset, .unset] [.long ((q0.toUInt64 >>> ((35 : Int32) &&& 0x3f).toInt64.toUInt64).toInt64), .int 5, .ref b1])) rfl (hb hby at_80) _ (XS.land X11.here hx rfl (hb hby at_83) rfl (XS.l2i X11.here hx rfl (hb hby at_84) rfl (XS.i2b X11.here hx rfl (hb hby at_85) rfl kk)))) ?_
  obtain ⟨cl13, Ar13, qk13, S13, Ng13, H13, G13⟩ := (id V_b1)
  have hin13 : ¬ ((5 : Int32) < 0 ∨ cl13.slots.size ≤ ((5 : Int32)).toNatClampNeg) := inb_of S13 ⟨by decide, by decide⟩
  obtain ⟨T13, h13, X13, e13, W13, st13⟩ := stB X11 hx hZ e11 Ar13 (j := (5 : Int32)) hin13 (g := (mkF m 86 #[vj q0, .second, vi p1, vi p2, vi p3, vr b1, .unset, .unset, .unset, .unset, .unset, .unset, .unset, .unset, .unset, .unset, .unset, .unset, .unset, .unset, .unset] [.int (((((q0.toUInt64 >>> ((35 : Int32) &&& 0x3f).toInt64.toUInt64).toInt64) &&& (127 : Int64)).toInt32).toInt8.toInt32), .int 5, .ref b1])) rfl rfl (hb hby at_86)
  have V_b1 : Arv Z h13 b1 k1 .byte (6 : Int32) [(.int ((((q0 &&& (127 : Int64)).toInt32).toInt8.toInt32).toInt8.toInt32)), (.int ((((((q0.toUInt64 >>> ((7 : Int32) &&& 0x3f).toInt64.toUInt64).toInt64) &&& (127 : Int64)).toInt32).toInt8.toInt32).toInt8.toInt32)), (.int ((((((q0.toUInt64 >>> ((14 : Int32) &&& 0x3f).toInt64.toUInt64).toInt64) &&& (127 : Int64)).toInt32).toInt8.toInt32).toInt8.toInt32)), (.int ((((((q0.toUInt64 >>> ((21 : Int32) &&& 0x3f).toInt64.toUInt64).toInt64) &&& (127 : Int64)).toInt32).toInt8.toInt32).toInt8.toInt32)), (.int ((((((q0.toUInt64 >>> ((28 : Int32) &&& 0x3f).toInt64.toUInt64).toInt64) &&& (127 : Int64)).toInt32).toInt8.toInt32).toInt8.toInt32)), (.int ((((((q0.toUInt64 >>> ((35 : Int32) &&& 0x3f).toInt64.toUInt64).toInt64) &&& (127 : Int64)).toInt32).toInt8.toInt32).toInt8.toInt32))] (.int 0) := Arv.set Ar13 qk13 S13 Ng13 H13 G13 (fits_nar_byte _) W13 5 rfl (Nat.le_of_ble_eq_true rfl)
  have N13 := Fr.snoc X13 N11 g_b1
  have Sf_b1' := Safe.wr W13 Sf_b1 Hc Sf_b1
  have Hc := CHv.wr W13 Sf_b1 Hc
  have Sf_b1 := Sf_b1'
  have S_C := S_C.wr W13
  have S_F := S_F.wr W13
  have S_uu := S_uu.wr W13
  have S_ui := S_ui.wr W13
  have S_ua := S_ua.wr W13
  have S_su := S_su.wr W13
  have S_sa := S_sa.wr W13
  have E_uu := E_uu.wr W13
  have E_ua := E_ua.wr W13
  have E_b1 := E_b1.wr W13
  have Zs14 := Nat.le_trans Zs12 (Keep.of_wr W13).1
  have hk := Nat.le_trans hk (Keep.of_wr W13).1
  refine GoW.st (S' := T13.setTop (mkF m 87 #[vj q0, .second, vi p1, vi p2, vi p3, vr b1, .unset, .unset, .unset, .unset, .unset, .unset, .unset, .unset, .unset, .unset, .unset, .unset, .unset, .unset, .unset] [])) st13 ?_
  obtain ⟨bs, hbse⟩ : ∃ l : List Int32, l = [((((q0 &&& (127 : Int64)).toInt32).toInt8.toInt32).toInt8.toInt32), ((((((q0.toUInt64 >>> ((7 : Int32) &&& 0x3f).toInt64.toUInt64).toInt64) &&& (127 : Int64)).toInt32).toInt8.toInt32).toInt8.toInt32), ((((((q0.toUInt64 >>> ((14 : Int32) &&& 0x3f).toInt64.toUInt64).toInt64) &&& (127 : Int64)).toInt32).toInt8.toInt32).toInt8.toInt32), ((((((q0.toUInt64 >>> ((21 : Int32) &&& 0x3f).toInt64.toUInt64).toInt64) &&& (127 : Int64)).toInt32).toInt8.toInt32).toInt8.toInt32), ((((((q0.toUInt64 >>> ((28 : Int32) &&& 0x3f).toInt64.toUInt64).toInt64) &&& (127 : Int64)).toInt32).toInt8.toInt32).toInt8.toInt32), ((((((q0.toUInt64 >>> ((35 : Int32) &&& 0x3f).toInt64.toUInt64).toInt64) &&& (127 : Int64)).toInt32).toInt8.toInt32).toInt8.toInt32)] := ⟨_, rfl⟩
  have V_b1 : Arv Z h13 b1 k1 .byte 6 (bs.map .int) (.int 0) := by rw [hbse]; exact V_b1
  have hbs : ∀ b ∈ bs, 0 ≤ b.toInt ∧ b.toInt ≤ 127 := by rw [hbse]; exact (List.forall_mem_cons.mpr ⟨own_b7 _, (List.forall_mem_cons.mpr ⟨own_b7 _, (List.forall_mem_cons.mpr ⟨own_b7 _, (List.forall_mem_cons.mpr ⟨own_b7 _, (List.forall_mem_cons.mpr ⟨own_b7 _, (List.forall_mem_cons.mpr ⟨own_b7 _, (fun _ hx => nomatch hx)⟩)⟩)⟩)⟩)⟩)⟩)
  have hz : (6 : Int32).toInt = bs.length := by rw [hbse]; rfl
  have hs6 : bs.length ≤ 6 := by rw [hbse]; exact Nat.le_refl 6
  have hl6 : bs.length = 6 := by rw [hbse]; rfl
  clear hbse
  refine GoW.st (S' := T13.setTop (mkF m 88 #[vj q0, .second, vi p1, vi p2, vi p3, vr b1, .unset, .unset, .unset, .unset, .unset, .unset, .unset, .unset, .unset, .unset, .unset, .unset, .unset, .unset, .unset] [.int p1])) (fun _ kk => XS.iloadN X13.here hx rfl (hb hby at_87) rfl kk) ?_
  obtain ⟨_, _, ⟨T15, L15, k15, n15⟩, -, X15, ⟨Lc15, hQ15, l15, y15, z15⟩, st15⟩ := Jvm.LawKit.callS X13 hx (y := mN13) hown (mvT hZ (ow hw 2 rfl)) (mvT hZ (ow hw 3 rfl)) (mvT hZ (ow hw 4 rfl)) (mvT hZ (ow hw 5 rfl)) (by decide) (backOf (W := 0) (rmAt l Z az hw [] p1 h13 n0 Zs14) hZ (ow hw 5 rfl) (ow hw 4 rfl) (by decide) (by decide)) (g := (mkF m 88 #[vj q0, .second, vi p1, vi p2, vi p3, vr b1, .unset, .unset, .unset, .unset, .unset, .unset, .unset, .unset, .unset, .unset, .unset, .unset, .unset, .unset, .unset] [.int p1])) rfl (by rw [hml]; rfl) (argsL := [.int p1]) (rest := []) (lenOf pd_0 rfl) rfl (oW rfl rfl) (hb hby at_88) (fun _ _ => ⟨rfl, e13, (by decide : 1 + 1 ≤ _), (by decide : 6 + 5 ≤ _)⟩)
  dsimp only [Pt.U, Pt.locs, Pt.cells, Pt.slots] at X15 l15 y15 z15 st15 hQ15
  rw [l15, y15, z15] at X15
  obtain ⟨pa, kpa, pav1, pav2, pav3, pav4, pav5, rfl, N15q, K15, V_pa, gb15, hB_pa⟩ := hQ15
  have N15 := Fr.app N13 N15q
  have Ex15 := own_extK K15
  have ne_uu_pa : uu ≠ pa := Nat.ne_of_lt (Nat.lt_of_lt_of_le E_uu.lt gb15)
  have ne_ua_pa : ua ≠ pa := Nat.ne_of_lt (Nat.lt_of_lt_of_le E_ua.lt gb15)
  have ne_b1_pa : b1 ≠ pa := Nat.ne_of_lt (Nat.lt_of_lt_of_le E_b1.lt gb15)
  have Sf_b1' := Safe.ext Ex15 Hc Sf_b1
  have Hc := CHv.ext Ex15 Hc
  have Sf_b1 := Sf_b1'
  have S_C := S_C.ext Ex15
  have S_F := S_F.ext Ex15
  have S_uu := S_uu.ext Ex15
  have S_ui := S_ui.ext Ex15
  have S_ua := S_ua.ext Ex15
  have S_su := S_su.ext Ex15
  have S_sa := S_sa.ext Ex15
  have E_uu := E_uu.ext Ex15
  have E_ua := E_ua.ext Ex15
  have E_b1 := E_b1.ext Ex15
  have V_b1 := V_b1.ext Ex15
  have Zs16 := Nat.le_trans Zs14 Ex15.1
  have hk := Nat.le_trans hk Ex15.1
  refine GoW.st (S' := T15.setTop (mkF m 94 #[vj q0, .second, vi p1, vi p2, vi p3, vr b1, vr pa, .unset, .unset, .unset, .unset, .unset, .unset, .unset, .unset, .unset, .unset, .unset, .unset, .unset, .unset] [.int p2])) (fun _ kk => st15 _ (XS.astore X15.here hx rfl (hb hby at_91) rfl rfl (l' := #[vj q0, .second, vi p1, vi p2, vi p3, vr b1, vr pa, .unset, .unset, .unset, .unset, .unset, .unset, .unset, .unset, .unset, .unset, .unset, .unset, .unset, .unset]) rfl (XS.iloadN X15.here hx rfl (hb hby at_93) rfl kk))) ?_
  obtain ⟨_, _, ⟨T17, L17, k17, n17⟩, -, X17, ⟨Lc17, hQ17, l17, y17, z17⟩, st17⟩ := Jvm.LawKit.callS X15 hx (y := mN13) hown (mvT hZ (ow hw 2 rfl)) (mvT hZ (ow hw 3 rfl)) (mvT hZ (ow hw 4 rfl)) (mvT hZ (ow hw 5 rfl)) (by decide) (backOf (W := 0) (rmAt l Z az hw [] p2 T15.heap n0 Zs16) hZ (ow hw 5 rfl) (ow hw 4 rfl) (by decide) (by decide)) (g := (mkF m 94 #[vj q0, .second, vi p1, vi p2, vi p3, vr b1, vr pa, .unset, .unset, .unset, .unset, .unset, .unset, .unset, .unset, .unset, .unset, .unset, .unset, .unset, .unset] [.int p2])) rfl (by rw [hml]; rfl) (argsL := [.int p2]) (rest := []) (lenOf pd_0 rfl) rfl (oW rfl rfl) (hb hby at_94) (fun _ _ => ⟨rfl, rfl, (by decide : 2 + 1 ≤ _), (by decide : 11 + 5 ≤ _)⟩)
  dsimp only [Pt.U, Pt.locs, Pt.cells, Pt.slots] at X17 l17 y17 z17 st17 hQ17
  rw [l17, y17, z17] at X17
  obtain ⟨pb, kpb, pbv1, pbv2, pbv3, pbv4, pbv5, rfl, N17q, K17, V_pb, gb17, hB_pb⟩ := hQ17
  have N17 := Fr.app N15 N17q
  have Ex17 := own_extK K17
  have ne_uu_pb : uu ≠ pb := Nat.ne_of_lt (Nat.lt_of_lt_of_le E_uu.lt gb17)
  have ne_ua_pb : ua ≠ pb := Nat.ne_of_lt (Nat.lt_of_lt_of_le E_ua.lt gb17)
  have ne_b1_pb : b1 ≠ pb := Nat.ne_of_lt (Nat.lt_of_lt_of_le E_b1.lt gb17)
  have ne_pa_pb : pa ≠ pb := Nat.ne_of_lt (Nat.lt_of_lt_of_le V_pa.lt gb17)
  have Sf_b1' := Safe.ext Ex17 Hc Sf_b1
  have Hc := CHv.ext Ex17 Hc
  have Sf_b1 := Sf_b1'
  have S_C := S_C.ext Ex17
  have S_F := S_F.ext Ex17
  have S_uu := S_uu.ext Ex17
  have S_ui := S_ui.ext Ex17
  have S_ua := S_ua.ext Ex17
  have S_su := S_su.ext Ex17
  have S_sa := S_sa.ext Ex17
  have E_uu := E_uu.ext Ex17
  have E_ua := E_ua.ext Ex17
  have E_b1 := E_b1.ext Ex17
  have V_b1 := V_b1.ext Ex17
  have V_pa := V_pa.ext Ex17
  have Zs18 := Nat.le_trans Zs16 Ex17.1
  have hk := Nat.le_trans hk Ex17.1
  refine GoW.st (S' := T17.setTop (mkF m 101 #[vj q0, .second, vi p1, vi p2, vi p3, vr b1, vr pa, vr pb, .unset, .unset, .unset, .unset, .unset, .unset, .unset, .unset, .unset, .unset, .unset, .unset, .unset] [.int p3])) (fun _ kk => st17 _ (XS.astore X17.here hx rfl (hb hby at_97) rfl rfl (l' := #[vj q0, .second, vi p1, vi p2, vi p3, vr b1, vr pa, vr pb, .unset, .unset, .unset, .unset, .unset, .unset, .unset, .unset, .unset, .unset, .unset, .unset, .unset]) rfl (XS.iload X17.here hx rfl (hb hby at_99) rfl kk))) ?_
  obtain ⟨_, _, ⟨T19, L19, k19, n19⟩, -, X19, ⟨Lc19, hQ19, l19, y19, z19⟩, st19⟩ := Jvm.LawKit.callS X17 hx (y := mN13) hown (mvT hZ (ow hw 2 rfl)) (mvT hZ (ow hw 3 rfl)) (mvT hZ (ow hw 4 rfl)) (mvT hZ (ow hw 5 rfl)) (by decide) (backOf (W := 0) (rmAt l Z az hw [] p3 T17.heap n0 Zs18) hZ (ow hw 5 rfl) (ow hw 4 rfl) (by decide) (by decide)) (g := (mkF m 101 #[vj q0, .second, vi p1, vi p2, vi p3, vr b1, vr pa, vr pb, .unset, .unset, .unset, .unset, .unset, .unset, .unset, .unset, .unset, .unset, .unset, .unset, .unset] [.int p3])) rfl (by rw [hml]; rfl) (argsL := [.int p3]) (rest := []) (lenOf pd_0 rfl) rfl (oW rfl rfl) (hb hby at_101) (fun _ _ => ⟨rfl, rfl, (by decide : 3 + 1 ≤ _), (by decide : 16 + 5 ≤ _)⟩)
  dsimp only [Pt.U, Pt.locs, Pt.cells, Pt.slots] at X19 l19 y19 z19 st19 hQ19
  rw [l19, y19, z19] at X19
  obtain ⟨pc, kpc, pcv1, pcv2, pcv3, pcv4, pcv5, rfl, N19q, K19, V_pc, gb19, hB_pc⟩ := hQ19
  have N19 := Fr.app N17 N19q
  have Ex19 := own_extK K19
  have ne_uu_pc : uu ≠ pc := Nat.ne_of_lt (Nat.lt_of_lt_of_le E_uu.lt gb19)
  have ne_ua_pc : ua ≠ pc := Nat.ne_of_lt (Nat.lt_of_lt_of_le E_ua.lt gb19)
  have ne_b1_pc : b1 ≠ pc := Nat.ne_of_lt (Nat.lt_of_lt_of_le E_b1.lt gb19)
  have ne_pa_pc : pa ≠ pc := Nat.ne_of_lt (Nat.lt_of_lt_of_le V_pa.lt gb19)
  have ne_pb_pc : pb ≠ pc := Nat.ne_of_lt (Nat.lt_of_lt_of_le V_pb.lt gb19)
  have Sf_b1' := Safe.ext Ex19 Hc Sf_b1
  have Hc := CHv.ext Ex19 Hc
  have Sf_b1 := Sf_b1'
  have S_C := S_C.ext Ex19
  have S_F := S_F.ext Ex19
  have S_uu := S_uu.ext Ex19
  have S_ui := S_ui.ext Ex19
  have S_ua := S_ua.ext Ex19
  have S_su := S_su.ext Ex19
  have S_sa := S_sa.ext Ex19
  have E_uu := E_uu.ext Ex19
  have E_ua := E_ua.ext Ex19
  have E_b1 := E_b1.ext Ex19
  have V_b1 := V_b1.ext Ex19
  have V_pa := V_pa.ext Ex19
  have V_pb := V_pb.ext Ex19
  have Zs20 := Nat.le_trans Zs18 Ex19.1
  have hk := Nat.le_trans hk Ex19.1
  refine GoW.st (S' := T19.setTop (mkF m 106 #[vj q0, .second, vi p1, vi p2, vi p3, vr b1, vr pa, vr pb, vr pc, .unset, .unset, .unset, .unset, .unset, .unset, .unset, .unset, .unset, .unset, .unset, .unset] [])) (fun _ kk => st19 _ (XS.astore X19.here hx rfl (hb hby at_104) rfl rfl (l' := #[vj q0, .second, vi p1, vi p2, vi p3, vr b1, vr pa, vr pb, vr pc, .unset, .unset, .unset, .unset, .unset, .unset, .unset, .unset, .unset, .unset, .unset, .unset]) rfl kk)) ?_
  have hr_pa_1 : 0 ≤ pav1.toInt ∧ pav1.toInt ≤ pav3.toInt ∧ pav3.toInt ≤ bs.length := ⟨hB_pa.1.1, Int.le_trans hB_pa.1.2.1 hB_pa.1.2.2.1, by have := hB_pa.1.2.2.2; omega⟩
  have hr_pa_2 : 0 ≤ pav2.toInt ∧ pav2.toInt ≤ pav3.toInt ∧ pav3.toInt ≤ bs.length := ⟨Int.le_trans hB_pa.1.1 hB_pa.1.2.1, hB_pa.1.2.2.1, by have := hB_pa.1.2.2.2; omega⟩
  have hr_pa_4 : 0 ≤ pav4.toInt ∧ pav4.toInt ≤ pav5.toInt ∧ pav5.toInt ≤ bs.length := ⟨hB_pa.2.1, hB_pa.2.2.1, by have := hB_pa.2.2.2; omega⟩
  have hr_pb_1 : 0 ≤ pbv1.toInt ∧ pbv1.toInt ≤ pbv3.toInt ∧ pbv3.toInt ≤ bs.length := ⟨hB_pb.1.1, Int.le_trans hB_pb.1.2.1 hB_pb.1.2.2.1, by have := hB_pb.1.2.2.2; omega⟩
  have hr_pb_2 : 0 ≤ pbv2.toInt ∧ pbv2.toInt ≤ pbv3.toInt ∧ pbv3.toInt ≤ bs.length := ⟨Int.le_trans hB_pb.1.1 hB_pb.1.2.1, hB_pb.1.2.2.1, by have := hB_pb.1.2.2.2; omega⟩
  have hr_pb_4 : 0 ≤ pbv4.toInt ∧ pbv4.toInt ≤ pbv5.toInt ∧ pbv5.toInt ≤ bs.length := ⟨hB_pb.2.1, hB_pb.2.2.1, by have := hB_pb.2.2.2; omega⟩
  have hr_pc_1 : 0 ≤ pcv1.toInt ∧ pcv1.toInt ≤ pcv3.toInt ∧ pcv3.toInt ≤ bs.length := ⟨hB_pc.1.1, Int.le_trans hB_pc.1.2.1 hB_pc.1.2.2.1, by have := hB_pc.1.2.2.2; omega⟩
  have hr_pc_2 : 0 ≤ pcv2.toInt ∧ pcv2.toInt ≤ pcv3.toInt ∧ pcv3.toInt ≤ bs.length := ⟨Int.le_trans hB_pc.1.1 hB_pc.1.2.1, hB_pc.1.2.2.1, by have := hB_pc.1.2.2.2; omega⟩
  have hr_pc_4 : 0 ≤ pcv4.toInt ∧ pcv4.toInt ≤ pcv5.toInt ∧ pcv5.toInt ≤ bs.length := ⟨hB_pc.2.1, hB_pc.2.2.1, by have := hB_pc.2.2.2; omega⟩
  obtain ⟨T21, h21, X21, e21, E21, A21, D21, -, st21⟩ := newO X19 hx hZ hown (ow hw 17 rfl) (ow hw 18 rfl) (ow hw 19 rfl) rfl (g := (mkF m 106 #[vj q0, .second, vi p1, vi p2, vi p3, vr b1, vr pa, vr pb, vr pc, .unset, .unset, .unset, .unset, .unset, .unset, .unset, .unset, .unset, .unset, .unset, .unset] [])) rfl (hb hby at_106) (by decide : 4 + 1 ≤ _) (by decide : 21 + 13 ≤ _)
  obtain ⟨b21, g21⟩ : ∃ z, z = T19.heap.size := ⟨_, rfl⟩
  rw [← g21] at A21 D21 st21
  have ne_uu_b21 : uu ≠ b21 := Nat.ne_of_lt (Nat.lt_of_lt_of_le E_uu.lt (Nat.le_of_eq g21.symm))
  have ne_ua_b21 : ua ≠ b21 := Nat.ne_of_lt (Nat.lt_of_lt_of_le E_ua.lt (Nat.le_of_eq g21.symm))
  have ne_b1_b21 : b1 ≠ b21 := Nat.ne_of_lt (Nat.lt_of_lt_of_le E_b1.lt (Nat.le_of_eq g21.symm))
  have ne_pa_b21 : pa ≠ b21 := Nat.ne_of_lt (Nat.lt_of_lt_of_le V_pa.lt (Nat.le_of_eq g21.symm))
  have ne_pb_b21 : pb ≠ b21 := Nat.ne_of_lt (Nat.lt_of_lt_of_le V_pb.lt (Nat.le_of_eq g21.symm))
  have ne_pc_b21 : pc ≠ b21 := Nat.ne_of_lt (Nat.lt_of_lt_of_le V_pc.lt (Nat.le_of_eq g21.symm))
  have g_b21 : n0 ≤ b21 := Nat.le_trans Zs20 (Nat.le_of_eq g21.symm)
  have Sf_b21 : Safe Z consts_1 s.vm T19.heap b21 := Safe.new (Nat.le_of_eq g21.symm)
  have Sf_b1' := Safe.ext E21 Hc Sf_b1
  have Sf_b21' := Safe.ext E21 Hc Sf_b21
  have Hc := CHv.ext E21 Hc
  have Sf_b1 := Sf_b1'
  have Sf_b21 := Sf_b21'
  have S_C := S_C.ext E21
  have S_F := S_F.ext E21
  have S_uu := S_uu.ext E21
  have S_ui := S_ui.ext E21
  have S_ua := S_ua.ext E21
  have S_su := S_su.ext E21
  have S_sa := S_sa.ext E21
  have E_uu := E_uu.ext E21
  have E_ua := E_ua.ext E21
  have E_b1 := E_b1.ext E21
  have V_b1 := V_b1.ext E21
  have V_pa := V_pa.ext E21
  have V_pb := V_pb.ext E21
  have V_pc := V_pc.ext E21
  have Zs22 := Nat.le_trans Zs20 E21.1
  have hk := Nat.le_trans hk E21.1
  have E_b21 := A21
  have F_bytes_b21 : Fld Z h21 b21 "com/example/grantbook/grantbook/licence/PlainAttributes" "bytes" "[B" .null := D21 (Or.inr (ow hw 27 rfl)) (ty := (.array .byte)) (by decide)
  have F_nameStarts_b21 : Fld Z h21 b21 "com/example/grantbook/grantbook/licence/PlainAttributes" "nameStarts" "[I" .null := D21 (Or.inr (ow hw 29 rfl)) (ty := (.array .int)) (by decide)
  have F_localNameStarts_b21 : Fld Z h21 b21 "com/example/grantbook/grantbook/licence/PlainAttributes" "localNameStarts" "[I" .null := D21 (Or.inr (ow hw 31 rfl)) (ty := (.array .int)) (by decide)
  have F_nameEnds_b21 : Fld Z h21 b21 "com/example/grantbook/grantbook/licence/PlainAttributes" "nameEnds" "[I" .null := D21 (Or.inr (ow hw 33 rfl)) (ty := (.array .int)) (by decide)
  have F_valueStarts_b21 : Fld Z h21 b21 "com/example/grantbook/grantbook/licence/PlainAttributes" "valueStarts" "[I" .null := D21 (Or.inr (ow hw 35 rfl)) (ty := (.array .int)) (by decide)
  have F_valueEnds_b21 : Fld Z h21 b21 "com/example/grantbook/grantbook/licence/PlainAttributes" "valueEnds" "[I" .null := D21 (Or.inr (ow hw 37 rfl)) (ty := (.array .int)) (by decide)
  have F_qNames_b21 : Fld Z h21 b21 "com/example/grantbook/grantbook/licence/PlainAttributes" "qNames" "[Ljava/lang/String;" .null := D21 (Or.inr (ow hw 41 rfl)) (ty := (.array (.object "java/lang/String"))) (by decide)
  have F_localNames_b21 : Fld Z h21 b21 "com/example/grantbook/grantbook/licence/PlainAttributes" "localNames" "[Ljava/lang/String;" .null := D21 (Or.inr (ow hw 43 rfl)) (ty := (.array (.object "java/lang/String"))) (by decide)
  have F_values_b21 : Fld Z h21 b21 "com/example/grantbook/grantbook/licence/PlainAttributes" "values" "[Ljava/lang/String;" .null := D21 (Or.inr (ow hw 45 rfl)) (ty := (.array (.object "java/lang/String"))) (by decide)
  have F_told_b21 : Fld Z h21 b21 "com/example/grantbook/grantbook/licence/PlainAttributes" "told" "[I" .null := D21 (Or.inr (ow hw 47 rfl)) (ty := (.array .int)) (by decide)
  have F_uris_b21 : Fld Z h21 b21 "com/example/grantbook/grantbook/licence/PlainAttributes" "uris" "[Ljava/lang/String;" .null := D21 (Or.inr (ow hw 49 rfl)) (ty := (.array (.object "java/lang/String"))) (by decide)
  have F_added_b21 : Fld Z h21 b21 "com/example/grantbook/grantbook/licence/PlainAttributes" "added" "I" (.int 0) := D21 (Or.inl (ow hw 56 rfl)) (ty := .int) (by decide)
  have F_length_b21 : Fld Z h21 b21 "com/example/grantbook/grantbook/licence/PlainAttributes" "length" "I" (.int 0) := D21 (Or.inl (ow hw 70 rfl)) (ty := .int) (by decide)
  refine GoW.st (S' := T21.setTop (mkF m 113 #[vj q0, .second, vi p1, vi p2, vi p3, vr b1, vr pa, vr pb, vr pc, .unset, .unset, .unset, .unset, .unset, .unset, .unset, .unset, .unset, .unset, .unset, .unset] [.int 2, .ref b1, .ref b21, .ref b21])) (fun _ kk => st21 _ (XS.dup X21.here hx rfl (hb hby at_109) rfl rfl (XS.aload X21.here hx rfl (hb hby at_110) rfl rfl (XS.iconst X21.here hx rfl (hb hby at_112) kk)))) ?_
  obtain ⟨_, _, ⟨T23, L23, k23, n23⟩, -, X23, ⟨Lc23, hQ23, l23, y23, z23⟩, st23⟩ := X21.specialBack hx (y := mN0) rfl hown (mvT hZ (ow hw 20 rfl)) (mvT hZ (ow hw 21 rfl)) (mvT hZ (ow hw 22 rfl)) (by decide) (backOf (W := 1) (rmPC l Z az hw [] b21 b1 (2 : Int32) h21 n0 Zs22 E_b21 g_b21 rfl F_bytes_b21 F_nameStarts_b21 F_localNameStarts_b21 F_nameEnds_b21 F_valueStarts_b21 F_valueEnds_b21 F_qNames_b21 F_localNames_b21 F_values_b21 F_told_b21 F_uris_b21 F_added_b21 F_length_b21) hZ (ow hw 22 rfl) (ow hw 19 rfl) (by decide) (by decide)) (g := (mkF m 113 #[vj q0, .second, vi p1, vi p2, vi p3, vr b1, vr pa, vr pb, vr pc, .unset, .unset, .unset, .unset, .unset, .unset, .unset, .unset, .unset, .unset, .unset, .unset] [.int 2, .ref b1, .ref b21, .ref b21])) rfl (by rw [hml]; rfl) (Steps.refl _) (a := b21) (argsL := [.ref b1, .int 2]) (rest := [.ref b21]) (lenOf pd_2 rfl) rfl (oW rfl rfl) (hb hby at_113) (fun _ _ => ⟨rfl, e21, (by decide : 5 + 10 ≤ _), (by decide : 34 + 20 ≤ _)⟩)
  dsimp only [Pt.U, Pt.locs, Pt.cells, Pt.slots] at X23 l23 y23 z23 st23 hQ23
  rw [l23, y23, z23] at X23
  obtain ⟨r_1, r_2, r_3, r_4, r_5, r_6, r_7, r_8, r_9, r_10, kr_1, kr_2, kr_3, kr_4, kr_5, kr_6, kr_7, kr_8, kr_9, kr_10, rfl, N23q, K23, PA, hbe23, hnd⟩ := hQ23
  have N23 := Fr.app N19 N23q
  have nin_pa : pa ∉ [b21, r_1, r_2, r_3, r_4, r_5, r_6, r_7, r_8, r_9, r_10] := ninS ne_pa_b21 (fun hm => Nat.lt_irrefl _ (Nat.lt_of_lt_of_le V_pa.lt (hbe23 _ hm)))
  have nin_pb : pb ∉ [b21, r_1, r_2, r_3, r_4, r_5, r_6, r_7, r_8, r_9, r_10] := ninS ne_pb_b21 (fun hm => Nat.lt_irrefl _ (Nat.lt_of_lt_of_le V_pb.lt (hbe23 _ hm)))
  have nin_pc : pc ∉ [b21, r_1, r_2, r_3, r_4, r_5, r_6, r_7, r_8, r_9, r_10] := ninS ne_pc_b21 (fun hm => Nat.lt_irrefl _ (Nat.lt_of_lt_of_le V_pc.lt (hbe23 _ hm)))
  have hg : ∀ x ∈ [b21, r_1, r_2, r_3, r_4, r_5, r_6, r_7, r_8, r_9, r_10], n0 ≤ x := allS g_b21 (fun x hm => Nat.le_trans Zs22 (hbe23 x hm))
  have Sf_b1' := Safe.keep K23 (allS (P := Safe Z consts_1 s.vm h21) Sf_b21 all0) Hc Sf_b1
  have Sf_b21' := Safe.keep K23 (allS (P := Safe Z consts_1 s.vm h21) Sf_b21 all0) Hc Sf_b21
  have Hc := CHv.keep K23 (allS (P := Safe Z consts_1 s.vm h21) Sf_b21 all0) Hc
  have Sf_b1 := Sf_b1'
  have Sf_b21 := Sf_b21'
  have S_C := own_stak K23 (allS (P := fun x => ∀ cell : Cell, (h21)[x]? = some cell → cell.vm.isStatics = false) (Exa.nostat E_b21) all0) S_C
  have S_F := own_stak K23 (allS (P := fun x => ∀ cell : Cell, (h21)[x]? = some cell → cell.vm.isStatics = false) (Exa.nostat E_b21) all0) S_F
  have S_uu := own_stak K23 (allS (P := fun x => ∀ cell : Cell, (h21)[x]? = some cell → cell.vm.isStatics = false) (Exa.nostat E_b21) all0) S_uu
  have S_ui := own_stak K23 (allS (P := fun x => ∀ cell : Cell, (h21)[x]? = some cell → cell.vm.isStatics = false) (Exa.nostat E_b21) all0) S_ui
  have S_ua := own_stak K23 (allS (P := fun x => ∀ cell : Cell, (h21)[x]? = some cell → cell.vm.isStatics = false) (Exa.nostat E_b21) all0) S_ua
  have S_su := own_stak K23 (allS (P := fun x => ∀ cell : Cell, (h21)[x]? = some cell → cell.vm.isStatics = false) (Exa.nostat E_b21) all0) S_su
  have S_sa := own_stak K23 (allS (P := fun x => ∀ cell : Cell, (h21)[x]? = some cell → cell.vm.isStatics = false) (Exa.nostat E_b21) all0) S_sa
  have E_uu := E_uu.keep K23
  have E_ua := E_ua.keep K23
  have E_b1 := E_b1.keep K23
  have V_b1 := V_b1.keep K23 (ninS ne_b1_b21 nin0)
  have V_pa := V_pa.keep K23 (ninS ne_pa_b21 nin0)
  have V_pb := V_pb.keep K23 (ninS ne_pb_b21 nin0)
  have V_pc := V_pc.keep K23 (ninS ne_pc_b21 nin0)
  have E_b21 := E_b21.keep K23
  have Zs24 := Nat.le_trans Zs22 K23.1
  have hk := Nat.le_trans hk K23.1
  refine GoW.st (S' := T23.setTop (mkF m 123 #[vj q0, .second, vi p1, vi p2, vi p3, vr b1, vr pa, vr pb, vr pc, vr b21, .unset, .unset, .unset, .unset, .unset, .unset, .unset, .unset, .unset, .unset, .unset] [.int 0, .ref pa, .ref b21])) (fun _ kk => st23.trans (XS.astore X23.here hx rfl (hb hby at_116) rfl rfl (l' := #[vj q0, .second, vi p1, vi p2, vi p3, vr b1, vr pa, vr pb, vr pc, vr b21, .unset, .unset, .unset, .unset, .unset, .unset, .unset, .unset, .unset, .unset, .unset]) rfl (XS.aload X23.here hx rfl (hb hby at_118) rfl rfl (XS.aload X23.here hx rfl (hb hby at_120) rfl rfl (XS.iconst X23.here hx rfl (hb hby at_122) kk))))) ?_
  obtain ⟨cl25, Ar25, qk25, S25, Ng25, H25, G25⟩ := (id V_pa)
  have hin25 : ¬ ((0 : Int32) < 0 ∨ cl25.slots.size ≤ ((0 : Int32)).toNatClampNeg) := inb_of S25 ⟨by decide, by decide⟩
  have hat25 : cl25.slots[((0 : Int32)).toNatClampNeg]? = some (.int pav1) := Has.at H25 hin25 rfl
  refine GoW.st (S' := T23.setTop (mkF m 127 #[vj q0, .second, vi p1, vi p2, vi p3, vr b1, vr pa, vr pb, vr pc, vr b21, .unset, .unset, .unset, .unset, .unset, .unset, .unset, .unset, .unset, .unset, .unset] [.int 1, .ref pa, .int pav1, .ref b21])) (fun _ kk => X23.iaload hx (j := (0 : Int32)) (v := (.int pav1)) Ar25.1 (State.isArrayOf_alike hZ.alike Ar25.2.1) Ar25.2.2 hin25 hat25 (g := (mkF m 123 #[vj q0, .second, vi p1, vi p2, vi p3, vr b1, vr pa, vr pb, vr pc, vr b21, .unset, .unset, .unset, .unset, .unset, .unset, .unset, .unset, .unset, .unset, .unset] [.int 0, .ref pa, .ref b21])) rfl rfl (hb hby at_123) _ (XS.aload X23.here hx rfl (hb hby at_124) rfl rfl (XS.iconst X23.here hx rfl (hb hby at_126) kk))) ?_
  obtain ⟨cl26, Ar26, qk26, S26, Ng26, H26, G26⟩ := (id V_pa)
  have hin26 : ¬ ((1 : Int32) < 0 ∨ cl26.slots.size ≤ ((1 : Int32)).toNatClampNeg) := inb_of S26 ⟨by decide, by decide⟩
  have hat26 : cl26.slots[((1 : Int32)).toNatClampNeg]? = some (.int pav2) := Has.at H26 hin26 rfl
  refine GoW.st (S' := T23.setTop (mkF m 131 #[vj q0, .second, vi p1, vi p2, vi p3, vr b1, vr pa, vr pb, vr pc, vr b21, .unset, .unset, .unset, .unset, .unset, .unset, .unset, .unset, .unset, .unset, .unset] [.int 2, .ref pa, .int pav2, .int pav1, .ref b21])) (fun _ kk => X23.iaload hx (j := (1 : Int32)) (v := (.int pav2)) Ar26.1 (State.isArrayOf_alike hZ.alike Ar26.2.1) Ar26.2.2 hin26 hat26 (g := (mkF m 127 #[vj q0, .second, vi p1, vi p2, vi p3, vr b1, vr pa, vr pb, vr pc, vr b21, .unset, .unset, .unset, .unset, .unset, .unset, .unset, .unset, .unset, .unset, .unset] [.int 1, .ref pa, .int pav1, .ref b21])) rfl rfl (hb hby at_127) _ (XS.aload X23.here hx rfl (hb hby at_128) rfl rfl (XS.iconst X23.here hx rfl (hb hby at_130) kk))) ?_
  obtain ⟨cl27, Ar27, qk27, S27, Ng27, H27, G27⟩ := (id V_pa)
  have hin27 : ¬ ((2 : Int32) < 0 ∨ cl27.slots.size ≤ ((2 : Int32)).toNatClampNeg) := inb_of S27 ⟨by decide, by decide⟩
  have hat27 : cl27.slots[((2 : Int32)).toNatClampNeg]? = some (.int pav3) := Has.at H27 hin27 rfl
  refine GoW.st (S' := T23.setTop (mkF m 135 #[vj q0, .second, vi p1, vi p2, vi p3, vr b1, vr pa, vr pb, vr pc, vr b21, .unset, .unset, .unset, .unset, .unset, .unset, .unset, .unset, .unset, .unset, .unset] [.int 3, .ref pa, .int pav3, .int pav2, .int pav1, .ref b21])) (fun _ kk => X23.iaload hx (j := (2 : Int32)) (v := (.int pav3)) Ar27.1 (State.isArrayOf_alike hZ.alike Ar27.2.1) Ar27.2.2 hin27 hat27 (g := (mkF m 131 #[vj q0, .second, vi p1, vi p2, vi p3, vr b1, vr pa, vr pb, vr pc, vr b21, .unset, .unset, .unset, .unset, .unset, .unset, .unset, .unset, .unset, .unset, .unset] [.int 2, .ref pa, .int pav2, .int pav1, .ref b21])) rfl rfl (hb hby at_131) _ (XS.aload X23.here hx rfl (hb hby at_132) rfl rfl (XS.iconst X23.here hx rfl (hb hby at_134) kk))) ?_
  obtain ⟨cl28, Ar28, qk28, S28, Ng28, H28, G28⟩ := (id V_pa)
  have hin28 : ¬ ((3 : Int32) < 0 ∨ cl28.slots.size ≤ ((3 : Int32)).toNatClampNeg) := inb_of S28 ⟨by decide, by decide⟩
  have hat28 : cl28.slots[((3 : Int32)).toNatClampNeg]? = some (.int pav4) := Has.at H28 hin28 rfl
  refine GoW.st (S' := T23.setTop (mkF m 139 #[vj q0, .second, vi p1, vi p2, vi p3, vr b1, vr pa, vr pb, vr pc, vr b21, .unset, .unset, .unset, .unset, .unset, .unset, .unset, .unset, .unset, .unset, .unset] [.int 4, .ref pa, .int pav4, .int pav3, .int pav2, .int pav1, .ref b21])) (fun _ kk => X23.iaload hx (j := (3 : Int32)) (v := (.int pav4)) Ar28.1 (State.isArrayOf_alike hZ.alike Ar28.2.1) Ar28.2.2 hin28 hat28 (g := (mkF m 135 #[vj q0, .second, vi p1, vi p2, vi p3, vr b1, vr pa, vr pb, vr pc, vr b21, .unset, .unset, .unset, .unset, .unset, .unset, .unset, .unset, .unset, .unset, .unset] [.int 3, .ref pa, .int pav3, .int pav2, .int pav1, .ref b21])) rfl rfl (hb hby at_135) _ (XS.aload X23.here hx rfl (hb hby at_136) rfl rfl (XS.iconst X23.here hx rfl (hb hby at_138) kk))) ?_
  obtain ⟨cl29, Ar29, qk29, S29, Ng29, H29, G29⟩ := (id V_pa)
  have hin29 : ¬ ((4 : Int32) < 0 ∨ cl29.slots.size ≤ ((4 : Int32)).toNatClampNeg) := inb_of S29 ⟨by decide, by decide⟩
  have hat29 : cl29.slots[((4 : Int32)).toNatClampNeg]? = some (.int pav5) := Has.at H29 hin29 rfl
  refine GoW.st (S' := T23.setTop (mkF m 140 #[vj q0, .second, vi p1, vi p2, vi p3, vr b1, vr pa, vr pb, vr pc, vr b21, .unset, .unset, .unset, .unset, .unset, .unset, .unset, .unset, .unset, .unset, .unset] [.int pav5, .int pav4, .int pav3, .int pav2, .int pav1, .ref b21])) (fun _ kk => X23.iaload hx (j := (4 : Int32)) (v := (.int pav5)) Ar29.1 (State.isArrayOf_alike hZ.alike Ar29.2.1) Ar29.2.2 hin29 hat29 (g := (mkF m 139 #[vj q0, .second, vi p1, vi p2, vi p3, vr b1, vr pa, vr pb, vr pc, vr b21, .unset, .unset, .unset, .unset, .unset, .unset, .unset, .unset, .unset, .unset, .unset] [.int 4, .ref pa, .int pav4, .int pav3, .int pav2, .int pav1, .ref b21])) rfl rfl (hb hby at_139) _ kk) ?_
  obtain ⟨cq30, kq30, q30a, q30b, q30c⟩ := isOf hZ rfl E_b21
  obtain ⟨_, _, ⟨T30, L30, k30, n30⟩, -, X30, ⟨Lc30, hQ30, l30, y30, z30⟩, st30⟩ := X23.virtualBack hx (y := mN1) (z := mN1) hown (mvT hZ (ow hw 50 rfl)) (mvT hZ (ow hw 51 rfl)) (notFace_of_selects (args := #[]) (mvT hZ (ow hw 53 rfl))) (mvT hZ (ow hw 53 rfl)) (mvT hZ (ow hw 52 rfl)) (by decide) (backOf (W := 0) (rmAd0 l Z az hw [] b21 pav1 pav2 pav3 pav4 pav5 b1 r_1 r_2 r_3 r_4 r_5 r_6 r_7 r_8 r_9 r_10 kr_1 kr_2 kr_3 kr_4 kr_5 kr_6 kr_7 kr_8 kr_9 kr_10 (0 : Int32) (0 : Int32) (0 : Int32) (0 : Int32) (0 : Int32) (0 : Int32) .null .null .null (0 : Int32) T23.heap n0 Zs24 PA hnd hg) hZ (ow hw 54 rfl) (ow hw 19 rfl) (by decide) (by decide)) q30a q30c (g := (mkF m 140 #[vj q0, .second, vi p1, vi p2, vi p3, vr b1, vr pa, vr pb, vr pc, vr b21, .unset, .unset, .unset, .unset, .unset, .unset, .unset, .unset, .unset, .unset, .unset] [.int pav5, .int pav4, .int pav3, .int pav2, .int pav1, .ref b21])) rfl (by rw [hml]; rfl) (Steps.refl _) (argsL := [.int pav1, .int pav2, .int pav3, .int pav4, .int pav5]) (rest := []) (lenOf pd_4 rfl) rfl (oW rfl rfl) (hb hby at_140) (fun _ _ => ⟨rfl, rfl, (by decide : 15 + 0 ≤ _), (by decide : 54 + 0 ≤ _)⟩)
  dsimp only [Pt.U, Pt.locs, Pt.cells, Pt.slots] at X30 l30 y30 z30 st30 hQ30
  rw [l30, y30, z30] at X30
  obtain ⟨hv30, N30q, K30, PAq30⟩ := hQ30
  subst hv30
  have N30 := Fr.app N23 N30q
  have fp31 := PAt.fp PA
  have Hc := CHv.keep K30 (fun x hx => FP.safe hZ.alike (fp31 x hx)) Hc
  have S_C := own_stak K30 (fun x hx => FP.nostat (fp31 x hx)) S_C
  have S_F := own_stak K30 (fun x hx => FP.nostat (fp31 x hx)) S_F
  have S_uu := own_stak K30 (fun x hx => FP.nostat (fp31 x hx)) S_uu
  have S_ui := own_stak K30 (fun x hx => FP.nostat (fp31 x hx)) S_ui
  have S_ua := own_stak K30 (fun x hx => FP.nostat (fp31 x hx)) S_ua
  have S_su := own_stak K30 (fun x hx => FP.nostat (fp31 x hx)) S_su
  have S_sa := own_stak K30 (fun x hx => FP.nostat (fp31 x hx)) S_sa
  have E_uu := E_uu.keep K30
  have E_ua := E_ua.keep K30
  have E_b1 := E_b1.keep K30
  have V_b1 := Arv.fpB K30 fp31 (ow hw 18 rfl) V_b1
  have V_pa := V_pa.keep K30 nin_pa
  have V_pb := V_pb.keep K30 nin_pb
  have V_pc := V_pc.keep K30 nin_pc
  have E_b21 := E_b21.keep K30
  have Zs32 := Nat.le_trans Zs24 K30.1
  have hk := Nat.le_trans hk K30.1
  have PA := PAq30
  refine GoW.st (S' := T30.setTop (mkF m 148 #[vj q0, .second, vi p1, vi p2, vi p3, vr b1, vr pa, vr pb, vr pc, vr b21, vi 0, .unset, .unset, .unset, .unset, .unset, .unset, .unset, .unset, .unset, .unset] [.int 0, .ref b21])) (fun _ kk => st30.trans (XS.istore X30.here hx rfl (hb hby at_143) rfl (l' := #[vj q0, .second, vi p1, vi p2, vi p3, vr b1, vr pa, vr pb, vr pc, vr b21, vi 0, .unset, .unset, .unset, .unset, .unset, .unset, .unset, .unset, .unset, .unset]) rfl (XS.aload X30.here hx rfl (hb hby at_145) rfl rfl (XS.iconst X30.here hx rfl (hb hby at_147) kk)))) ?_
  obtain ⟨b33, T33, h33, k33, v33, c33, X33, e33, E33, hS33, hk33, hZ33, ho33, E_b33, FC_b33, FV_b33, V_v33, -, -, Cr33, Li_b33, Sn33, st33⟩ := ldcCH (s := s.setVm s.vm) (vm0 := s.vm) X30 hx hZ hown (ow hw 57 rfl) (own_wS hw) rfl ((State.WarmedH.refl _).since _) (Nat.le_refl _) (own_EW hw) (List.mem_of_getElem? (i := 0) rfl) Hc (vs := ([] : List Int32).map .int) (z := (0 : Int32)) ⟨by decide, by decide⟩ (by decide) (by decide) (g := (mkF m 148 #[vj q0, .second, vi p1, vi p2, vi p3, vr b1, vr pa, vr pb, vr pc, vr b21, vi 0, .unset, .unset, .unset, .unset, .unset, .unset, .unset, .unset, .unset, .unset] [.int 0, .ref b21])) rfl (hb hby at_148) (n := 0) (by decide) (by decide) (by decide : 15 + 2 ≤ _) (by decide : 54 + 4 ≤ _)
  have X33 : Stand p l e _ (s.setVm T33.vm) m _ below meth c T33 _ _ _ := X33
  have Li_b33 : LitV Z T33.vm "com/example/grantbook/grantbook/licence/PlainAttributesAddPinLaw" 50 b33 := Li_b33
  have Hc := Cr33.1
  have S_C := S_C.ext E33
  have S_F := S_F.ext E33
  have S_uu := S_uu.ext E33
  have S_ui := S_ui.ext E33
  have S_ua := S_ua.ext E33
  have S_su := S_su.ext E33
  have S_sa := S_sa.ext E33
  have E_uu := E_uu.ext E33
  have E_ua := E_ua.ext E33
  have E_b1 := E_b1.ext E33
  have V_b1 := V_b1.ext E33
  have V_pa := V_pa.ext E33
  have V_pb := V_pb.ext E33
  have V_pc := V_pc.ext E33
  have E_b21 := E_b21.ext E33
  have PA := PAt.ext PA E33
  have Zs34 := Nat.le_trans Zs32 E33.1
  have hk := Nat.le_trans hk E33.1
  have hS := hS.trans (own_sinceM hS33 hk33) hk
  have hk := Nat.le_refl h33.size
  have hZ := hZ33
  have hown := ho33
  refine GoW.st (S' := T33.setTop (mkF m 150 #[vj q0, .second, vi p1, vi p2, vi p3, vr b1, vr pa, vr pb, vr pc, vr b21, vi 0, .unset, .unset, .unset, .unset, .unset, .unset, .unset, .unset, .unset, .unset] [.ref b33, .int 0, .ref b21])) st33 ?_
  obtain ⟨cq35, kq35, q35a, q35b, q35c⟩ := isOf hZ e33 E_b21
  obtain ⟨_, _, ⟨T35, L35, k35, n35⟩, -, X35, ⟨Lc35, hQ35, l35, y35, z35⟩, st35⟩ := X33.virtualBack hx (y := mN9) (z := mN9) hown (mvT hZ (ow hw 64 rfl)) (mvT hZ (ow hw 65 rfl)) (notFace_of_selects (args := #[]) (mvT hZ (ow hw 67 rfl))) (mvT hZ (ow hw 67 rfl)) (mvT hZ (ow hw 66 rfl)) (by decide) (backOf (W := 0) (rmTe l Z az hw [] b21 (0 : Int32) b33 b1 r_1 r_2 r_3 r_4 r_5 r_6 r_7 r_8 r_9 r_10 kr_1 kr_2 kr_3 kr_4 kr_5 kr_6 kr_7 kr_8 kr_9 kr_10 (1 : Int32) pav1 pav2 pav3 pav4 pav5 .null .null .null (0 : Int32) h33 n0 Zs34 PA hnd hg E_b33) hZ (ow hw 68 rfl) (ow hw 19 rfl) (by decide) (by decide)) q35a q35c (g := (mkF m 150 #[vj q0, .second, vi p1, vi p2, vi p3, vr b1, vr pa, vr pb, vr pc, vr b21, vi 0, .unset, .unset, .unset, .unset, .unset, .unset, .unset, .unset, .unset, .unset] [.ref b33, .int 0, .ref b21])) rfl (by rw [hml]; rfl) (Steps.refl _) (argsL := [.int 0, .ref b33]) (rest := []) (lenOf pd_5 rfl) rfl (oW rfl rfl) (hb hby at_150) (fun _ _ => ⟨rfl, e33, (by decide : 17 + 0 ≤ _), (by decide : 58 + 0 ≤ _)⟩)
  dsimp only [Pt.U, Pt.locs, Pt.cells, Pt.slots] at X35 l35 y35 z35 st35 hQ35
  rw [l35, y35, z35] at X35
  obtain ⟨hv35, N35q, K35, PAq35⟩ := hQ35
  subst hv35
  have N35 := Fr.app N30 N35q
  have fp36 := PAt.fp PA
  have Hc := CHv.keep K35 (fun x hx => FP.safe hZ.alike (fp36 x hx)) Hc
  have S_C := own_stak K35 (fun x hx => FP.nostat (fp36 x hx)) S_C
  have S_F := own_stak K35 (fun x hx => FP.nostat (fp36 x hx)) S_F
  have S_uu := own_stak K35 (fun x hx => FP.nostat (fp36 x hx)) S_uu
  have S_ui := own_stak K35 (fun x hx => FP.nostat (fp36 x hx)) S_ui
  have S_ua := own_stak K35 (fun x hx => FP.nostat (fp36 x hx)) S_ua
  have S_su := own_stak K35 (fun x hx => FP.nostat (fp36 x hx)) S_su
  have S_sa := own_stak K35 (fun x hx => FP.nostat (fp36 x hx)) S_sa
  have E_uu := E_uu.keep K35
  have E_ua := E_ua.keep K35
  have E_b1 := E_b1.keep K35
  have V_b1 := Arv.fpB K35 fp36 (ow hw 18 rfl) V_b1
  have V_pa := V_pa.keep K35 nin_pa
  have V_pb := V_pb.keep K35 nin_pb
  have V_pc := V_pc.keep K35 nin_pc
  have E_b21 := E_b21.keep K35
  have E_b33 := E_b33.keep K35
  have V_v33 := Arv.fpB K35 fp36 (ow hw 18 rfl) V_v33
  have Zs37 := Nat.le_trans Zs34 K35.1
  have hk := Nat.le_trans hk K35.1
  have PA := PAq35
  refine GoW.st (S' := T35.setTop (mkF m 156 #[vj q0, .second, vi p1, vi p2, vi p3, vr b1, vr pa, vr pb, vr pc, vr b21, vi 0, .unset, .unset, .unset, .unset, .unset, .unset, .unset, .unset, .unset, .unset] [.int 0, .ref b21])) (fun _ kk => st35.trans (XS.aload X35.here hx rfl (hb hby at_153) rfl rfl (XS.iconst X35.here hx rfl (hb hby at_155) kk))) ?_
  have hr := hr_pa_1
  obtain ⟨cq38, kq38, q38a, q38b, q38c⟩ := isOf hZ rfl E_b21
  obtain ⟨_, _, ⟨T38, L38, k38, n38⟩, -, X38, hS38, hg38, ⟨Lc38, hQ38, l38, y38, z38⟩, st38⟩ := X35.virtualBackS hx (y := mN4) (z := mN4) hown (mvT hZ (ow hw 72 rfl)) (mvT hZ (ow hw 73 rfl)) (notFace_of_selects (args := #[]) (mvT hZ (ow hw 75 rfl))) (mvT hZ (ow hw 75 rfl)) (mvT hZ (ow hw 74 rfl)) (by decide) (own_backS (W := 0) (P := PCW Z T35.heap) (rmGqName l Z az hw [] b21 (0 : Int32) b1 r_1 r_2 r_3 r_4 r_5 r_6 r_7 r_8 r_9 r_10 kr_1 kr_2 kr_3 kr_4 kr_5 kr_6 kr_7 kr_8 kr_9 kr_10 zc fm uu ui ua k1 6 bs (1 : Int32) pav1 pav2 pav3 pav4 pav5 .null .null T35.heap n0 Zs37 S_C hzc S_F hfm  S_uu S_ui S_ua nui nua nia S_su S_sa E_uu E_ua V_b1 hz hbs E_b1 hs6 PA hnd hg hr rfl) hZ (ow hw 76 rfl) (ow hw 19 rfl) (by decide) (by decide)) q38a q38c (g := (mkF m 156 #[vj q0, .second, vi p1, vi p2, vi p3, vr b1, vr pa, vr pb, vr pc, vr b21, vi 0, .unset, .unset, .unset, .unset, .unset, .unset, .unset, .unset, .unset, .unset] [.int 0, .ref b21])) rfl (by rw [hml]; rfl) (Steps.refl _) (argsL := [.int 0]) (rest := []) (lenOf pd_6 rfl) rfl (oW rfl rfl) (hb hby at_156) (fun vmq hvq => ⟨rfl, rfl, (own_chat hZ hvq (own_EW hw) Hc).1, (by decide : 17 + 3 ≤ _), (by decide : 58 + 10 ≤ _)⟩)
  dsimp only [Pt.U, Pt.locs, Pt.cells, Pt.slots] at X38 l38 y38 z38 st38 hQ38 hS38 hg38
  rw [l38, y38, z38] at X38
  have Li_b33 := LitV.stays (s := s) Li_b33 hS38.1
  obtain ⟨X38, hS, hZ, hown⟩ := rebS hS (own_hk rfl hk) X38 hS38 hg38 hZ hown
  obtain ⟨s38, rfl, N38q, K38, Hc38, PAq38, CS38⟩ := hQ38
  have N38 := Fr.app N35 N38q
  have fp39 := PAt.fp PA
  have S_C := own_stak K38 (fun x hx => FP.nostat (fp39 x hx)) S_C
  have S_F := own_stak K38 (fun x hx => FP.nostat (fp39 x hx)) S_F
  have S_uu := own_stak K38 (fun x hx => FP.nostat (fp39 x hx)) S_uu
  have S_ui := own_stak K38 (fun x hx => FP.nostat (fp39 x hx)) S_ui
  have S_ua := own_stak K38 (fun x hx => FP.nostat (fp39 x hx)) S_ua
  have S_su := own_stak K38 (fun x hx => FP.nostat (fp39 x hx)) S_su
  have S_sa := own_stak K38 (fun x hx => FP.nostat (fp39 x hx)) S_sa
  have E_uu := E_uu.keep K38
  have E_ua := E_ua.keep K38
  have E_b1 := E_b1.keep K38
  have V_b1 := Arv.fpB K38 fp39 (ow hw 18 rfl) V_b1
  have V_pa := V_pa.keep K38 nin_pa
  have V_pb := V_pb.keep K38 nin_pb
  have V_pc := V_pc.keep K38 nin_pc
  have E_b21 := E_b21.keep K38
  have E_b33 := E_b33.keep K38
  have V_v33 := Arv.fpB K38 fp39 (ow hw 18 rfl) V_v33
  have Zs40 := Nat.le_trans Zs37 K38.1
  have hk := Nat.le_trans hk K38.1
  have Hc := Hc38
  have Ec38 := CS38.1
  have PA := PAq38
  have hk : T38.heap.size ≤ (T38.heap).size := Nat.le_of_eq (congrArg Array.size (show T38.heap = T38.heap from rfl))
  refine GoW.st (S' := T38.setTop (mkF m 164 #[vj q0, .second, vi p1, vi p2, vi p3, vr b1, vr pa, vr pb, vr pc, vr b21, vi 0, vr s38, .unset, .unset, .unset, .unset, .unset, .unset, .unset, .unset, .unset] [.int 0, .ref b21])) (fun _ kk => st38.trans (XS.astore X38.here hx rfl (hb hby at_159) rfl rfl (l' := #[vj q0, .second, vi p1, vi p2, vi p3, vr b1, vr pa, vr pb, vr pc, vr b21, vi 0, vr s38, .unset, .unset, .unset, .unset, .unset, .unset, .unset, .unset, .unset]) rfl (XS.aload X38.here hx rfl (hb hby at_161) rfl rfl (XS.iconst X38.here hx rfl (hb hby at_163) kk)))) ?_
  have hr := hr_pa_2
  obtain ⟨cq41, kq41, q41a, q41b, q41c⟩ := isOf hZ rfl E_b21
  obtain ⟨_, _, ⟨T41, L41, k41, n41⟩, -, X41, hS41, hg41, ⟨Lc41, hQ41, l41, y41, z41⟩, st41⟩ := X38.virtualBackS hx (y := mN3) (z := mN3) hown (mvT hZ (ow hw 143 rfl)) (mvT hZ (ow hw 144 rfl)) (notFace_of_selects (args := #[]) (mvT hZ (ow hw 146 rfl))) (mvT hZ (ow hw 146 rfl)) (mvT hZ (ow hw 145 rfl)) (by decide) (own_backS (W := 0) (P := PCW Z T38.heap) (rmGlocalName l Z az hw [] b21 (0 : Int32) b1 r_1 r_2 r_3 r_4 r_5 r_6 r_7 r_8 r_9 r_10 kr_1 kr_2 kr_3 kr_4 kr_5 kr_6 kr_7 kr_8 kr_9 kr_10 zc fm uu ui ua k1 6 bs (1 : Int32) pav1 pav2 pav3 pav4 pav5 (.ref s38) .null T38.heap n0 Zs40 S_C hzc S_F hfm  S_uu S_ui S_ua nui nua nia S_su S_sa E_uu E_ua V_b1 hz hbs E_b1 hs6 PA hnd hg hr rfl) hZ (ow hw 147 rfl) (ow hw 19 rfl) (by decide) (by decide)) q41a q41c (g := (mkF m 164 #[vj q0, .second, vi p1, vi p2, vi p3, vr b1, vr pa, vr pb, vr pc, vr b21, vi 0, vr s38, .unset, .unset, .unset, .unset, .unset, .unset, .unset, .unset, .unset] [.int 0, .ref b21])) rfl (by rw [hml]; rfl) (Steps.refl _) (argsL := [.int 0]) (rest := []) (lenOf pd_6 rfl) rfl (oW rfl rfl) (hb hby at_164) (fun vmq hvq => ⟨rfl, rfl, (own_chat hZ hvq (own_EW hw) Hc).1, (by decide : 20 + 3 ≤ _), (by decide : 68 + 10 ≤ _)⟩)
  dsimp only [Pt.U, Pt.locs, Pt.cells, Pt.slots] at X41 l41 y41 z41 st41 hQ41 hS41 hg41
  rw [l41, y41, z41] at X41
  have Li_b33 := LitV.stays (s := s) Li_b33 hS41.1
  obtain ⟨X41, hS, hZ, hown⟩ := rebS hS (own_hk rfl hk) X41 hS41 hg41 hZ hown
  obtain ⟨s41, rfl, N41q, K41, Hc41, PAq41, CS41⟩ := hQ41
  have N41 := Fr.app N38 N41q
  have fp42 := PAt.fp PA
  have S_C := own_stak K41 (fun x hx => FP.nostat (fp42 x hx)) S_C
  have S_F := own_stak K41 (fun x hx => FP.nostat (fp42 x hx)) S_F
  have S_uu := own_stak K41 (fun x hx => FP.nostat (fp42 x hx)) S_uu
  have S_ui := own_stak K41 (fun x hx => FP.nostat (fp42 x hx)) S_ui
  have S_ua := own_stak K41 (fun x hx => FP.nostat (fp42 x hx)) S_ua
  have S_su := own_stak K41 (fun x hx => FP.nostat (fp42 x hx)) S_su
  have S_sa := own_stak K41 (fun x hx => FP.nostat (fp42 x hx)) S_sa
  have E_uu := E_uu.keep K41
  have E_ua := E_ua.keep K41
  have E_b1 := E_b1.keep K41
  have V_b1 := Arv.fpB K41 fp42 (ow hw 18 rfl) V_b1
  have V_pa := V_pa.keep K41 nin_pa
  have V_pb := V_pb.keep K41 nin_pb
  have V_pc := V_pc.keep K41 nin_pc
  have E_b21 := E_b21.keep K41
  have E_b33 := E_b33.keep K41
  have V_v33 := Arv.fpB K41 fp42 (ow hw 18 rfl) V_v33
  have Ec38 := Ec38.keep K41
  have CS38 := CSt.fp K41 fp42 (ow hw 59 rfl) (ow hw 18 rfl) CS38
  have Zs43 := Nat.le_trans Zs40 K41.1
  have hk := Nat.le_trans hk K41.1
  have Hc := Hc41
  have Ec41 := CS41.1
  have PA := PAq41
  have hk : T41.heap.size ≤ (T41.heap).size := Nat.le_of_eq (congrArg Array.size (show T41.heap = T41.heap from rfl))
  refine GoW.st (S' := T41.setTop (mkF m 172 #[vj q0, .second, vi p1, vi p2, vi p3, vr b1, vr pa, vr pb, vr pc, vr b21, vi 0, vr s38, vr s41, .unset, .unset, .unset, .unset, .unset, .unset, .unset, .unset] [.int 0, .ref b21])) (fun _ kk => st41.trans (XS.astore X41.here hx rfl (hb hby at_167) rfl rfl (l' := #[vj q0, .second, vi p1, vi p2, vi p3, vr b1, vr pa, vr pb, vr pc, vr b21, vi 0, vr s38, vr s41, .unset, .unset, .unset, .unset, .unset, .unset, .unset, .unset]) rfl (XS.aload X41.here hx rfl (hb hby at_169) rfl rfl (XS.iconst X41.here hx rfl (hb hby at_171) kk)))) ?_
  have hr := hr_pa_4
  obtain ⟨cq44, kq44, q44a, q44b, q44c⟩ := isOf hZ rfl E_b21
  obtain ⟨_, _, ⟨T44, L44, k44, n44⟩, -, X44, hS44, hg44, ⟨Lc44, hQ44, l44, y44, z44⟩, st44⟩ := X41.virtualBackS hx (y := mN5) (z := mN5) hown (mvT hZ (ow hw 152 rfl)) (mvT hZ (ow hw 153 rfl)) (notFace_of_selects (args := #[]) (mvT hZ (ow hw 155 rfl))) (mvT hZ (ow hw 155 rfl)) (mvT hZ (ow hw 154 rfl)) (by decide) (own_backS (W := 0) (P := PCW Z T41.heap) (rmGvalue l Z az hw [] b21 (0 : Int32) b1 r_1 r_2 r_3 r_4 r_5 r_6 r_7 r_8 r_9 r_10 kr_1 kr_2 kr_3 kr_4 kr_5 kr_6 kr_7 kr_8 kr_9 kr_10 zc fm uu ui ua k1 6 bs (1 : Int32) pav1 pav2 pav3 pav4 pav5 (.ref s38) (.ref s41) T41.heap n0 Zs43 S_C hzc S_F hfm  S_uu S_ui S_ua nui nua nia S_su S_sa E_uu E_ua V_b1 hz hbs E_b1 hs6 PA hnd hg hr rfl) hZ (ow hw 156 rfl) (ow hw 19 rfl) (by decide) (by decide)) q44a q44c (g := (mkF m 172 #[vj q0, .second, vi p1, vi p2, vi p3, vr b1, vr pa, vr pb, vr pc, vr b21, vi 0, vr s38, vr s41, .unset, .unset, .unset, .unset, .unset, .unset, .unset, .unset] [.int 0, .ref b21])) rfl (by rw [hml]; rfl) (Steps.refl _) (argsL := [.int 0]) (rest := []) (lenOf pd_6 rfl) rfl (oW rfl rfl) (hb hby at_172) (fun vmq hvq => ⟨rfl, rfl, (own_chat hZ hvq (own_EW hw) Hc).1, (by decide : 23 + 3 ≤ _), (by decide : 78 + 10 ≤ _)⟩)
  dsimp only [Pt.U, Pt.locs, Pt.cells, Pt.slots] at X44 l44 y44 z44 st44 hQ44 hS44 hg44
  rw [l44, y44, z44] at X44
  have Li_b33 := LitV.stays (s := s) Li_b33 hS44.1
  obtain ⟨X44, hS, hZ, hown⟩ := rebS hS (own_hk rfl hk) X44 hS44 hg44 hZ hown
  obtain ⟨s44, rfl, N44q, K44, Hc44, PAq44, CS44⟩ := hQ44
  have N44 := Fr.app N41 N44q
  have fp45 := PAt.fp PA
  have S_C := own_stak K44 (fun x hx => FP.nostat (fp45 x hx)) S_C
  have S_F := own_stak K44 (fun x hx => FP.nostat (fp45 x hx)) S_F
  have S_uu := own_stak K44 (fun x hx => FP.nostat (fp45 x hx)) S_uu
  have S_ui := own_stak K44 (fun x hx => FP.nostat (fp45 x hx)) S_ui
  have S_ua := own_stak K44 (fun x hx => FP.nostat (fp45 x hx)) S_ua
  have S_su := own_stak K44 (fun x hx => FP.nostat (fp45 x hx)) S_su
  have S_sa := own_stak K44 (fun x hx => FP.nostat (fp45 x hx)) S_sa
  have E_uu := E_uu.keep K44
  have E_ua := E_ua.keep K44
  have E_b1 := E_b1.keep K44
  have V_b1 := Arv.fpB K44 fp45 (ow hw 18 rfl) V_b1
  have V_pa := V_pa.keep K44 nin_pa
  have V_pb := V_pb.keep K44 nin_pb
  have V_pc := V_pc.keep K44 nin_pc
  have E_b21 := E_b21.keep K44
  have E_b33 := E_b33.keep K44
  have V_v33 := Arv.fpB K44 fp45 (ow hw 18 rfl) V_v33
  have Ec38 := Ec38.keep K44
  have CS38 := CSt.fp K44 fp45 (ow hw 59 rfl) (ow hw 18 rfl) CS38
  have Ec41 := Ec41.keep K44
  have CS41 := CSt.fp K44 fp45 (ow hw 59 rfl) (ow hw 18 rfl) CS41
  have Zs46 := Nat.le_trans Zs43 K44.1
  have hk := Nat.le_trans hk K44.1
  have Hc := Hc44
  have Ec44 := CS44.1
  have PA := PAq44
  have hk : T44.heap.size ≤ (T44.heap).size := Nat.le_of_eq (congrArg Array.size (show T44.heap = T44.heap from rfl))
  refine GoW.st (S' := T44.setTop (mkF m 186 #[vj q0, .second, vi p1, vi p2, vi p3, vr b1, vr pa, vr pb, vr pc, vr b21, vi 0, vr s38, vr s41, vr s44, .unset, .unset, .unset, .unset, .unset, .unset, .unset] [.ref b1, .ref s38])) (fun _ kk => st44.trans (XS.astore X44.here hx rfl (hb hby at_175) rfl rfl (l' := #[vj q0, .second, vi p1, vi p2, vi p3, vr b1, vr pa, vr pb, vr pc, vr b21, vi 0, vr s38, vr s41, vr s44, .unset, .unset, .unset, .unset, .unset, .unset, .unset]) rfl (XS.iload X44.here hx rfl (hb hby at_177) rfl (XS.ifNo X44.here hx rfl (hb hby at_179) rfl ((if0 _ _).trans (teq (by decide : (0 : Int32) = (0 : Int32))).2) (XS.aload X44.here hx rfl (hb hby at_182) rfl rfl (XS.aload X44.here hx rfl (hb hby at_184) rfl rfl kk)))))) ?_
  refine GoW.st (S' := T44.setTop (mkF m 189 #[vj q0, .second, vi p1, vi p2, vi p3, vr b1, vr pa, vr pb, vr pc, vr b21, vi 0, vr s38, vr s41, vr s44, .unset, .unset, .unset, .unset, .unset, .unset, .unset] [.int 0, .ref pa, .ref b1, .ref s38])) (fun _ kk => XS.aload X44.here hx rfl (hb hby at_186) rfl rfl (XS.iconst X44.here hx rfl (hb hby at_188) kk)) ?_
  obtain ⟨cl47, Ar47, qk47, S47, Ng47, H47, G47⟩ := (id V_pa)
  have hin47 : ¬ ((0 : Int32) < 0 ∨ cl47.slots.size ≤ ((0 : Int32)).toNatClampNeg) := inb_of S47 ⟨by decide, by decide⟩
  have hat47 : cl47.slots[((0 : Int32)).toNatClampNeg]? = some (.int pav1) := Has.at H47 hin47 rfl
  refine GoW.st (S' := T44.setTop (mkF m 193 #[vj q0, .second, vi p1, vi p2, vi p3, vr b1, vr pa, vr pb, vr pc, vr b21, vi 0, vr s38, vr s41, vr s44, .unset, .unset, .unset, .unset, .unset, .unset, .unset] [.int 2, .ref pa, .int pav1, .ref b1, .ref s38])) (fun _ kk => X44.iaload hx (j := (0 : Int32)) (v := (.int pav1)) Ar47.1 (State.isArrayOf_alike hZ.alike Ar47.2.1) Ar47.2.2 hin47 hat47 (g := (mkF m 189 #[vj q0, .second, vi p1, vi p2, vi p3, vr b1, vr pa, vr pb, vr pc, vr b21, vi 0, vr s38, vr s41, vr s44, .unset, .unset, .unset, .unset, .unset, .unset, .unset] [.int 0, .ref pa, .ref b1, .ref s38])) rfl rfl (hb hby at_189) _ (XS.aload X44.here hx rfl (hb hby at_190) rfl rfl (XS.iconst X44.here hx rfl (hb hby at_192) kk))) ?_
  obtain ⟨cl48, Ar48, qk48, S48, Ng48, H48, G48⟩ := (id V_pa)
  have hin48 : ¬ ((2 : Int32) < 0 ∨ cl48.slots.size ≤ ((2 : Int32)).toNatClampNeg) := inb_of S48 ⟨by decide, by decide⟩
  have hat48 : cl48.slots[((2 : Int32)).toNatClampNeg]? = some (.int pav3) := Has.at H48 hin48 rfl
  refine GoW.st (S' := T44.setTop (mkF m 194 #[vj q0, .second, vi p1, vi p2, vi p3, vr b1, vr pa, vr pb, vr pc, vr b21, vi 0, vr s38, vr s41, vr s44, .unset, .unset, .unset, .unset, .unset, .unset, .unset] [.int pav3, .int pav1, .ref b1, .ref s38])) (fun _ kk => X44.iaload hx (j := (2 : Int32)) (v := (.int pav3)) Ar48.1 (State.isArrayOf_alike hZ.alike Ar48.2.1) Ar48.2.2 hin48 hat48 (g := (mkF m 193 #[vj q0, .second, vi p1, vi p2, vi p3, vr b1, vr pa, vr pb, vr pc, vr b21, vi 0, vr s38, vr s41, vr s44, .unset, .unset, .unset, .unset, .unset, .unset, .unset] [.int 2, .ref pa, .int pav1, .ref b1, .ref s38])) rfl rfl (hb hby at_193) _ kk) ?_
  obtain ⟨_, _, ⟨T49, L49, k49, n49⟩, -, X49, ⟨Lc49, hQ49, l49, y49, z49⟩, st49⟩ := Jvm.LawKit.callS X44 hx (y := mN15) hown (mvT hZ (ow hw 165 rfl)) (mvT hZ (ow hw 166 rfl)) (mvT hZ (ow hw 4 rfl)) (mvT hZ (ow hw 167 rfl)) (by decide) (backOf (W := 0) (rmSa l Z az hw [] s38 b1 pav1 pav3 zc fm k1 6 bs T44.heap n0 Zs46 S_C hzc S_F hfm  V_b1 hz hbs CS38 hr_pa_1) hZ (ow hw 167 rfl) (ow hw 4 rfl) (by decide) (by decide)) (g := (mkF m 194 #[vj q0, .second, vi p1, vi p2, vi p3, vr b1, vr pa, vr pb, vr pc, vr b21, vi 0, vr s38, vr s41, vr s44, .unset, .unset, .unset, .unset, .unset, .unset, .unset] [.int pav3, .int pav1, .ref b1, .ref s38])) rfl (by rw [hml]; rfl) (argsL := [.ref s38, .ref b1, .int pav1, .int pav3]) (rest := []) (lenOf pd_19 rfl) rfl (oW rfl rfl) (hb hby at_194) (fun _ _ => ⟨rfl, rfl, (by decide : 26 + 0 ≤ _), (by decide : 88 + 0 ≤ _)⟩)
  dsimp only [Pt.U, Pt.locs, Pt.cells, Pt.slots] at X49 l49 y49 z49 st49 hQ49
  rw [l49, y49, z49] at X49
  obtain ⟨hv49, N49q, e49⟩ := hQ49
  subst hv49
  have N49 := Fr.app N44 N49q
  refine GoW.st (S' := T49.setTop (mkF m 207 #[vj q0, .second, vi p1, vi p2, vi p3, vr b1, vr pa, vr pb, vr pc, vr b21, vi 0, vr s38, vr s41, vr s44, .unset, .unset, .unset, .unset, .unset, .unset, .unset] [.int 1, .ref pa, .ref b1, .ref s41])) (fun _ kk => st49 _ (XS.ifNo X49.here hx rfl (hb hby at_197) rfl ((if0 _ _).trans (feq (by decide : ¬ ((1 : Int32) = (0 : Int32)))).1) (XS.aload X49.here hx rfl (hb hby at_200) rfl rfl (XS.aload X49.here hx rfl (hb hby at_202) rfl rfl (XS.aload X49.here hx rfl (hb hby at_204) rfl rfl (XS.iconst X49.here hx rfl (hb hby at_206) kk)))))) ?_
  obtain ⟨cl50, Ar50, qk50, S50, Ng50, H50, G50⟩ := (id V_pa)
  have hin50 : ¬ ((1 : Int32) < 0 ∨ cl50.slots.size ≤ ((1 : Int32)).toNatClampNeg) := inb_of S50 ⟨by decide, by decide⟩
  have hat50 : cl50.slots[((1 : Int32)).toNatClampNeg]? = some (.int pav2) := Has.at H50 hin50 rfl
  refine GoW.st (S' := T49.setTop (mkF m 211 #[vj q0, .second, vi p1, vi p2, vi p3, vr b1, vr pa, vr pb, vr pc, vr b21, vi 0, vr s38, vr s41, vr s44, .unset, .unset, .unset, .unset, .unset, .unset, .unset] [.int 2, .ref pa, .int pav2, .ref b1, .ref s41])) (fun _ kk => X49.iaload hx (j := (1 : Int32)) (v := (.int pav2)) (by rw [e49]; exact Ar50.1) (State.isArrayOf_alike hZ.alike Ar50.2.1) Ar50.2.2 hin50 hat50 (g := (mkF m 207 #[vj q0, .second, vi p1, vi p2, vi p3, vr b1, vr pa, vr pb, vr pc, vr b21, vi 0, vr s38, vr s41, vr s44, .unset, .unset, .unset, .unset, .unset, .unset, .unset] [.int 1, .ref pa, .ref b1, .ref s41])) rfl rfl (hb hby at_207) _ (XS.aload X49.here hx rfl (hb hby at_208) rfl rfl (XS.iconst X49.here hx rfl (hb hby at_210) kk))) ?_
  obtain ⟨cl51, Ar51, qk51, S51, Ng51, H51, G51⟩ := (id V_pa)
  have hin51 : ¬ ((2 : Int32) < 0 ∨ cl51.slots.size ≤ ((2 : Int32)).toNatClampNeg) := inb_of S51 ⟨by decide, by decide⟩
  have hat51 : cl51.slots[((2 : Int32)).toNatClampNeg]? = some (.int pav3) := Has.at H51 hin51 rfl
  refine GoW.st (S' := T49.setTop (mkF m 212 #[vj q0, .second, vi p1, vi p2, vi p3, vr b1, vr pa, vr pb, vr pc, vr b21, vi 0, vr s38, vr s41, vr s44, .unset, .unset, .unset, .unset, .unset, .unset, .unset] [.int pav3, .int pav2, .ref b1, .ref s41])) (fun _ kk => X49.iaload hx (j := (2 : Int32)) (v := (.int pav3)) (by rw [e49]; exact Ar51.1) (State.isArrayOf_alike hZ.alike Ar51.2.1) Ar51.2.2 hin51 hat51 (g := (mkF m 211 #[vj q0, .second, vi p1, vi p2, vi p3, vr b1, vr pa, vr pb, vr pc, vr b21, vi 0, vr s38, vr s41, vr s44, .unset, .unset, .unset, .unset, .unset, .unset, .unset] [.int 2, .ref pa, .int pav2, .ref b1, .ref s41])) rfl rfl (hb hby at_211) _ kk) ?_
  obtain ⟨_, _, ⟨T52, L52, k52, n52⟩, -, X52, ⟨Lc52, hQ52, l52, y52, z52⟩, st52⟩ := Jvm.LawKit.callS X49 hx (y := mN15) hown (mvT hZ (ow hw 165 rfl)) (mvT hZ (ow hw 166 rfl)) (mvT hZ (ow hw 4 rfl)) (mvT hZ (ow hw 167 rfl)) (by decide) (backOf (W := 0) (rmSa l Z az hw [] s41 b1 pav2 pav3 zc fm k1 6 bs T44.heap n0 Zs46 S_C hzc S_F hfm  V_b1 hz hbs CS41 hr_pa_2) hZ (ow hw 167 rfl) (ow hw 4 rfl) (by decide) (by decide)) (g := (mkF m 212 #[vj q0, .second, vi p1, vi p2, vi p3, vr b1, vr pa, vr pb, vr pc, vr b21, vi 0, vr s38, vr s41, vr s44, .unset, .unset, .unset, .unset, .unset, .unset, .unset] [.int pav3, .int pav2, .ref b1, .ref s41])) rfl (by rw [hml]; rfl) (argsL := [.ref s41, .ref b1, .int pav2, .int pav3]) (rest := []) (lenOf pd_19 rfl) rfl (oW rfl rfl) (hb hby at_212) (fun _ _ => ⟨rfl, e49, (by decide : 26 + 0 ≤ _), (by decide : 88 + 0 ≤ _)⟩)
  dsimp only [Pt.U, Pt.locs, Pt.cells, Pt.slots] at X52 l52 y52 z52 st52 hQ52
  rw [l52, y52, z52] at X52
  obtain ⟨hv52, N52q, e52⟩ := hQ52
  subst hv52
  have N52 := Fr.app N49 N52q
  refine GoW.st (S' := T52.setTop (mkF m 225 #[vj q0, .second, vi p1, vi p2, vi p3, vr b1, vr pa, vr pb, vr pc, vr b21, vi 0, vr s38, vr s41, vr s44, .unset, .unset, .unset, .unset, .unset, .unset, .unset] [.int 3, .ref pa, .ref b1, .ref s44])) (fun _ kk => st52 _ (XS.ifNo X52.here hx rfl (hb hby at_215) rfl ((if0 _ _).trans (feq (by decide : ¬ ((1 : Int32) = (0 : Int32)))).1) (XS.aload X52.here hx rfl (hb hby at_218) rfl rfl (XS.aload X52.here hx rfl (hb hby at_220) rfl rfl (XS.aload X52.here hx rfl (hb hby at_222) rfl rfl (XS.iconst X52.here hx rfl (hb hby at_224) kk)))))) ?_
  obtain ⟨cl53, Ar53, qk53, S53, Ng53, H53, G53⟩ := (id V_pa)
  have hin53 : ¬ ((3 : Int32) < 0 ∨ cl53.slots.size ≤ ((3 : Int32)).toNatClampNeg) := inb_of S53 ⟨by decide, by decide⟩
  have hat53 : cl53.slots[((3 : Int32)).toNatClampNeg]? = some (.int pav4) := Has.at H53 hin53 rfl
  refine GoW.st (S' := T52.setTop (mkF m 229 #[vj q0, .second, vi p1, vi p2, vi p3, vr b1, vr pa, vr pb, vr pc, vr b21, vi 0, vr s38, vr s41, vr s44, .unset, .unset, .unset, .unset, .unset, .unset, .unset] [.int 4, .ref pa, .int pav4, .ref b1, .ref s44])) (fun _ kk => X52.iaload hx (j := (3 : Int32)) (v := (.int pav4)) (by rw [e52]; exact Ar53.1) (State.isArrayOf_alike hZ.alike Ar53.2.1) Ar53.2.2 hin53 hat53 (g := (mkF m 225 #[vj q0, .second, vi p1, vi p2, vi p3, vr b1, vr pa, vr pb, vr pc, vr b21, vi 0, vr s38, vr s41, vr s44, .unset, .unset, .unset, .unset, .unset, .unset, .unset] [.int 3, .ref pa, .ref b1, .ref s44])) rfl rfl (hb hby at_225) _ (XS.aload X52.here hx rfl (hb hby at_226) rfl rfl (XS.iconst X52.here hx rfl (hb hby at_228) kk))) ?_
  obtain ⟨cl54, Ar54, qk54, S54, Ng54, H54, G54⟩ := (id V_pa)
  have hin54 : ¬ ((4 : Int32) < 0 ∨ cl54.slots.size ≤ ((4 : Int32)).toNatClampNeg) := inb_of S54 ⟨by decide, by decide⟩
  have hat54 : cl54.slots[((4 : Int32)).toNatClampNeg]? = some (.int pav5) := Has.at H54 hin54 rfl
  refine GoW.st (S' := T52.setTop (mkF m 230 #[vj q0, .second, vi p1, vi p2, vi p3, vr b1, vr pa, vr pb, vr pc, vr b21, vi 0, vr s38, vr s41, vr s44, .unset, .unset, .unset, .unset, .unset, .unset, .unset] [.int pav5, .int pav4, .ref b1, .ref s44])) (fun _ kk => X52.iaload hx (j := (4 : Int32)) (v := (.int pav5)) (by rw [e52]; exact Ar54.1) (State.isArrayOf_alike hZ.alike Ar54.2.1) Ar54.2.2 hin54 hat54 (g := (mkF m 229 #[vj q0, .second, vi p1, vi p2, vi p3, vr b1, vr pa, vr pb, vr pc, vr b21, vi 0, vr s38, vr s41, vr s44, .unset, .unset, .unset, .unset, .unset, .unset, .unset] [.int 4, .ref pa, .int pav4, .ref b1, .ref s44])) rfl rfl (hb hby at_229) _ kk) ?_
  obtain ⟨_, _, ⟨T55, L55, k55, n55⟩, -, X55, ⟨Lc55, hQ55, l55, y55, z55⟩, st55⟩ := Jvm.LawKit.callS X52 hx (y := mN15) hown (mvT hZ (ow hw 165 rfl)) (mvT hZ (ow hw 166 rfl)) (mvT hZ (ow hw 4 rfl)) (mvT hZ (ow hw 167 rfl)) (by decide) (backOf (W := 0) (rmSa l Z az hw [] s44 b1 pav4 pav5 zc fm k1 6 bs T44.heap n0 Zs46 S_C hzc S_F hfm  V_b1 hz hbs CS44 hr_pa_4) hZ (ow hw 167 rfl) (ow hw 4 rfl) (by decide) (by decide)) (g := (mkF m 230 #[vj q0, .second, vi p1, vi p2, vi p3, vr b1, vr pa, vr pb, vr pc, vr b21, vi 0, vr s38, vr s41, vr s44, .unset, .unset, .unset, .unset, .unset, .unset, .unset] [.int pav5, .int pav4, .ref b1, .ref s44])) rfl (by rw [hml]; rfl) (argsL := [.ref s44, .ref b1, .int pav4, .int pav5]) (rest := []) (lenOf pd_19 rfl) rfl (oW rfl rfl) (hb hby at_230) (fun _ _ => ⟨rfl, e52, (by decide : 26 + 0 ≤ _), (by decide : 88 + 0 ≤ _)⟩)
  dsimp only [Pt.U, Pt.locs, Pt.cells, Pt.slots] at X55 l55 y55 z55 st55 hQ55
  rw [l55, y55, z55] at X55
  obtain ⟨hv55, N55q, e55⟩ := hQ55
  subst hv55
  have N55 := Fr.app N52 N55q
  refine GoW.st (S' := T55.setTop (mkF m 245 #[vj q0, .second, vi p1, vi p2, vi p3, vr b1, vr pa, vr pb, vr pc, vr b21, vi 0, vr s38, vr s41, vr s44, vi 1, .unset, .unset, .unset, .unset, .unset, .unset] [.ref b21])) (fun _ kk => st55 _ (XS.ifNo X55.here hx rfl (hb hby at_233) rfl ((if0 _ _).trans (feq (by decide : ¬ ((1 : Int32) = (0 : Int32)))).1) (XS.iconst X55.here hx rfl (hb hby at_236) (XS.goto X55.here hx rfl (pc0 := 237) (pc' := 241) rfl (hb hby at_237) (by decide) (by decide) (XS.istore X55.here hx rfl (hb hby at_241) rfl (l' := #[vj q0, .second, vi p1, vi p2, vi p3, vr b1, vr pa, vr pb, vr pc, vr b21, vi 0, vr s38, vr s41, vr s44, vi 1, .unset, .unset, .unset, .unset, .unset, .unset]) rfl (XS.aload X55.here hx rfl (hb hby at_243) rfl rfl kk)))))) ?_
  obtain ⟨cq56, kq56, q56a, q56b, q56c⟩ := isOf hZ e55 E_b21
  obtain ⟨_, _, ⟨T56, L56, k56, n56⟩, -, X56, ⟨Lc56, hQ56, l56, y56, z56⟩, st56⟩ := X55.virtualBack hx (y := mN2) (z := mN2) hown (mvT hZ (ow hw 201 rfl)) (mvT hZ (ow hw 202 rfl)) (notFace_of_selects (args := #[]) (mvT hZ (ow hw 204 rfl))) (mvT hZ (ow hw 204 rfl)) (mvT hZ (ow hw 203 rfl)) (by decide) (backOf (W := 0) (rmCx l Z az hw [] b21 b1 r_1 r_2 r_3 r_4 r_5 r_6 r_7 r_8 r_9 r_10 kr_1 kr_2 kr_3 kr_4 kr_5 kr_6 kr_7 kr_8 kr_9 kr_10 (1 : Int32) (1 : Int32) pav1 pav2 pav3 pav4 pav5 (.ref s38) (.ref s41) (.ref s44) (0 : Int32) T44.heap n0 Zs46 PA hnd hg) hZ (ow hw 205 rfl) (ow hw 19 rfl) (by decide) (by decide)) q56a q56c (g := (mkF m 245 #[vj q0, .second, vi p1, vi p2, vi p3, vr b1, vr pa, vr pb, vr pc, vr b21, vi 0, vr s38, vr s41, vr s44, vi 1, .unset, .unset, .unset, .unset, .unset, .unset] [.ref b21])) rfl (by rw [hml]; rfl) (Steps.refl _) (argsL := []) (rest := []) (lenOf pd_3 rfl) rfl (oW rfl rfl) (hb hby at_245) (fun _ _ => ⟨rfl, e55, (by decide : 26 + 0 ≤ _), (by decide : 88 + 0 ≤ _)⟩)
  dsimp only [Pt.U, Pt.locs, Pt.cells, Pt.slots] at X56 l56 y56 z56 st56 hQ56
  rw [l56, y56, z56] at X56
  obtain ⟨hv56, N56q, K56, PAq56⟩ := hQ56
  subst hv56
  have N56 := Fr.app N55 N56q
  have fp57 := PAt.fp PA
  have Hc := CHv.keep K56 (fun x hx => FP.safe hZ.alike (fp57 x hx)) Hc
  have S_C := own_stak K56 (fun x hx => FP.nostat (fp57 x hx)) S_C
  have S_F := own_stak K56 (fun x hx => FP.nostat (fp57 x hx)) S_F
  have S_uu := own_stak K56 (fun x hx => FP.nostat (fp57 x hx)) S_uu
  have S_ui := own_stak K56 (fun x hx => FP.nostat (fp57 x hx)) S_ui
  have S_ua := own_stak K56 (fun x hx => FP.nostat (fp57 x hx)) S_ua
  have S_su := own_stak K56 (fun x hx => FP.nostat (fp57 x hx)) S_su
  have S_sa := own_stak K56 (fun x hx => FP.nostat (fp57 x hx)) S_sa
  have E_uu := E_uu.keep K56
  have E_ua := E_ua.keep K56
  have E_b1 := E_b1.keep K56
  have V_b1 := Arv.fpB K56 fp57 (ow hw 18 rfl) V_b1
  have V_pa := V_pa.keep K56 nin_pa
  have V_pb := V_pb.keep K56 nin_pb
  have V_pc := V_pc.keep K56 nin_pc
  have E_b21 := E_b21.keep K56
  have E_b33 := E_b33.keep K56
  have V_v33 := Arv.fpB K56 fp57 (ow hw 18 rfl) V_v33
  have Ec38 := Ec38.keep K56
  have CS38 := CSt.fp K56 fp57 (ow hw 59 rfl) (ow hw 18 rfl) CS38
  have Ec41 := Ec41.keep K56
  have CS41 := CSt.fp K56 fp57 (ow hw 59 rfl) (ow hw 18 rfl) CS41
  have Ec44 := Ec44.keep K56
  have CS44 := CSt.fp K56 fp57 (ow hw 59 rfl) (ow hw 18 rfl) CS44
  have Zs58 := Nat.le_trans Zs46 K56.1
  have hk := Nat.le_trans hk K56.1
  have PA := PAq56
  refine GoW.st (S' := T56.setTop (mkF m 253 #[vj q0, .second, vi p1, vi p2, vi p3, vr b1, vr pa, vr pb, vr pc, vr b21, vi 0, vr s38, vr s41, vr s44, vi 1, .unset, .unset, .unset, .unset, .unset, .unset] [.int 0, .ref pb, .ref b21])) (fun _ kk => st56.trans (XS.aload X56.here hx rfl (hb hby at_248) rfl rfl (XS.aload X56.here hx rfl (hb hby at_250) rfl rfl (XS.iconst X56.here hx rfl (hb hby at_252) kk)))) ?_
  obtain ⟨cl59, Ar59, qk59, S59, Ng59, H59, G59⟩ := (id V_pb)
  have hin59 : ¬ ((0 : Int32) < 0 ∨ cl59.slots.size ≤ ((0 : Int32)).toNatClampNeg) := inb_of S59 ⟨by decide, by decide⟩
  have hat59 : cl59.slots[((0 : Int32)).toNatClampNeg]? = some (.int pbv1) := Has.at H59 hin59 rfl
  refine GoW.st (S' := T56.setTop (mkF m 257 #[vj q0, .second, vi p1, vi p2, vi p3, vr b1, vr pa, vr pb, vr pc, vr b21, vi 0, vr s38, vr s41, vr s44, vi 1, .unset, .unset, .unset, .unset, .unset, .unset] [.int 1, .ref pb, .int pbv1, .ref b21])) (fun _ kk => X56.iaload hx (j := (0 : Int32)) (v := (.int pbv1)) Ar59.1 (State.isArrayOf_alike hZ.alike Ar59.2.1) Ar59.2.2 hin59 hat59 (g := (mkF m 253 #[vj q0, .second, vi p1, vi p2, vi p3, vr b1, vr pa, vr pb, vr pc, vr b21, vi 0, vr s38, vr s41, vr s44, vi 1, .unset, .unset, .unset, .unset, .unset, .unset] [.int 0, .ref pb, .ref b21])) rfl rfl (hb hby at_253) _ (XS.aload X56.here hx rfl (hb hby at_254) rfl rfl (XS.iconst X56.here hx rfl (hb hby at_256) kk))) ?_
  obtain ⟨cl60, Ar60, qk60, S60, Ng60, H60, G60⟩ := (id V_pb)
  have hin60 : ¬ ((1 : Int32) < 0 ∨ cl60.slots.size ≤ ((1 : Int32)).toNatClampNeg) := inb_of S60 ⟨by decide, by decide⟩
  have hat60 : cl60.slots[((1 : Int32)).toNatClampNeg]? = some (.int pbv2) := Has.at H60 hin60 rfl
  refine GoW.st (S' := T56.setTop (mkF m 261 #[vj q0, .second, vi p1, vi p2, vi p3, vr b1, vr pa, vr pb, vr pc, vr b21, vi 0, vr s38, vr s41, vr s44, vi 1, .unset, .unset, .unset, .unset, .unset, .unset] [.int 2, .ref pb, .int pbv2, .int pbv1, .ref b21])) (fun _ kk => X56.iaload hx (j := (1 : Int32)) (v := (.int pbv2)) Ar60.1 (State.isArrayOf_alike hZ.alike Ar60.2.1) Ar60.2.2 hin60 hat60 (g := (mkF m 257 #[vj q0, .second, vi p1, vi p2, vi p3, vr b1, vr pa, vr pb, vr pc, vr b21, vi 0, vr s38, vr s41, vr s44, vi 1, .unset, .unset, .unset, .unset, .unset, .unset] [.int 1, .ref pb, .int pbv1, .ref b21])) rfl rfl (hb hby at_257) _ (XS.aload X56.here hx rfl (hb hby at_258) rfl rfl (XS.iconst X56.here hx rfl (hb hby at_260) kk))) ?_
  obtain ⟨cl61, Ar61, qk61, S61, Ng61, H61, G61⟩ := (id V_pb)
  have hin61 : ¬ ((2 : Int32) < 0 ∨ cl61.slots.size ≤ ((2 : Int32)).toNatClampNeg) := inb_of S61 ⟨by decide, by decide⟩
  have hat61 : cl61.slots[((2 : Int32)).toNatClampNeg]? = some (.int pbv3) := Has.at H61 hin61 rfl
  refine GoW.st (S' := T56.setTop (mkF m 265 #[vj q0, .second, vi p1, vi p2, vi p3, vr b1, vr pa, vr pb, vr pc, vr b21, vi 0, vr s38, vr s41, vr s44, vi 1, .unset, .unset, .unset, .unset, .unset, .unset] [.int 3, .ref pb, .int pbv3, .int pbv2, .int pbv1, .ref b21])) (fun _ kk => X56.iaload hx (j := (2 : Int32)) (v := (.int pbv3)) Ar61.1 (State.isArrayOf_alike hZ.alike Ar61.2.1) Ar61.2.2 hin61 hat61 (g := (mkF m 261 #[vj q0, .second, vi p1, vi p2, vi p3, vr b1, vr pa, vr pb, vr pc, vr b21, vi 0, vr s38, vr s41, vr s44, vi 1, .unset, .unset, .unset, .unset, .unset, .unset] [.int 2, .ref pb, .int pbv2, .int pbv1, .ref b21])) rfl rfl (hb hby at_261) _ (XS.aload X56.here hx rfl (hb hby at_262) rfl rfl (XS.iconst X56.here hx rfl (hb hby at_264) kk))) ?_
  obtain ⟨cl62, Ar62, qk62, S62, Ng62, H62, G62⟩ := (id V_pb)
  have hin62 : ¬ ((3 : Int32) < 0 ∨ cl62.slots.size ≤ ((3 : Int32)).toNatClampNeg) := inb_of S62 ⟨by decide, by decide⟩
  have hat62 : cl62.slots[((3 : Int32)).toNatClampNeg]? = some (.int pbv4) := Has.at H62 hin62 rfl
  refine GoW.st (S' := T56.setTop (mkF m 269 #[vj q0, .second, vi p1, vi p2, vi p3, vr b1, vr pa, vr pb, vr pc, vr b21, vi 0, vr s38, vr s41, vr s44, vi 1, .unset, .unset, .unset, .unset, .unset, .unset] [.int 4, .ref pb, .int pbv4, .int pbv3, .int pbv2, .int pbv1, .ref b21])) (fun _ kk => X56.iaload hx (j := (3 : Int32)) (v := (.int pbv4)) Ar62.1 (State.isArrayOf_alike hZ.alike Ar62.2.1) Ar62.2.2 hin62 hat62 (g := (mkF m 265 #[vj q0, .second, vi p1, vi p2, vi p3, vr b1, vr pa, vr pb, vr pc, vr b21, vi 0, vr s38, vr s41, vr s44, vi 1, .unset, .unset, .unset, .unset, .unset, .unset] [.int 3, .ref pb, .int pbv3, .int pbv2, .int pbv1, .ref b21])) rfl rfl (hb hby at_265) _ (XS.aload X56.here hx rfl (hb hby at_266) rfl rfl (XS.iconst X56.here hx rfl (hb hby at_268) kk))) ?_
  obtain ⟨cl63, Ar63, qk63, S63, Ng63, H63, G63⟩ := (id V_pb)
  have hin63 : ¬ ((4 : Int32) < 0 ∨ cl63.slots.size ≤ ((4 : Int32)).toNatClampNeg) := inb_of S63 ⟨by decide, by decide⟩
  have hat63 : cl63.slots[((4 : Int32)).toNatClampNeg]? = some (.int pbv5) := Has.at H63 hin63 rfl
  refine GoW.st (S' := T56.setTop (mkF m 270 #[vj q0, .second, vi p1, vi p2, vi p3, vr b1, vr pa, vr pb, vr pc, vr b21, vi 0, vr s38, vr s41, vr s44, vi 1, .unset, .unset, .unset, .unset, .unset, .unset] [.int pbv5, .int pbv4, .int pbv3, .int pbv2, .int pbv1, .ref b21])) (fun _ kk => X56.iaload hx (j := (4 : Int32)) (v := (.int pbv5)) Ar63.1 (State.isArrayOf_alike hZ.alike Ar63.2.1) Ar63.2.2 hin63 hat63 (g := (mkF m 269 #[vj q0, .second, vi p1, vi p2, vi p3, vr b1, vr pa, vr pb, vr pc, vr b21, vi 0, vr s38, vr s41, vr s44, vi 1, .unset, .unset, .unset, .unset, .unset, .unset] [.int 4, .ref pb, .int pbv4, .int pbv3, .int pbv2, .int pbv1, .ref b21])) rfl rfl (hb hby at_269) _ kk) ?_
  obtain ⟨cq64, kq64, q64a, q64b, q64c⟩ := isOf hZ rfl E_b21
  obtain ⟨_, _, ⟨T64, L64, k64, n64⟩, -, X64, ⟨Lc64, hQ64, l64, y64, z64⟩, st64⟩ := X56.virtualBack hx (y := mN1) (z := mN1) hown (mvT hZ (ow hw 50 rfl)) (mvT hZ (ow hw 51 rfl)) (notFace_of_selects (args := #[]) (mvT hZ (ow hw 53 rfl))) (mvT hZ (ow hw 53 rfl)) (mvT hZ (ow hw 52 rfl)) (by decide) (backOf (W := 0) (rmAd0 l Z az hw [] b21 pbv1 pbv2 pbv3 pbv4 pbv5 b1 r_1 r_2 r_3 r_4 r_5 r_6 r_7 r_8 r_9 r_10 kr_1 kr_2 kr_3 kr_4 kr_5 kr_6 kr_7 kr_8 kr_9 kr_10 (0 : Int32) pav1 pav2 pav3 pav4 pav5 (.ref s38) (.ref s41) (.ref s44) (0 : Int32) T56.heap n0 Zs58 PA hnd hg) hZ (ow hw 54 rfl) (ow hw 19 rfl) (by decide) (by decide)) q64a q64c (g := (mkF m 270 #[vj q0, .second, vi p1, vi p2, vi p3, vr b1, vr pa, vr pb, vr pc, vr b21, vi 0, vr s38, vr s41, vr s44, vi 1, .unset, .unset, .unset, .unset, .unset, .unset] [.int pbv5, .int pbv4, .int pbv3, .int pbv2, .int pbv1, .ref b21])) rfl (by rw [hml]; rfl) (Steps.refl _) (argsL := [.int pbv1, .int pbv2, .int pbv3, .int pbv4, .int pbv5]) (rest := []) (lenOf pd_4 rfl) rfl (oW rfl rfl) (hb hby at_270) (fun _ _ => ⟨rfl, rfl, (by decide : 26 + 0 ≤ _), (by decide : 88 + 0 ≤ _)⟩)
  dsimp only [Pt.U, Pt.locs, Pt.cells, Pt.slots] at X64 l64 y64 z64 st64 hQ64
  rw [l64, y64, z64] at X64
  obtain ⟨hv64, N64q, K64, PAq64⟩ := hQ64
  subst hv64
  have N64 := Fr.app N56 N64q
  have fp65 := PAt.fp PA
  have Hc := CHv.keep K64 (fun x hx => FP.safe hZ.alike (fp65 x hx)) Hc
  have S_C := own_stak K64 (fun x hx => FP.nostat (fp65 x hx)) S_C
  have S_F := own_stak K64 (fun x hx => FP.nostat (fp65 x hx)) S_F
  have S_uu := own_stak K64 (fun x hx => FP.nostat (fp65 x hx)) S_uu
  have S_ui := own_stak K64 (fun x hx => FP.nostat (fp65 x hx)) S_ui
  have S_ua := own_stak K64 (fun x hx => FP.nostat (fp65 x hx)) S_ua
  have S_su := own_stak K64 (fun x hx => FP.nostat (fp65 x hx)) S_su
  have S_sa := own_stak K64 (fun x hx => FP.nostat (fp65 x hx)) S_sa
  have E_uu := E_uu.keep K64
  have E_ua := E_ua.keep K64
  have E_b1 := E_b1.keep K64
  have V_b1 := Arv.fpB K64 fp65 (ow hw 18 rfl) V_b1
  have V_pa := V_pa.keep K64 nin_pa
  have V_pb := V_pb.keep K64 nin_pb
  have V_pc := V_pc.keep K64 nin_pc
  have E_b21 := E_b21.keep K64
  have E_b33 := E_b33.keep K64
  have V_v33 := Arv.fpB K64 fp65 (ow hw 18 rfl) V_v33
  have Ec38 := Ec38.keep K64
  have CS38 := CSt.fp K64 fp65 (ow hw 59 rfl) (ow hw 18 rfl) CS38
  have Ec41 := Ec41.keep K64
  have CS41 := CSt.fp K64 fp65 (ow hw 59 rfl) (ow hw 18 rfl) CS41
  have Ec44 := Ec44.keep K64
  have CS44 := CSt.fp K64 fp65 (ow hw 59 rfl) (ow hw 18 rfl) CS44
  have Zs66 := Nat.le_trans Zs58 K64.1
  have hk := Nat.le_trans hk K64.1
  have PA := PAq64
  refine GoW.st (S' := T64.setTop (mkF m 280 #[vj q0, .second, vi p1, vi p2, vi p3, vr b1, vr pa, vr pb, vr pc, vr b21, vi 0, vr s38, vr s41, vr s44, vi 1, vi 0, .unset, .unset, .unset, .unset, .unset] [.int 0, .ref pc, .ref b21])) (fun _ kk => st64.trans (XS.istore X64.here hx rfl (hb hby at_273) rfl (l' := #[vj q0, .second, vi p1, vi p2, vi p3, vr b1, vr pa, vr pb, vr pc, vr b21, vi 0, vr s38, vr s41, vr s44, vi 1, vi 0, .unset, .unset, .unset, .unset, .unset]) rfl (XS.aload X64.here hx rfl (hb hby at_275) rfl rfl (XS.aload X64.here hx rfl (hb hby at_277) rfl rfl (XS.iconst X64.here hx rfl (hb hby at_279) kk))))) ?_
  obtain ⟨cl67, Ar67, qk67, S67, Ng67, H67, G67⟩ := (id V_pc)
  have hin67 : ¬ ((0 : Int32) < 0 ∨ cl67.slots.size ≤ ((0 : Int32)).toNatClampNeg) := inb_of S67 ⟨by decide, by decide⟩
  have hat67 : cl67.slots[((0 : Int32)).toNatClampNeg]? = some (.int pcv1) := Has.at H67 hin67 rfl
  refine GoW.st (S' := T64.setTop (mkF m 284 #[vj q0, .second, vi p1, vi p2, vi p3, vr b1, vr pa, vr pb, vr pc, vr b21, vi 0, vr s38, vr s41, vr s44, vi 1, vi 0, .unset, .unset, .unset, .unset, .unset] [.int 1, .ref pc, .int pcv1, .ref b21])) (fun _ kk => X64.iaload hx (j := (0 : Int32)) (v := (.int pcv1)) Ar67.1 (State.isArrayOf_alike hZ.alike Ar67.2.1) Ar67.2.2 hin67 hat67 (g := (mkF m 280 #[vj q0, .second, vi p1, vi p2, vi p3, vr b1, vr pa, vr pb, vr pc, vr b21, vi 0, vr s38, vr s41, vr s44, vi 1, vi 0, .unset, .unset, .unset, .unset, .unset] [.int 0, .ref pc, .ref b21])) rfl rfl (hb hby at_280) _ (XS.aload X64.here hx rfl (hb hby at_281) rfl rfl (XS.iconst X64.here hx rfl (hb hby at_283) kk))) ?_
  obtain ⟨cl68, Ar68, qk68, S68, Ng68, H68, G68⟩ := (id V_pc)
  have hin68 : ¬ ((1 : Int32) < 0 ∨ cl68.slots.size ≤ ((1 : Int32)).toNatClampNeg) := inb_of S68 ⟨by decide, by decide⟩
  have hat68 : cl68.slots[((1 : Int32)).toNatClampNeg]? = some (.int pcv2) := Has.at H68 hin68 rfl
  refine GoW.st (S' := T64.setTop (mkF m 288 #[vj q0, .second, vi p1, vi p2, vi p3, vr b1, vr pa, vr pb, vr pc, vr b21, vi 0, vr s38, vr s41, vr s44, vi 1, vi 0, .unset, .unset, .unset, .unset, .unset] [.int 2, .ref pc, .int pcv2, .int pcv1, .ref b21])) (fun _ kk => X64.iaload hx (j := (1 : Int32)) (v := (.int pcv2)) Ar68.1 (State.isArrayOf_alike hZ.alike Ar68.2.1) Ar68.2.2 hin68 hat68 (g := (mkF m 284 #[vj q0, .second, vi p1, vi p2, vi p3, vr b1, vr pa, vr pb, vr pc, vr b21, vi 0, vr s38, vr s41, vr s44, vi 1, vi 0, .unset, .unset, .unset, .unset, .unset] [.int 1, .ref pc, .int pcv1, .ref b21])) rfl rfl (hb hby at_284) _ (XS.aload X64.here hx rfl (hb hby at_285) rfl rfl (XS.iconst X64.here hx rfl (hb hby at_287) kk))) ?_
  obtain ⟨cl69, Ar69, qk69, S69, Ng69, H69, G69⟩ := (id V_pc)
  have hin69 : ¬ ((2 : Int32) < 0 ∨ cl69.slots.size ≤ ((2 : Int32)).toNatClampNeg) := inb_of S69 ⟨by decide, by decide⟩
  have hat69 : cl69.slots[((2 : Int32)).toNatClampNeg]? = some (.int pcv3) := Has.at H69 hin69 rfl
  refine GoW.st (S' := T64.setTop (mkF m 292 #[vj q0, .second, vi p1, vi p2, vi p3, vr b1, vr pa, vr pb, vr pc, vr b21, vi 0, vr s38, vr s41, vr s44, vi 1, vi 0, .unset, .unset, .unset, .unset, .unset] [.int 3, .ref pc, .int pcv3, .int pcv2, .int pcv1, .ref b21])) (fun _ kk => X64.iaload hx (j := (2 : Int32)) (v := (.int pcv3)) Ar69.1 (State.isArrayOf_alike hZ.alike Ar69.2.1) Ar69.2.2 hin69 hat69 (g := (mkF m 288 #[vj q0, .second, vi p1, vi p2, vi p3, vr b1, vr pa, vr pb, vr pc, vr b21, vi 0, vr s38, vr s41, vr s44, vi 1, vi 0, .unset, .unset, .unset, .unset, .unset] [.int 2, .ref pc, .int pcv2, .int pcv1, .ref b21])) rfl rfl (hb hby at_288) _ (XS.aload X64.here hx rfl (hb hby at_289) rfl rfl (XS.iconst X64.here hx rfl (hb hby at_291) kk))) ?_
  obtain ⟨cl70, Ar70, qk70, S70, Ng70, H70, G70⟩ := (id V_pc)
  have hin70 : ¬ ((3 : Int32) < 0 ∨ cl70.slots.size ≤ ((3 : Int32)).toNatClampNeg) := inb_of S70 ⟨by decide, by decide⟩
  have hat70 : cl70.slots[((3 : Int32)).toNatClampNeg]? = some (.int pcv4) := Has.at H70 hin70 rfl
  refine GoW.st (S' := T64.setTop (mkF m 296 #[vj q0, .second, vi p1, vi p2, vi p3, vr b1, vr pa, vr pb, vr pc, vr b21, vi 0, vr s38, vr s41, vr s44, vi 1, vi 0, .unset, .unset, .unset, .unset, .unset] [.int 4, .ref pc, .int pcv4, .int pcv3, .int pcv2, .int pcv1, .ref b21])) (fun _ kk => X64.iaload hx (j := (3 : Int32)) (v := (.int pcv4)) Ar70.1 (State.isArrayOf_alike hZ.alike Ar70.2.1) Ar70.2.2 hin70 hat70 (g := (mkF m 292 #[vj q0, .second, vi p1, vi p2, vi p3, vr b1, vr pa, vr pb, vr pc, vr b21, vi 0, vr s38, vr s41, vr s44, vi 1, vi 0, .unset, .unset, .unset, .unset, .unset] [.int 3, .ref pc, .int pcv3, .int pcv2, .int pcv1, .ref b21])) rfl rfl (hb hby at_292) _ (XS.aload X64.here hx rfl (hb hby at_293) rfl rfl (XS.iconst X64.here hx rfl (hb hby at_295) kk))) ?_
  obtain ⟨cl71, Ar71, qk71, S71, Ng71, H71, G71⟩ := (id V_pc)
  have hin71 : ¬ ((4 : Int32) < 0 ∨ cl71.slots.size ≤ ((4 : Int32)).toNatClampNeg) := inb_of S71 ⟨by decide, by decide⟩
  have hat71 : cl71.slots[((4 : Int32)).toNatClampNeg]? = some (.int pcv5) := Has.at H71 hin71 rfl
  refine GoW.st (S' := T64.setTop (mkF m 297 #[vj q0, .second, vi p1, vi p2, vi p3, vr b1, vr pa, vr pb, vr pc, vr b21, vi 0, vr s38, vr s41, vr s44, vi 1, vi 0, .unset, .unset, .unset, .unset, .unset] [.int pcv5, .int pcv4, .int pcv3, .int pcv2, .int pcv1, .ref b21])) (fun _ kk => X64.iaload hx (j := (4 : Int32)) (v := (.int pcv5)) Ar71.1 (State.isArrayOf_alike hZ.alike Ar71.2.1) Ar71.2.2 hin71 hat71 (g := (mkF m 296 #[vj q0, .second, vi p1, vi p2, vi p3, vr b1, vr pa, vr pb, vr pc, vr b21, vi 0, vr s38, vr s41, vr s44, vi 1, vi 0, .unset, .unset, .unset, .unset, .unset] [.int 4, .ref pc, .int pcv4, .int pcv3, .int pcv2, .int pcv1, .ref b21])) rfl rfl (hb hby at_296) _ kk) ?_
  obtain ⟨cq72, kq72, q72a, q72b, q72c⟩ := isOf hZ rfl E_b21
  obtain ⟨_, _, ⟨T72, L72, k72, n72⟩, -, X72, ⟨Lc72, hQ72, l72, y72, z72⟩, st72⟩ := X64.virtualBack hx (y := mN1) (z := mN1) hown (mvT hZ (ow hw 50 rfl)) (mvT hZ (ow hw 51 rfl)) (notFace_of_selects (args := #[]) (mvT hZ (ow hw 53 rfl))) (mvT hZ (ow hw 53 rfl)) (mvT hZ (ow hw 52 rfl)) (by decide) (backOf (W := 0) (rmAd1 l Z az hw [] b21 pcv1 pcv2 pcv3 pcv4 pcv5 b1 r_1 r_2 r_3 r_4 r_5 r_6 r_7 r_8 r_9 r_10 kr_1 kr_2 kr_3 kr_4 kr_5 kr_6 kr_7 kr_8 kr_9 kr_10 (0 : Int32) pbv1 pbv2 pbv3 pbv4 pbv5 .null .null .null (0 : Int32) T64.heap n0 Zs66 PA hnd hg) hZ (ow hw 54 rfl) (ow hw 19 rfl) (by decide) (by decide)) q72a q72c (g := (mkF m 297 #[vj q0, .second, vi p1, vi p2, vi p3, vr b1, vr pa, vr pb, vr pc, vr b21, vi 0, vr s38, vr s41, vr s44, vi 1, vi 0, .unset, .unset, .unset, .unset, .unset] [.int pcv5, .int pcv4, .int pcv3, .int pcv2, .int pcv1, .ref b21])) rfl (by rw [hml]; rfl) (Steps.refl _) (argsL := [.int pcv1, .int pcv2, .int pcv3, .int pcv4, .int pcv5]) (rest := []) (lenOf pd_4 rfl) rfl (oW rfl rfl) (hb hby at_297) (fun _ _ => ⟨rfl, rfl, (by decide : 26 + 0 ≤ _), (by decide : 88 + 0 ≤ _)⟩)
  dsimp only [Pt.U, Pt.locs, Pt.cells, Pt.slots] at X72 l72 y72 z72 st72 hQ72
  rw [l72, y72, z72] at X72
  obtain ⟨hv72, N72q, K72, PAq72⟩ := hQ72
  subst hv72
  have N72 := Fr.app N64 N72q
  have fp73 := PAt.fp PA
  have Hc := CHv.keep K72 (fun x hx => FP.safe hZ.alike (fp73 x hx)) Hc
  have S_C := own_stak K72 (fun x hx => FP.nostat (fp73 x hx)) S_C
  have S_F := own_stak K72 (fun x hx => FP.nostat (fp73 x hx)) S_F
  have S_uu := own_stak K72 (fun x hx => FP.nostat (fp73 x hx)) S_uu
  have S_ui := own_stak K72 (fun x hx => FP.nostat (fp73 x hx)) S_ui
  have S_ua := own_stak K72 (fun x hx => FP.nostat (fp73 x hx)) S_ua
  have S_su := own_stak K72 (fun x hx => FP.nostat (fp73 x hx)) S_su
  have S_sa := own_stak K72 (fun x hx => FP.nostat (fp73 x hx)) S_sa
  have E_uu := E_uu.keep K72
  have E_ua := E_ua.keep K72
  have E_b1 := E_b1.keep K72
  have V_b1 := Arv.fpB K72 fp73 (ow hw 18 rfl) V_b1
  have V_pa := V_pa.keep K72 nin_pa
  have V_pb := V_pb.keep K72 nin_pb
  have V_pc := V_pc.keep K72 nin_pc
  have E_b21 := E_b21.keep K72
  have E_b33 := E_b33.keep K72
  have V_v33 := Arv.fpB K72 fp73 (ow hw 18 rfl) V_v33
  have Ec38 := Ec38.keep K72
  have CS38 := CSt.fp K72 fp73 (ow hw 59 rfl) (ow hw 18 rfl) CS38
  have Ec41 := Ec41.keep K72
  have CS41 := CSt.fp K72 fp73 (ow hw 59 rfl) (ow hw 18 rfl) CS41
  have Ec44 := Ec44.keep K72
  have CS44 := CSt.fp K72 fp73 (ow hw 59 rfl) (ow hw 18 rfl) CS44
  have Zs74 := Nat.le_trans Zs66 K72.1
  have hk := Nat.le_trans hk K72.1
  have PA := PAq72
  refine GoW.st (S' := T72.setTop (mkF m 307 #[vj q0, .second, vi p1, vi p2, vi p3, vr b1, vr pa, vr pb, vr pc, vr b21, vi 0, vr s38, vr s41, vr s44, vi 1, vi 0, vi 1, .unset, .unset, .unset, .unset] [.ref b33, .int 0, .ref b21])) (fun _ kk => st72.trans (XS.istore X72.here hx rfl (hb hby at_300) rfl (l' := #[vj q0, .second, vi p1, vi p2, vi p3, vr b1, vr pa, vr pb, vr pc, vr b21, vi 0, vr s38, vr s41, vr s44, vi 1, vi 0, vi 1, .unset, .unset, .unset, .unset]) rfl (XS.aload X72.here hx rfl (hb hby at_302) rfl rfl (XS.iconst X72.here hx rfl (hb hby at_304) (ldcAgain X72 hx hZ hown (ow hw 57 rfl) Li_b33 (g := (mkF m 305 #[vj q0, .second, vi p1, vi p2, vi p3, vr b1, vr pa, vr pb, vr pc, vr b21, vi 0, vr s38, vr s41, vr s44, vi 1, vi 0, vi 1, .unset, .unset, .unset, .unset] [.int 0, .ref b21])) rfl (hb hby at_305) _ kk))))) ?_
  obtain ⟨cq75, kq75, q75a, q75b, q75c⟩ := isOf hZ rfl E_b21
  obtain ⟨_, _, ⟨T75, L75, k75, n75⟩, -, X75, ⟨Lc75, hQ75, l75, y75, z75⟩, st75⟩ := X72.virtualBack hx (y := mN9) (z := mN9) hown (mvT hZ (ow hw 64 rfl)) (mvT hZ (ow hw 65 rfl)) (notFace_of_selects (args := #[]) (mvT hZ (ow hw 67 rfl))) (mvT hZ (ow hw 67 rfl)) (mvT hZ (ow hw 66 rfl)) (by decide) (backOf (W := 0) (rmTe l Z az hw [] b21 (0 : Int32) b33 b1 r_1 r_2 r_3 r_4 r_5 r_6 r_7 r_8 r_9 r_10 kr_1 kr_2 kr_3 kr_4 kr_5 kr_6 kr_7 kr_8 kr_9 kr_10 (2 : Int32) pbv1 pbv2 pbv3 pbv4 pbv5 .null .null .null (0 : Int32) T72.heap n0 Zs74 PA hnd hg E_b33) hZ (ow hw 68 rfl) (ow hw 19 rfl) (by decide) (by decide)) q75a q75c (g := (mkF m 307 #[vj q0, .second, vi p1, vi p2, vi p3, vr b1, vr pa, vr pb, vr pc, vr b21, vi 0, vr s38, vr s41, vr s44, vi 1, vi 0, vi 1, .unset, .unset, .unset, .unset] [.ref b33, .int 0, .ref b21])) rfl (by rw [hml]; rfl) (Steps.refl _) (argsL := [.int 0, .ref b33]) (rest := []) (lenOf pd_5 rfl) rfl (oW rfl rfl) (hb hby at_307) (fun _ _ => ⟨rfl, rfl, (by decide : 26 + 0 ≤ _), (by decide : 88 + 0 ≤ _)⟩)
  dsimp only [Pt.U, Pt.locs, Pt.cells, Pt.slots] at X75 l75 y75 z75 st75 hQ75
  rw [l75, y75, z75] at X75
  obtain ⟨hv75, N75q, K75, PAq75⟩ := hQ75
  subst hv75
  have N75 := Fr.app N72 N75q
  have fp76 := PAt.fp PA
  have Hc := CHv.keep K75 (fun x hx => FP.safe hZ.alike (fp76 x hx)) Hc
  have S_C := own_stak K75 (fun x hx => FP.nostat (fp76 x hx)) S_C
  have S_F := own_stak K75 (fun x hx => FP.nostat (fp76 x hx)) S_F
  have S_uu := own_stak K75 (fun x hx => FP.nostat (fp76 x hx)) S_uu
  have S_ui := own_stak K75 (fun x hx => FP.nostat (fp76 x hx)) S_ui
  have S_ua := own_stak K75 (fun x hx => FP.nostat (fp76 x hx)) S_ua
  have S_su := own_stak K75 (fun x hx => FP.nostat (fp76 x hx)) S_su
  have S_sa := own_stak K75 (fun x hx => FP.nostat (fp76 x hx)) S_sa
  have E_uu := E_uu.keep K75
  have E_ua := E_ua.keep K75
  have E_b1 := E_b1.keep K75
  have V_b1 := Arv.fpB K75 fp76 (ow hw 18 rfl) V_b1
  have V_pa := V_pa.keep K75 nin_pa
  have V_pb := V_pb.keep K75 nin_pb
  have V_pc := V_pc.keep K75 nin_pc
  have E_b21 := E_b21.keep K75
  have E_b33 := E_b33.keep K75
  have V_v33 := Arv.fpB K75 fp76 (ow hw 18 rfl) V_v33
  have Ec38 := Ec38.keep K75
  have CS38 := CSt.fp K75 fp76 (ow hw 59 rfl) (ow hw 18 rfl) CS38
  have Ec41 := Ec41.keep K75
  have CS41 := CSt.fp K75 fp76 (ow hw 59 rfl) (ow hw 18 rfl) CS41
  have Ec44 := Ec44.keep K75
  have CS44 := CSt.fp K75 fp76 (ow hw 59 rfl) (ow hw 18 rfl) CS44
  have Zs77 := Nat.le_trans Zs74 K75.1
  have hk := Nat.le_trans hk K75.1
  have PA := PAq75
  refine GoW.st (S' := T75.setTop (mkF m 313 #[vj q0, .second, vi p1, vi p2, vi p3, vr b1, vr pa, vr pb, vr pc, vr b21, vi 0, vr s38, vr s41, vr s44, vi 1, vi 0, vi 1, .unset, .unset, .unset, .unset] [.int 0, .ref b21])) (fun _ kk => st75.trans (XS.aload X75.here hx rfl (hb hby at_310) rfl rfl (XS.iconst X75.here hx rfl (hb hby at_312) kk))) ?_
  have hr := hr_pb_1
  obtain ⟨cq78, kq78, q78a, q78b, q78c⟩ := isOf hZ rfl E_b21
  obtain ⟨_, _, ⟨T78, L78, k78, n78⟩, -, X78, hS78, hg78, ⟨Lc78, hQ78, l78, y78, z78⟩, st78⟩ := X75.virtualBackS hx (y := mN4) (z := mN4) hown (mvT hZ (ow hw 72 rfl)) (mvT hZ (ow hw 73 rfl)) (notFace_of_selects (args := #[]) (mvT hZ (ow hw 75 rfl))) (mvT hZ (ow hw 75 rfl)) (mvT hZ (ow hw 74 rfl)) (by decide) (own_backS (W := 0) (P := PCW Z T75.heap) (rmGqName l Z az hw [] b21 (0 : Int32) b1 r_1 r_2 r_3 r_4 r_5 r_6 r_7 r_8 r_9 r_10 kr_1 kr_2 kr_3 kr_4 kr_5 kr_6 kr_7 kr_8 kr_9 kr_10 zc fm uu ui ua k1 6 bs (2 : Int32) pbv1 pbv2 pbv3 pbv4 pbv5 .null .null T75.heap n0 Zs77 S_C hzc S_F hfm  S_uu S_ui S_ua nui nua nia S_su S_sa E_uu E_ua V_b1 hz hbs E_b1 hs6 PA hnd hg hr rfl) hZ (ow hw 76 rfl) (ow hw 19 rfl) (by decide) (by decide)) q78a q78c (g := (mkF m 313 #[vj q0, .second, vi p1, vi p2, vi p3, vr b1, vr pa, vr pb, vr pc, vr b21, vi 0, vr s38, vr s41, vr s44, vi 1, vi 0, vi 1, .unset, .unset, .unset, .unset] [.int 0, .ref b21])) rfl (by rw [hml]; rfl) (Steps.refl _) (argsL := [.int 0]) (rest := []) (lenOf pd_6 rfl) rfl (oW rfl rfl) (hb hby at_313) (fun vmq hvq => ⟨rfl, rfl, (own_chat hZ hvq (own_EW hw) Hc).1, (by decide : 26 + 3 ≤ _), (by decide : 88 + 10 ≤ _)⟩)
  dsimp only [Pt.U, Pt.locs, Pt.cells, Pt.slots] at X78 l78 y78 z78 st78 hQ78 hS78 hg78
  rw [l78, y78, z78] at X78
  have Li_b33 := LitV.stays (s := s) Li_b33 hS78.1
  obtain ⟨X78, hS, hZ, hown⟩ := rebS hS (own_hk rfl hk) X78 hS78 hg78 hZ hown
  obtain ⟨s78, rfl, N78q, K78, Hc78, PAq78, CS78⟩ := hQ78
  have N78 := Fr.app N75 N78q
  have fp79 := PAt.fp PA
  have S_C := own_stak K78 (fun x hx => FP.nostat (fp79 x hx)) S_C
  have S_F := own_stak K78 (fun x hx => FP.nostat (fp79 x hx)) S_F
  have S_uu := own_stak K78 (fun x hx => FP.nostat (fp79 x hx)) S_uu
  have S_ui := own_stak K78 (fun x hx => FP.nostat (fp79 x hx)) S_ui
  have S_ua := own_stak K78 (fun x hx => FP.nostat (fp79 x hx)) S_ua
  have S_su := own_stak K78 (fun x hx => FP.nostat (fp79 x hx)) S_su
  have S_sa := own_stak K78 (fun x hx => FP.nostat (fp79 x hx)) S_sa
  have E_uu := E_uu.keep K78
  have E_ua := E_ua.keep K78
  have E_b1 := E_b1.keep K78
  have V_b1 := Arv.fpB K78 fp79 (ow hw 18 rfl) V_b1
  have V_pa := V_pa.keep K78 nin_pa
  have V_pb := V_pb.keep K78 nin_pb
  have V_pc := V_pc.keep K78 nin_pc
  have E_b21 := E_b21.keep K78
  have E_b33 := E_b33.keep K78
  have V_v33 := Arv.fpB K78 fp79 (ow hw 18 rfl) V_v33
  have Ec38 := Ec38.keep K78
  have CS38 := CSt.fp K78 fp79 (ow hw 59 rfl) (ow hw 18 rfl) CS38
  have Ec41 := Ec41.keep K78
  have CS41 := CSt.fp K78 fp79 (ow hw 59 rfl) (ow hw 18 rfl) CS41
  have Ec44 := Ec44.keep K78
  have CS44 := CSt.fp K78 fp79 (ow hw 59 rfl) (ow hw 18 rfl) CS44
  have Zs80 := Nat.le_trans Zs77 K78.1
  have hk := Nat.le_trans hk K78.1
  have Hc := Hc78
  have Ec78 := CS78.1
  have PA := PAq78
  have hk : T78.heap.size ≤ (T78.heap).size := Nat.le_of_eq (congrArg Array.size (show T78.heap = T78.heap from rfl))
  refine GoW.st (S' := T78.setTop (mkF m 321 #[vj q0, .second, vi p1, vi p2, vi p3, vr b1, vr pa, vr pb, vr pc, vr b21, vi 0, vr s38, vr s41, vr s44, vi 1, vi 0, vi 1, vr s78, .unset, .unset, .unset] [.int 0, .ref b21])) (fun _ kk => st78.trans (XS.astore X78.here hx rfl (hb hby at_316) rfl rfl (l' := #[vj q0, .second, vi p1, vi p2, vi p3, vr b1, vr pa, vr pb, vr pc, vr b21, vi 0, vr s38, vr s41, vr s44, vi 1, vi 0, vi 1, vr s78, .unset, .unset, .unset]) rfl (XS.aload X78.here hx rfl (hb hby at_318) rfl rfl (XS.iconst X78.here hx rfl (hb hby at_320) kk)))) ?_
  have hr := hr_pb_2
  obtain ⟨cq81, kq81, q81a, q81b, q81c⟩ := isOf hZ rfl E_b21
  obtain ⟨_, _, ⟨T81, L81, k81, n81⟩, -, X81, hS81, hg81, ⟨Lc81, hQ81, l81, y81, z81⟩, st81⟩ := X78.virtualBackS hx (y := mN3) (z := mN3) hown (mvT hZ (ow hw 143 rfl)) (mvT hZ (ow hw 144 rfl)) (notFace_of_selects (args := #[]) (mvT hZ (ow hw 146 rfl))) (mvT hZ (ow hw 146 rfl)) (mvT hZ (ow hw 145 rfl)) (by decide) (own_backS (W := 0) (P := PCW Z T78.heap) (rmGlocalName l Z az hw [] b21 (0 : Int32) b1 r_1 r_2 r_3 r_4 r_5 r_6 r_7 r_8 r_9 r_10 kr_1 kr_2 kr_3 kr_4 kr_5 kr_6 kr_7 kr_8 kr_9 kr_10 zc fm uu ui ua k1 6 bs (2 : Int32) pbv1 pbv2 pbv3 pbv4 pbv5 (.ref s78) .null T78.heap n0 Zs80 S_C hzc S_F hfm  S_uu S_ui S_ua nui nua nia S_su S_sa E_uu E_ua V_b1 hz hbs E_b1 hs6 PA hnd hg hr rfl) hZ (ow hw 147 rfl) (ow hw 19 rfl) (by decide) (by decide)) q81a q81c (g := (mkF m 321 #[vj q0, .second, vi p1, vi p2, vi p3, vr b1, vr pa, vr pb, vr pc, vr b21, vi 0, vr s38, vr s41, vr s44, vi 1, vi 0, vi 1, vr s78, .unset, .unset, .unset] [.int 0, .ref b21])) rfl (by rw [hml]; rfl) (Steps.refl _) (argsL := [.int 0]) (rest := []) (lenOf pd_6 rfl) rfl (oW rfl rfl) (hb hby at_321) (fun vmq hvq => ⟨rfl, rfl, (own_chat hZ hvq (own_EW hw) Hc).1, (by decide : 29 + 3 ≤ _), (by decide : 98 + 10 ≤ _)⟩)
  dsimp only [Pt.U, Pt.locs, Pt.cells, Pt.slots] at X81 l81 y81 z81 st81 hQ81 hS81 hg81
  rw [l81, y81, z81] at X81
  have Li_b33 := LitV.stays (s := s) Li_b33 hS81.1
  obtain ⟨X81, hS, hZ, hown⟩ := rebS hS (own_hk rfl hk) X81 hS81 hg81 hZ hown
  obtain ⟨s81, rfl, N81q, K81, Hc81, PAq81, CS81⟩ := hQ81
  have N81 := Fr.app N78 N81q
  have fp82 := PAt.fp PA
  have S_C := own_stak K81 (fun x hx => FP.nostat (fp82 x hx)) S_C
  have S_F := own_stak K81 (fun x hx => FP.nostat (fp82 x hx)) S_F
  have S_uu := own_stak K81 (fun x hx => FP.nostat (fp82 x hx)) S_uu
  have S_ui := own_stak K81 (fun x hx => FP.nostat (fp82 x hx)) S_ui
  have S_ua := own_stak K81 (fun x hx => FP.nostat (fp82 x hx)) S_ua
  have S_su := own_stak K81 (fun x hx => FP.nostat (fp82 x hx)) S_su
  have S_sa := own_stak K81 (fun x hx => FP.nostat (fp82 x hx)) S_sa
  have E_uu := E_uu.keep K81
  have E_ua := E_ua.keep K81
  have E_b1 := E_b1.keep K81
  have V_b1 := Arv.fpB K81 fp82 (ow hw 18 rfl) V_b1
  have V_pa := V_pa.keep K81 nin_pa
  have V_pb := V_pb.keep K81 nin_pb
  have V_pc := V_pc.keep K81 nin_pc
  have E_b21 := E_b21.keep K81
  have E_b33 := E_b33.keep K81
  have V_v33 := Arv.fpB K81 fp82 (ow hw 18 rfl) V_v33
  have Ec38 := Ec38.keep K81
  have CS38 := CSt.fp K81 fp82 (ow hw 59 rfl) (ow hw 18 rfl) CS38
  have Ec41 := Ec41.keep K81
  have CS41 := CSt.fp K81 fp82 (ow hw 59 rfl) (ow hw 18 rfl) CS41
  have Ec44 := Ec44.keep K81
  have CS44 := CSt.fp K81 fp82 (ow hw 59 rfl) (ow hw 18 rfl) CS44
  have Ec78 := Ec78.keep K81
  have CS78 := CSt.fp K81 fp82 (ow hw 59 rfl) (ow hw 18 rfl) CS78
  have Zs83 := Nat.le_trans Zs80 K81.1
  have hk := Nat.le_trans hk K81.1
  have Hc := Hc81
  have Ec81 := CS81.1
  have PA := PAq81
  have hk : T81.heap.size ≤ (T81.heap).size := Nat.le_of_eq (congrArg Array.size (show T81.heap = T81.heap from rfl))
  refine GoW.st (S' := T81.setTop (mkF m 329 #[vj q0, .second, vi p1, vi p2, vi p3, vr b1, vr pa, vr pb, vr pc, vr b21, vi 0, vr s38, vr s41, vr s44, vi 1, vi 0, vi 1, vr s78, vr s81, .unset, .unset] [.int 0, .ref b21])) (fun _ kk => st81.trans (XS.astore X81.here hx rfl (hb hby at_324) rfl rfl (l' := #[vj q0, .second, vi p1, vi p2, vi p3, vr b1, vr pa, vr pb, vr pc, vr b21, vi 0, vr s38, vr s41, vr s44, vi 1, vi 0, vi 1, vr s78, vr s81, .unset, .unset]) rfl (XS.aload X81.here hx rfl (hb hby at_326) rfl rfl (XS.iconst X81.here hx rfl (hb hby at_328) kk)))) ?_
  have hr := hr_pb_4
  obtain ⟨cq84, kq84, q84a, q84b, q84c⟩ := isOf hZ rfl E_b21
  obtain ⟨_, _, ⟨T84, L84, k84, n84⟩, -, X84, hS84, hg84, ⟨Lc84, hQ84, l84, y84, z84⟩, st84⟩ := X81.virtualBackS hx (y := mN5) (z := mN5) hown (mvT hZ (ow hw 152 rfl)) (mvT hZ (ow hw 153 rfl)) (notFace_of_selects (args := #[]) (mvT hZ (ow hw 155 rfl))) (mvT hZ (ow hw 155 rfl)) (mvT hZ (ow hw 154 rfl)) (by decide) (own_backS (W := 0) (P := PCW Z T81.heap) (rmGvalue l Z az hw [] b21 (0 : Int32) b1 r_1 r_2 r_3 r_4 r_5 r_6 r_7 r_8 r_9 r_10 kr_1 kr_2 kr_3 kr_4 kr_5 kr_6 kr_7 kr_8 kr_9 kr_10 zc fm uu ui ua k1 6 bs (2 : Int32) pbv1 pbv2 pbv3 pbv4 pbv5 (.ref s78) (.ref s81) T81.heap n0 Zs83 S_C hzc S_F hfm  S_uu S_ui S_ua nui nua nia S_su S_sa E_uu E_ua V_b1 hz hbs E_b1 hs6 PA hnd hg hr rfl) hZ (ow hw 156 rfl) (ow hw 19 rfl) (by decide) (by decide)) q84a q84c (g := (mkF m 329 #[vj q0, .second, vi p1, vi p2, vi p3, vr b1, vr pa, vr pb, vr pc, vr b21, vi 0, vr s38, vr s41, vr s44, vi 1, vi 0, vi 1, vr s78, vr s81, .unset, .unset] [.int 0, .ref b21])) rfl (by rw [hml]; rfl) (Steps.refl _) (argsL := [.int 0]) (rest := []) (lenOf pd_6 rfl) rfl (oW rfl rfl) (hb hby at_329) (fun vmq hvq => ⟨rfl, rfl, (own_chat hZ hvq (own_EW hw) Hc).1, (by decide : 32 + 3 ≤ _), (by decide : 108 + 10 ≤ _)⟩)
  dsimp only [Pt.U, Pt.locs, Pt.cells, Pt.slots] at X84 l84 y84 z84 st84 hQ84 hS84 hg84
  rw [l84, y84, z84] at X84
  have Li_b33 := LitV.stays (s := s) Li_b33 hS84.1
  obtain ⟨X84, hS, hZ, hown⟩ := rebS hS (own_hk rfl hk) X84 hS84 hg84 hZ hown
  obtain ⟨s84, rfl, N84q, K84, Hc84, PAq84, CS84⟩ := hQ84
  have N84 := Fr.app N81 N84q
  have fp85 := PAt.fp PA
  have S_C := own_stak K84 (fun x hx => FP.nostat (fp85 x hx)) S_C
  have S_F := own_stak K84 (fun x hx => FP.nostat (fp85 x hx)) S_F
  have S_uu := own_stak K84 (fun x hx => FP.nostat (fp85 x hx)) S_uu
  have S_ui := own_stak K84 (fun x hx => FP.nostat (fp85 x hx)) S_ui
  have S_ua := own_stak K84 (fun x hx => FP.nostat (fp85 x hx)) S_ua
  have S_su := own_stak K84 (fun x hx => FP.nostat (fp85 x hx)) S_su
  have S_sa := own_stak K84 (fun x hx => FP.nostat (fp85 x hx)) S_sa
  have E_uu := E_uu.keep K84
  have E_ua := E_ua.keep K84
  have E_b1 := E_b1.keep K84
  have V_b1 := Arv.fpB K84 fp85 (ow hw 18 rfl) V_b1
  have V_pa := V_pa.keep K84 nin_pa
  have V_pb := V_pb.keep K84 nin_pb
  have V_pc := V_pc.keep K84 nin_pc
  have E_b21 := E_b21.keep K84
  have E_b33 := E_b33.keep K84
  have V_v33 := Arv.fpB K84 fp85 (ow hw 18 rfl) V_v33
  have Ec38 := Ec38.keep K84
  have CS38 := CSt.fp K84 fp85 (ow hw 59 rfl) (ow hw 18 rfl) CS38
  have Ec41 := Ec41.keep K84
  have CS41 := CSt.fp K84 fp85 (ow hw 59 rfl) (ow hw 18 rfl) CS41
  have Ec44 := Ec44.keep K84
  have CS44 := CSt.fp K84 fp85 (ow hw 59 rfl) (ow hw 18 rfl) CS44
  have Ec78 := Ec78.keep K84
  have CS78 := CSt.fp K84 fp85 (ow hw 59 rfl) (ow hw 18 rfl) CS78
  have Ec81 := Ec81.keep K84
  have CS81 := CSt.fp K84 fp85 (ow hw 59 rfl) (ow hw 18 rfl) CS81
  have Zs86 := Nat.le_trans Zs83 K84.1
  have hk := Nat.le_trans hk K84.1
  have Hc := Hc84
  have Ec84 := CS84.1
  have PA := PAq84
  have hk : T84.heap.size ≤ (T84.heap).size := Nat.le_of_eq (congrArg Array.size (show T84.heap = T84.heap from rfl))
  refine GoW.st (S' := T84.setTop (mkF m 342 #[vj q0, .second, vi p1, vi p2, vi p3, vr b1, vr pa, vr pb, vr pc, vr b21, vi 0, vr s38, vr s41, vr s44, vi 1, vi 0, vi 1, vr s78, vr s81, vr s84, .unset] [.int 1, .int 1])) (fun _ kk => st84.trans (XS.astore X84.here hx rfl (hb hby at_332) rfl rfl (l' := #[vj q0, .second, vi p1, vi p2, vi p3, vr b1, vr pa, vr pb, vr pc, vr b21, vi 0, vr s38, vr s41, vr s44, vi 1, vi 0, vi 1, vr s78, vr s81, vr s84, .unset]) rfl (XS.iload X84.here hx rfl (hb hby at_334) rfl (XS.ifNo X84.here hx rfl (hb hby at_336) rfl ((if0 _ _).trans (teq (by decide : (0 : Int32) = (0 : Int32))).2) (XS.iload X84.here hx rfl (hb hby at_339) rfl (XS.iconst X84.here hx rfl (hb hby at_341) kk)))))) ?_
  refine GoW.st (S' := T84.setTop (mkF m 352 #[vj q0, .second, vi p1, vi p2, vi p3, vr b1, vr pa, vr pb, vr pc, vr b21, vi 0, vr s38, vr s41, vr s44, vi 1, vi 0, vi 1, vr s78, vr s81, vr s84, .unset] [.int 0, .ref pb, .ref b1, .ref s78])) (fun _ kk => XS.icmpNo X84.here hx rfl (hb hby at_342) rfl (teq (by decide : (1 : Int32) = (1 : Int32))).2 (XS.aload X84.here hx rfl (hb hby at_345) rfl rfl (XS.aload X84.here hx rfl (hb hby at_347) rfl rfl (XS.aload X84.here hx rfl (hb hby at_349) rfl rfl (XS.iconst X84.here hx rfl (hb hby at_351) kk))))) ?_
  obtain ⟨cl87, Ar87, qk87, S87, Ng87, H87, G87⟩ := (id V_pb)
  have hin87 : ¬ ((0 : Int32) < 0 ∨ cl87.slots.size ≤ ((0 : Int32)).toNatClampNeg) := inb_of S87 ⟨by decide, by decide⟩
  have hat87 : cl87.slots[((0 : Int32)).toNatClampNeg]? = some (.int pbv1) := Has.at H87 hin87 rfl
  refine GoW.st (S' := T84.setTop (mkF m 356 #[vj q0, .second, vi p1, vi p2, vi p3, vr b1, vr pa, vr pb, vr pc, vr b21, vi 0, vr s38, vr s41, vr s44, vi 1, vi 0, vi 1, vr s78, vr s81, vr s84, .unset] [.int 2, .ref pb, .int pbv1, .ref b1, .ref s78])) (fun _ kk => X84.iaload hx (j := (0 : Int32)) (v := (.int pbv1)) Ar87.1 (State.isArrayOf_alike hZ.alike Ar87.2.1) Ar87.2.2 hin87 hat87 (g := (mkF m 352 #[vj q0, .second, vi p1, vi p2, vi p3, vr b1, vr pa, vr pb, vr pc, vr b21, vi 0, vr s38, vr s41, vr s44, vi 1, vi 0, vi 1, vr s78, vr s81, vr s84, .unset] [.int 0, .ref pb, .ref b1, .ref s78])) rfl rfl (hb hby at_352) _ (XS.aload X84.here hx rfl (hb hby at_353) rfl rfl (XS.iconst X84.here hx rfl (hb hby at_355) kk))) ?_
  obtain ⟨cl88, Ar88, qk88, S88, Ng88, H88, G88⟩ := (id V_pb)
  have hin88 : ¬ ((2 : Int32) < 0 ∨ cl88.slots.size ≤ ((2 : Int32)).toNatClampNeg) := inb_of S88 ⟨by decide, by decide⟩
  have hat88 : cl88.slots[((2 : Int32)).toNatClampNeg]? = some (.int pbv3) := Has.at H88 hin88 rfl
  refine GoW.st (S' := T84.setTop (mkF m 357 #[vj q0, .second, vi p1, vi p2, vi p3, vr b1, vr pa, vr pb, vr pc, vr b21, vi 0, vr s38, vr s41, vr s44, vi 1, vi 0, vi 1, vr s78, vr s81, vr s84, .unset] [.int pbv3, .int pbv1, .ref b1, .ref s78])) (fun _ kk => X84.iaload hx (j := (2 : Int32)) (v := (.int pbv3)) Ar88.1 (State.isArrayOf_alike hZ.alike Ar88.2.1) Ar88.2.2 hin88 hat88 (g := (mkF m 356 #[vj q0, .second, vi p1, vi p2, vi p3, vr b1, vr pa, vr pb, vr pc, vr b21, vi 0, vr s38, vr s41, vr s44, vi 1, vi 0, vi 1, vr s78, vr s81, vr s84, .unset] [.int 2, .ref pb, .int pbv1, .ref b1, .ref s78])) rfl rfl (hb hby at_356) _ kk) ?_
  obtain ⟨_, _, ⟨T89, L89, k89, n89⟩, -, X89, ⟨Lc89, hQ89, l89, y89, z89⟩, st89⟩ := Jvm.LawKit.callS X84 hx (y := mN15) hown (mvT hZ (ow hw 165 rfl)) (mvT hZ (ow hw 166 rfl)) (mvT hZ (ow hw 4 rfl)) (mvT hZ (ow hw 167 rfl)) (by decide) (backOf (W := 0) (rmSa l Z az hw [] s78 b1 pbv1 pbv3 zc fm k1 6 bs T84.heap n0 Zs86 S_C hzc S_F hfm  V_b1 hz hbs CS78 hr_pb_1) hZ (ow hw 167 rfl) (ow hw 4 rfl) (by decide) (by decide)) (g := (mkF m 357 #[vj q0, .second, vi p1, vi p2, vi p3, vr b1, vr pa, vr pb, vr pc, vr b21, vi 0, vr s38, vr s41, vr s44, vi 1, vi 0, vi 1, vr s78, vr s81, vr s84, .unset] [.int pbv3, .int pbv1, .ref b1, .ref s78])) rfl (by rw [hml]; rfl) (argsL := [.ref s78, .ref b1, .int pbv1, .int pbv3]) (rest := []) (lenOf pd_19 rfl) rfl (oW rfl rfl) (hb hby at_357) (fun _ _ => ⟨rfl, rfl, (by decide : 35 + 0 ≤ _), (by decide : 118 + 0 ≤ _)⟩)
  dsimp only [Pt.U, Pt.locs, Pt.cells, Pt.slots] at X89 l89 y89 z89 st89 hQ89
  rw [l89, y89, z89] at X89
  obtain ⟨hv89, N89q, e89⟩ := hQ89
  subst hv89
  have N89 := Fr.app N84 N89q
  refine GoW.st (S' := T89.setTop (mkF m 370 #[vj q0, .second, vi p1, vi p2, vi p3, vr b1, vr pa, vr pb, vr pc, vr b21, vi 0, vr s38, vr s41, vr s44, vi 1, vi 0, vi 1, vr s78, vr s81, vr s84, .unset] [.int 1, .ref pb, .ref b1, .ref s81])) (fun _ kk => st89 _ (XS.ifNo X89.here hx rfl (hb hby at_360) rfl ((if0 _ _).trans (feq (by decide : ¬ ((1 : Int32) = (0 : Int32)))).1) (XS.aload X89.here hx rfl (hb hby at_363) rfl rfl (XS.aload X89.here hx rfl (hb hby at_365) rfl rfl (XS.aload X89.here hx rfl (hb hby at_367) rfl rfl (XS.iconst X89.here hx rfl (hb hby at_369) kk)))))) ?_
  obtain ⟨cl90, Ar90, qk90, S90, Ng90, H90, G90⟩ := (id V_pb)
  have hin90 : ¬ ((1 : Int32) < 0 ∨ cl90.slots.size ≤ ((1 : Int32)).toNatClampNeg) := inb_of S90 ⟨by decide, by decide⟩
  have hat90 : cl90.slots[((1 : Int32)).toNatClampNeg]? = some (.int pbv2) := Has.at H90 hin90 rfl
  refine GoW.st (S' := T89.setTop (mkF m 374 #[vj q0, .second, vi p1, vi p2, vi p3, vr b1, vr pa, vr pb, vr pc, vr b21, vi 0, vr s38, vr s41, vr s44, vi 1, vi 0, vi 1, vr s78, vr s81, vr s84, .unset] [.int 2, .ref pb, .int pbv2, .ref b1, .ref s81])) (fun _ kk => X89.iaload hx (j := (1 : Int32)) (v := (.int pbv2)) (by rw [e89]; exact Ar90.1) (State.isArrayOf_alike hZ.alike Ar90.2.1) Ar90.2.2 hin90 hat90 (g := (mkF m 370 #[vj q0, .second, vi p1, vi p2, vi p3, vr b1, vr pa, vr pb, vr pc, vr b21, vi 0, vr s38, vr s41, vr s44, vi 1, vi 0, vi 1, vr s78, vr s81, vr s84, .unset] [.int 1, .ref pb, .ref b1, .ref s81])) rfl rfl (hb hby at_370) _ (XS.aload X89.here hx rfl (hb hby at_371) rfl rfl (XS.iconst X89.here hx rfl (hb hby at_373) kk))) ?_
  obtain ⟨cl91, Ar91, qk91, S91, Ng91, H91, G91⟩ := (id V_pb)
  have hin91 : ¬ ((2 : Int32) < 0 ∨ cl91.slots.size ≤ ((2 : Int32)).toNatClampNeg) := inb_of S91 ⟨by decide, by decide⟩
  have hat91 : cl91.slots[((2 : Int32)).toNatClampNeg]? = some (.int pbv3) := Has.at H91 hin91 rfl
  refine GoW.st (S' := T89.setTop (mkF m 375 #[vj q0, .second, vi p1, vi p2, vi p3, vr b1, vr pa, vr pb, vr pc, vr b21, vi 0, vr s38, vr s41, vr s44, vi 1, vi 0, vi 1, vr s78, vr s81, vr s84, .unset] [.int pbv3, .int pbv2, .ref b1, .ref s81])) (fun _ kk => X89.iaload hx (j := (2 : Int32)) (v := (.int pbv3)) (by rw [e89]; exact Ar91.1) (State.isArrayOf_alike hZ.alike Ar91.2.1) Ar91.2.2 hin91 hat91 (g := (mkF m 374 #[vj q0, .second, vi p1, vi p2, vi p3, vr b1, vr pa, vr pb, vr pc, vr b21, vi 0, vr s38, vr s41, vr s44, vi 1, vi 0, vi 1, vr s78, vr s81, vr s84, .unset] [.int 2, .ref pb, .int pbv2, .ref b1, .ref s81])) rfl rfl (hb hby at_374) _ kk) ?_
  obtain ⟨_, _, ⟨T92, L92, k92, n92⟩, -, X92, ⟨Lc92, hQ92, l92, y92, z92⟩, st92⟩ := Jvm.LawKit.callS X89 hx (y := mN15) hown (mvT hZ (ow hw 165 rfl)) (mvT hZ (ow hw 166 rfl)) (mvT hZ (ow hw 4 rfl)) (mvT hZ (ow hw 167 rfl)) (by decide) (backOf (W := 0) (rmSa l Z az hw [] s81 b1 pbv2 pbv3 zc fm k1 6 bs T84.heap n0 Zs86 S_C hzc S_F hfm  V_b1 hz hbs CS81 hr_pb_2) hZ (ow hw 167 rfl) (ow hw 4 rfl) (by decide) (by decide)) (g := (mkF m 375 #[vj q0, .second, vi p1, vi p2, vi p3, vr b1, vr pa, vr pb, vr pc, vr b21, vi 0, vr s38, vr s41, vr s44, vi 1, vi 0, vi 1, vr s78, vr s81, vr s84, .unset] [.int pbv3, .int pbv2, .ref b1, .ref s81])) rfl (by rw [hml]; rfl) (argsL := [.ref s81, .ref b1, .int pbv2, .int pbv3]) (rest := []) (lenOf pd_19 rfl) rfl (oW rfl rfl) (hb hby at_375) (fun _ _ => ⟨rfl, e89, (by decide : 35 + 0 ≤ _), (by decide : 118 + 0 ≤ _)⟩)
  dsimp only [Pt.U, Pt.locs, Pt.cells, Pt.slots] at X92 l92 y92 z92 st92 hQ92
  rw [l92, y92, z92] at X92
  obtain ⟨hv92, N92q, e92⟩ := hQ92
  subst hv92
  have N92 := Fr.app N89 N92q
  refine GoW.st (S' := T92.setTop (mkF m 388 #[vj q0, .second, vi p1, vi p2, vi p3, vr b1, vr pa, vr pb, vr pc, vr b21, vi 0, vr s38, vr s41, vr s44, vi 1, vi 0, vi 1, vr s78, vr s81, vr s84, .unset] [.int 3, .ref pb, .ref b1, .ref s84])) (fun _ kk => st92 _ (XS.ifNo X92.here hx rfl (hb hby at_378) rfl ((if0 _ _).trans (feq (by decide : ¬ ((1 : Int32) = (0 : Int32)))).1) (XS.aload X92.here hx rfl (hb hby at_381) rfl rfl (XS.aload X92.here hx rfl (hb hby at_383) rfl rfl (XS.aload X92.here hx rfl (hb hby at_385) rfl rfl (XS.iconst X92.here hx rfl (hb hby at_387) kk)))))) ?_
  obtain ⟨cl93, Ar93, qk93, S93, Ng93, H93, G93⟩ := (id V_pb)
  have hin93 : ¬ ((3 : Int32) < 0 ∨ cl93.slots.size ≤ ((3 : Int32)).toNatClampNeg) := inb_of S93 ⟨by decide, by decide⟩
  have hat93 : cl93.slots[((3 : Int32)).toNatClampNeg]? = some (.int pbv4) := Has.at H93 hin93 rfl
  refine GoW.st (S' := T92.setTop (mkF m 392 #[vj q0, .second, vi p1, vi p2, vi p3, vr b1, vr pa, vr pb, vr pc, vr b21, vi 0, vr s38, vr s41, vr s44, vi 1, vi 0, vi 1, vr s78, vr s81, vr s84, .unset] [.int 4, .ref pb, .int pbv4, .ref b1, .ref s84])) (fun _ kk => X92.iaload hx (j := (3 : Int32)) (v := (.int pbv4)) (by rw [e92]; exact Ar93.1) (State.isArrayOf_alike hZ.alike Ar93.2.1) Ar93.2.2 hin93 hat93 (g := (mkF m 388 #[vj q0, .second, vi p1, vi p2, vi p3, vr b1, vr pa, vr pb, vr pc, vr b21, vi 0, vr s38, vr s41, vr s44, vi 1, vi 0, vi 1, vr s78, vr s81, vr s84, .unset] [.int 3, .ref pb, .ref b1, .ref s84])) rfl rfl (hb hby at_388) _ (XS.aload X92.here hx rfl (hb hby at_389) rfl rfl (XS.iconst X92.here hx rfl (hb hby at_391) kk))) ?_
  obtain ⟨cl94, Ar94, qk94, S94, Ng94, H94, G94⟩ := (id V_pb)
  have hin94 : ¬ ((4 : Int32) < 0 ∨ cl94.slots.size ≤ ((4 : Int32)).toNatClampNeg) := inb_of S94 ⟨by decide, by decide⟩
  have hat94 : cl94.slots[((4 : Int32)).toNatClampNeg]? = some (.int pbv5) := Has.at H94 hin94 rfl
  refine GoW.st (S' := T92.setTop (mkF m 393 #[vj q0, .second, vi p1, vi p2, vi p3, vr b1, vr pa, vr pb, vr pc, vr b21, vi 0, vr s38, vr s41, vr s44, vi 1, vi 0, vi 1, vr s78, vr s81, vr s84, .unset] [.int pbv5, .int pbv4, .ref b1, .ref s84])) (fun _ kk => X92.iaload hx (j := (4 : Int32)) (v := (.int pbv5)) (by rw [e92]; exact Ar94.1) (State.isArrayOf_alike hZ.alike Ar94.2.1) Ar94.2.2 hin94 hat94 (g := (mkF m 392 #[vj q0, .second, vi p1, vi p2, vi p3, vr b1, vr pa, vr pb, vr pc, vr b21, vi 0, vr s38, vr s41, vr s44, vi 1, vi 0, vi 1, vr s78, vr s81, vr s84, .unset] [.int 4, .ref pb, .int pbv4, .ref b1, .ref s84])) rfl rfl (hb hby at_392) _ kk) ?_
  obtain ⟨_, _, ⟨T95, L95, k95, n95⟩, -, X95, ⟨Lc95, hQ95, l95, y95, z95⟩, st95⟩ := Jvm.LawKit.callS X92 hx (y := mN15) hown (mvT hZ (ow hw 165 rfl)) (mvT hZ (ow hw 166 rfl)) (mvT hZ (ow hw 4 rfl)) (mvT hZ (ow hw 167 rfl)) (by decide) (backOf (W := 0) (rmSa l Z az hw [] s84 b1 pbv4 pbv5 zc fm k1 6 bs T84.heap n0 Zs86 S_C hzc S_F hfm  V_b1 hz hbs CS84 hr_pb_4) hZ (ow hw 167 rfl) (ow hw 4 rfl) (by decide) (by decide)) (g := (mkF m 393 #[vj q0, .second, vi p1, vi p2, vi p3, vr b1, vr pa, vr pb, vr pc, vr b21, vi 0, vr s38, vr s41, vr s44, vi 1, vi 0, vi 1, vr s78, vr s81, vr s84, .unset] [.int pbv5, .int pbv4, .ref b1, .ref s84])) rfl (by rw [hml]; rfl) (argsL := [.ref s84, .ref b1, .int pbv4, .int pbv5]) (rest := []) (lenOf pd_19 rfl) rfl (oW rfl rfl) (hb hby at_393) (fun _ _ => ⟨rfl, e92, (by decide : 35 + 0 ≤ _), (by decide : 118 + 0 ≤ _)⟩)
  dsimp only [Pt.U, Pt.locs, Pt.cells, Pt.slots] at X95 l95 y95 z95 st95 hQ95
  rw [l95, y95, z95] at X95
  obtain ⟨hv95, N95q, e95⟩ := hQ95
  subst hv95
  have N95 := Fr.app N92 N95q
  refine GoW.st (S' := T95.setTop (mkF m 408 #[vj q0, .second, vi p1, vi p2, vi p3, vr b1, vr pa, vr pb, vr pc, vr b21, vi 0, vr s38, vr s41, vr s44, vi 1, vi 0, vi 1, vr s78, vr s81, vr s84, vi 1] [.int 1])) (fun _ kk => st95 _ (XS.ifNo X95.here hx rfl (hb hby at_396) rfl ((if0 _ _).trans (feq (by decide : ¬ ((1 : Int32) = (0 : Int32)))).1) (XS.iconst X95.here hx rfl (hb hby at_399) (XS.goto X95.here hx rfl (pc0 := 400) (pc' := 404) rfl (hb hby at_400) (by decide) (by decide) (XS.istore X95.here hx rfl (hb hby at_404) rfl (l' := #[vj q0, .second, vi p1, vi p2, vi p3, vr b1, vr pa, vr pb, vr pc, vr b21, vi 0, vr s38, vr s41, vr s44, vi 1, vi 0, vi 1, vr s78, vr s81, vr s84, vi 1]) rfl (XS.iload X95.here hx rfl (hb hby at_406) rfl kk)))))) ?_
  refine GoW.st (S' := T95.setTop (mkF m 421 #[vj q0, .second, vi p1, vi p2, vi p3, vr b1, vr pa, vr pb, vr pc, vr b21, vi 0, vr s38, vr s41, vr s44, vi 1, vi 0, vi 1, vr s78, vr s81, vr s84, vi 1] [.int 1])) (fun _ kk => XS.ifNo X95.here hx rfl (hb hby at_408) rfl ((if0 _ _).trans (feq (by decide : ¬ ((1 : Int32) = (0 : Int32)))).1) (XS.iload X95.here hx rfl (hb hby at_411) rfl (XS.ifNo X95.here hx rfl (hb hby at_413) rfl ((if0 _ _).trans (feq (by decide : ¬ ((1 : Int32) = (0 : Int32)))).1) (XS.iconst X95.here hx rfl (hb hby at_416) (XS.goto X95.here hx rfl (pc0 := 417) (pc' := 421) rfl (hb hby at_417) (by decide) (by decide) kk))))) ?_
  exact GoW.retN X95 hx hlk hS (own_hk e95 hk) (t := .boolean) Bd.returns (by simp) (hb hby at_421) (⟨rfl, N95⟩) (by decide) (by decide)
theorem own_fld {args : Array Value} {s : State} {t : Term} {a : Addr} {C n d : String} {k : Int32} (ev : t.eval args s none [] s = some (.ref a)) (h : (Cond.eq (.field t C n d) (.int k)).value args s none s [] = some true) : Fld s s.heap a C n d (.int k) := by
  obtain ⟨x, y, e1, e2, k1, k2⟩ := cmp_v (Or.inl h)
  cases Option.some.inj ((Term.int_eval k).symm.trans e2)
  obtain ⟨z, rfl⟩ := k2
  have q : (Cond.eq (.field t C n d) (.int k)).value args s none s [] = some (decide (z = k)) := by simp [Cond.value, e1, e2]
  cases gotT q h
  exact Fld.start ((fld_at ev).symm.trans e1)
theorem own_not {args : Array Value} {s : State} {t : Term} {z : Int32} (ev : t.eval args s none [] s = some (.int z)) (h : (Cond.not (.eq t (.int 0))).value args s none s [] = some true) : ¬ z = 0 := fun q => by
  subst q
  have e : (Cond.eq t (.int 0)).value args s none s [] = some true := eq_i ev (Term.int_eval 0) rfl
  simp [Cond.value] at h e
  rw [e] at h
  simp at h
theorem own_evr {args : Array Value} {s : State} {t u : Term} {a b : Addr} (e1 : t.eval args s none [] s = some (.ref a)) (e2 : u.eval args s none [] s = some (.ref b)) (h : (Cond.eq t u).value args s none s [] = some true) : a = b := by
  simp [Cond.value, e1, e2] at h
  exact h
theorem comes_1 {Post : Tables → Env → Array Value → State → Outcome → State → Prop} (hpost : ∀ tb e args s v u, (limb_1_1.after args s (.returned v) u = true ∧ limb_1_2.after args s (.returned v) u = true ∧ True) → Jvm.D.FramedW s (.returned v) u (Jvm.fieldLocs frame_1_writes args s ++ Jvm.arrayLocs frame_1_arrays args s ++ Jvm.staticLocs frame_1_statics s) 72 2368 → Post tb e args s (.returned v) u) :
    ArmFor flags0 classFile x code maxLocals ret World_1 tables_1 room_1 Calls_1 rest_1 Pre_1 Post := by
  intro l hfl _ _ p e ha hc hk s m args below hf hA hF happ hP
  obtain ⟨hcalls, hrest, hpre⟩ := hP
  obtain ⟨-, -, -, hnamed, -, -, -, hat⟩ := (Spec.applies_iff hf).mp happ
  obtain ⟨hg, hn⟩ := and_e (Cond.before_iff.mp (show (Jvm.Cond.and given_1 narrow_1).before args s = true from hpre))
  obtain ⟨g0, gr0⟩ := and_e hg
  obtain ⟨ga0, gr1⟩ := and_e gr0
  obtain ⟨ga1, gr2⟩ := and_e gr1
  obtain ⟨ga2, gr3⟩ := and_e gr2
  have ga3 := gr3
  obtain ⟨w0, w1, w2, w3, rfl⟩ : ∃ w0 w1 w2 w3 : Value, args = #[w0, w1, w2, w3] := by
    have hs : args.size = 4 := by simpa [Cond.value, given_1] using g0
    obtain ⟨L⟩ := args
    match L, hs with
    | [w0, w1, w2, w3], _ => exact ⟨w0, w1, w2, w3, rfl⟩
  have hw := fun d (hd : d ∈ tables_1) => atoms_spec (ws := Jvm.Cond.code x code maxLocals ret :: tables_1) hat d (List.mem_cons_of_mem _ hd)
  have hfit : Fit s := fun {y c} hc i hi => by
    obtain ⟨ha, rfl⟩ := Array.getElem?_eq_some_iff.mp hc
    have q := List.all_eq_true.mp ((Array.all_eq_true_iff_forall_mem.mp hF) _ (Array.getElem_mem ha)) i (List.mem_range.mpr hi)
    simpa [Array.getElem?_eq_getElem hi] using q
  obtain ⟨i0, ei0⟩ := isL_v ga0
  obtain rfl : w0 = (.long i0) := Option.some.inj ei0
  obtain ⟨i1, ei1⟩ := is_v ga1
  obtain rfl : w1 = (.int i1) := Option.some.inj ei1
  obtain ⟨i2, ei2⟩ := is_v ga2
  obtain rfl : w2 = (.int i2) := Option.some.inj ei2
  obtain ⟨i3, ei3⟩ := is_v ga3
  obtain rfl : w3 = (.int i3) := Option.some.inj ei3
  have hsets := (atoms_of jdkStatics_1 (show (jdkStatics_1.foldr Jvm.Cond.and restOwn_1).before _ s = true from by rw [← rest_1_c_eq]; exact hrest)).1
  obtain ⟨zc, ezc⟩ := is_v (Cond.before_iff.mp (hsets _ (List.mem_of_getElem? (i := 7) rfl)))
  have S_C : Sta s s.heap "java/lang/String" "COMPACT_STRINGS" "Z" (.int zc) := Sta.start ezc (Or.inl (hsets _ (List.mem_of_getElem? (i := 6) rfl)))
  have hcw := (hsets _ (List.mem_of_getElem? (i := 8) rfl))
  have hzc : ¬ zc = 0 := own_not ezc (Cond.before_iff.mp hcw)
  obtain ⟨hC, -⟩ := hcalls
  have Hc : CHv s consts_1 s.vm s.heap := CHv.start (own_EW hw) hC hcw (ow hw 0 rfl) (ow hw 59 rfl)
  obtain ⟨fm, efm, hfm⟩ := isR_v (Cond.before_iff.mp (hsets _ (List.mem_of_getElem? (i := 14) rfl)))
  have S_F := Sta.start efm (Or.inl (hsets _ (List.mem_of_getElem? (i := 13) rfl)))
  obtain ⟨uu, ev_uu⟩ := exa_v (Cond.before_iff.mp (hsets _ (List.mem_of_getElem? (i := 17) rfl)))
  have E_uu := Exa.start ev_uu (Cond.before_iff.mp (hsets _ (List.mem_of_getElem? (i := 17) rfl)))
  have S_uu := Sta.start ev_uu (Or.inl (hsets _ (List.mem_of_getElem? (i := 16) rfl)))
  obtain ⟨ui, ev_ui⟩ := exa_v (Cond.before_iff.mp (hsets _ (List.mem_of_getElem? (i := 20) rfl)))
  have E_ui := Exa.start ev_ui (Cond.before_iff.mp (hsets _ (List.mem_of_getElem? (i := 20) rfl)))
  have S_ui := Sta.start ev_ui (Or.inl (hsets _ (List.mem_of_getElem? (i := 19) rfl)))
  obtain ⟨ua, ev_ua⟩ := exa_v (Cond.before_iff.mp (hsets _ (List.mem_of_getElem? (i := 23) rfl)))
  have E_ua := Exa.start ev_ua (Cond.before_iff.mp (hsets _ (List.mem_of_getElem? (i := 23) rfl)))
  have S_ua := Sta.start ev_ua (Or.inl (hsets _ (List.mem_of_getElem? (i := 3) rfl)))
  obtain ⟨w_su, ev_su⟩ := exa_v (Cond.before_iff.mp (hsets _ (List.mem_of_getElem? (i := 29) rfl)))
  have eq_su : w_su = uu := own_evr ev_su ev_uu (Cond.before_iff.mp (hsets _ (List.mem_of_getElem? (i := 28) rfl)))
  have S_su := Sta.start ev_su (Or.inl (hsets _ (List.mem_of_getElem? (i := 25) rfl)))
  rw [eq_su] at S_su
  obtain ⟨w_sa, ev_sa⟩ := exa_v (Cond.before_iff.mp (hsets _ (List.mem_of_getElem? (i := 5) rfl)))
  have eq_sa : w_sa = ua := own_evr ev_sa ev_ua (Cond.before_iff.mp (hsets _ (List.mem_of_getElem? (i := 4) rfl)))
  have S_sa := Sta.start ev_sa (Or.inl (hsets _ (List.mem_of_getElem? (i := 1) rfl)))
  rw [eq_sa] at S_sa
  have nui : uu ≠ ui := Exa.ne E_uu E_ui (by decide)
  have nua : uu ≠ ua := Exa.ne E_uu E_ua (by decide)
  have nia : ui ≠ ua := Exa.ne E_ui E_ua (by decide)
  obtain ⟨n, o, h1, h2, h3, _, L, rfl, ⟨rfl, N⟩, hq⟩ := rm0 l s _ hw tables_1 i0 i1 i2 i3 zc fm uu ui ua s.heap s.heap.size (Nat.le_refl _) S_C hzc S_F hfm S_uu S_ui S_ua nui nua nia S_su S_sa E_uu E_ua p e ha hc hk s m _ below hf ((Spec.applies_iff_loose hf).mp happ).1 ⟨rfl, State.Warmed39.refl s, rfl, Hc⟩ trivial
  refine ⟨n, _, h1, h2, h3, hpost _ _ _ _ _ _ ⟨Cond.after_iff.mpr rfl, Cond.after_iff.mpr (eq_i res_at (Term.int_eval (1)) rfl), trivial⟩ ⟨hq.1, hq.2.1, hq.2.2.1, (hq.2.2.2.sift fun y hy => Or.inr (N y hy)).mono (by decide) (by decide)⟩⟩
theorem main_1_1 : Claimed_1_1 := comes_1 fun _ _ _ _ _ _ h hF => ⟨h.1, hF⟩
theorem main_1_2 : Claimed_1_2 := comes_1 fun _ _ _ _ _ _ h hF => ⟨h.2.1, hF⟩
end Jvm.Pilot.@@N@@
namespace Jvm.Pilot.@@N@@
open Jvm Jvm.ClassFile Sem Op Lib Jvm.Free Jvm.Stand Jvm.Pilot.@@N@@.Jvm.D
/-! MADE BY PROGRAM (witnessworld.py) out of the Statement's table words and the real class files: 31 classes; the members and pool entries that the words name. The judged class is class 1, her method 5. -/
namespace start1
open Jvm.ClassFile
def u (s : String) : CpInfo := .utf8 (stringToUtf16 s)
/-- a pool by its gaps: so many unusable entries, then the entry; so many at the end -/
def gap : Nat → List CpInfo → List CpInfo
  | 0, r => r
  | n + 1, r => .unusable :: gap n r
def poolList (es : List (Nat × CpInfo)) (last : Nat) : List CpInfo := es.foldr (fun e r => gap e.1 (e.2 :: r)) (gap last [])
def pool (es : List (Nat × CpInfo)) (last : Nat) : Array CpInfo := ⟨poolList es last⟩
def fileOf (pool : Array CpInfo) (this : Nat) (attrs : Array Attribute := #[]) (ms : Array MethodInfo := #[]) (fl : Nat := 33) (sup : Nat := 0) (ifs : Array Nat := #[]) (fds : Array FieldInfo := #[]) : ClassFile where
  minorVersion := 0
  majorVersion := 65
  constantPool := pool
  accessFlags := fl
  thisClass := this
  superClass := sup
  interfaces := ifs
  fields := fds
  methods := ms
  attributes := attrs
def plain (name : String) (sup : Option ClassId) : Class where
  name := name
  kind := .ordinary
  loader := none
  accessFlags := 33
  super := sup
  interfaces := #[]
  cf := none
  fields := #[]
  methods := #[]
  instanceTypes := #[]
  staticTypes := #[]
  resolved := #[]
  callSites := []
  init := .initialized
  statics := none
  mirror := none

def pool0 : Array CpInfo := pool [(5, u "<init>"), (0, u "()V"), (1, .class_ 10), (1, u "java/lang/Object"), (85, u "clone"), (0, u "()Ljava/lang/Object;")] 26

def k0c0 : Code := { maxStack := 0, maxLocals := 1, code := object_method_1_code, exceptionTable := #[], attributes := #[] }
def k0m0 : Method := { name := "<init>", desc := "()V", sig := { parameters := [], returnType := none }, accessFlags := 1, code := some k0c0 }
def k0m1 : Method := { name := "clone", desc := "()Ljava/lang/Object;", sig := { parameters := [], returnType := some (.object "java/lang/Object") }, accessFlags := 260, code := none }
/-- java/lang/Object -/
def k0 : Class := { plain "java/lang/Object" none with
  accessFlags := 33
  interfaces := #[]
  cf := some (fileOf pool0 8 #[] #[{ accessFlags := 1, nameIndex := 5, descriptorIndex := 6, attributes := #[] }, { accessFlags := 260, nameIndex := 96, descriptorIndex := 97, attributes := #[] }] 33 0 #[] #[])
  fields := #[]
  methods := #[k0m0, k0m1]
  instanceTypes := #[]
  staticTypes := #[]
  resolved := Array.replicate 124 none
  statics := none }

def pool1 : Array CpInfo := pool [(2, .class_ 4), (1, u "java/lang/Object"), (0, u "<init>"), (0, u "()V"), (0, .methodref 8 9), (0, .class_ 10), (0, .nameAndType 11 12), (0, u "com/example/grantbook/grantbook/licence/PlainAttributesAddPinLaw"), (0, u "field"), (0, u "(II)I"), (0, .methodref 14 15), (0, .class_ 16), (0, .nameAndType 17 12), (0, u "java/lang/Math"), (0, u "min"), (0, .methodref 14 19), (0, .nameAndType 20 12), (0, u "max"), (0, .methodref 22 23), (0, .class_ 24), (0, .nameAndType 25 26), (0, u "java/lang/String"), (0, u "charAt"), (0, u "(I)C"), (0, .methodref 22 28), (0, .nameAndType 29 30), (0, u "length"), (0, u "()I"), (0, .methodref 8 32), (0, .nameAndType 33 34), (0, u "at"), (0, u "(Ljava/lang/String;[BIII)Z"), (0, .long 127), (1, .methodref 8 38), (0, .nameAndType 39 40), (0, u "attr"), (0, u "(I)[I"), (0, .class_ 42), (0, u "com/example/grantbook/grantbook/licence/PlainAttributes"), (0, .methodref 41 44), (0, .nameAndType 5 45), (0, u "([BI)V"), (0, .methodref 41 47), (0, .nameAndType 48 49), (0, u "add"), (0, u "(IIIII)I"), (0, .string 51), (0, u ""), (0, .methodref 41 53), (0, .nameAndType 54 55), (0, u "tell"), (0, u "(ILjava/lang/String;)V"), (0, .methodref 41 57), (0, .nameAndType 58 59), (0, u "getQName"), (0, u "(I)Ljava/lang/String;"), (0, .methodref 41 61), (0, .nameAndType 62 59), (0, u "getLocalName"), (0, .methodref 41 64), (0, .nameAndType 65 59), (0, u "getValue"), (0, .methodref 8 67), (0, .nameAndType 68 69), (0, u "same"), (0, u "(Ljava/lang/String;[BII)Z"), (0, .methodref 41 71), (0, .nameAndType 72 6), (0, u "clear"), (3, u "law"), (0, u "(JIII)Z")] 6

def k1m0 : Method := { name := "<init>", desc := "()V", sig := { parameters := [], returnType := none }, accessFlags := 1, code := none }
def k1c1 : Code := { maxStack := 3, maxLocals := 2, code := method_2_code, exceptionTable := #[], attributes := #[] }
def k1m1 : Method := { name := "field", desc := "(II)I", sig := { parameters := [.int, .int], returnType := some .int }, accessFlags := 10, code := some k1c1 }
def k1c2 : Code := { maxStack := 5, maxLocals := 9, code := method_3_code, exceptionTable := #[], attributes := #[] }
def k1m2 : Method := { name := "attr", desc := "(I)[I", sig := { parameters := [.int], returnType := some (.array .int) }, accessFlags := 10, code := some k1c2 }
def k1c3 : Code := { maxStack := 4, maxLocals := 5, code := method_4_code, exceptionTable := #[], attributes := #[] }
def k1m3 : Method := { name := "at", desc := "(Ljava/lang/String;[BIII)Z", sig := { parameters := [(.object "java/lang/String"), (.array .byte), .int, .int, .int], returnType := some .boolean }, accessFlags := 10, code := some k1c3 }
def k1c4 : Code := { maxStack := 5, maxLocals := 5, code := method_5_code, exceptionTable := #[], attributes := #[] }
def k1m4 : Method := { name := "same", desc := "(Ljava/lang/String;[BII)Z", sig := { parameters := [(.object "java/lang/String"), (.array .byte), .int, .int], returnType := some .boolean }, accessFlags := 10, code := some k1c4 }
def k1c5 : Code := { maxStack := 7, maxLocals := 21, code := code, exceptionTable := #[], attributes := #[] }
def k1m5 : Method := { name := "law", desc := "(JIII)Z", sig := { parameters := [.long, .int, .int, .int], returnType := some .boolean }, accessFlags := 9, code := some k1c5 }
/-- com/example/grantbook/grantbook/licence/PlainAttributesAddPinLaw -/
def k1 : Class := { plain "com/example/grantbook/grantbook/licence/PlainAttributesAddPinLaw" (some 0) with
  accessFlags := 49
  interfaces := #[]
  cf := some (fileOf pool1 8 #[] #[{ accessFlags := 1, nameIndex := 5, descriptorIndex := 6, attributes := #[] }, { accessFlags := 10, nameIndex := 11, descriptorIndex := 12, attributes := #[] }, { accessFlags := 10, nameIndex := 39, descriptorIndex := 40, attributes := #[] }, { accessFlags := 10, nameIndex := 33, descriptorIndex := 34, attributes := #[] }, { accessFlags := 10, nameIndex := 68, descriptorIndex := 69, attributes := #[] }, { accessFlags := 9, nameIndex := 76, descriptorIndex := 77, attributes := #[] }] 49 2 #[] #[])
  fields := #[]
  methods := #[k1m0, k1m1, k1m2, k1m3, k1m4, k1m5]
  instanceTypes := #[]
  staticTypes := #[]
  resolved := Array.replicate 84 none
  statics := none }

def pool2 : Array CpInfo := pool [(1, .class_ 2), (0, u "java/lang/Math"), (1, .class_ 6), (1, u "java/lang/Object"), (0, u "<init>"), (0, u "()V"), (89, .class_ 100), (1, u "java/lang/Math$RandomNumberGeneratorHolder"), (71, u "negativeZeroFloatBits"), (0, u "J"), (2, u "negativeZeroDoubleBits"), (21, u "max"), (2, u "min"), (43, u "$assertionsDisabled"), (0, u "Z"), (88, u "(II)I"), (2, u "twoToTheDoubleScaleDown"), (0, u "D"), (4, u "twoToTheDoubleScaleUp"), (9, u "E"), (3, u "PI"), (2, u "TAU"), (2, u "DEGREES_TO_RADIANS"), (0, u "RADIANS_TO_DEGREES")] 94

def k2m0 : Method := { name := "<init>", desc := "()V", sig := { parameters := [], returnType := none }, accessFlags := 2, code := none }
def k2c1 : Code := { maxStack := 2, maxLocals := 2, code := jdk_29_method_65_code, exceptionTable := #[], attributes := #[] }
def k2m1 : Method := { name := "max", desc := "(II)I", sig := { parameters := [.int, .int], returnType := some .int }, accessFlags := 9, code := some k2c1 }
def k2c2 : Code := { maxStack := 2, maxLocals := 2, code := jdk_29_method_69_code, exceptionTable := #[], attributes := #[] }
def k2m2 : Method := { name := "min", desc := "(II)I", sig := { parameters := [.int, .int], returnType := some .int }, accessFlags := 9, code := some k2c2 }
/-- java/lang/Math -/
def k2 : Class := { plain "java/lang/Math" (some 0) with
  accessFlags := 49
  interfaces := #[]
  cf := some (fileOf pool2 1 #[.nestMembers #[98]] #[{ accessFlags := 2, nameIndex := 7, descriptorIndex := 8, attributes := #[] }, { accessFlags := 9, nameIndex := 198, descriptorIndex := 335, attributes := #[] }, { accessFlags := 9, nameIndex := 201, descriptorIndex := 335, attributes := #[] }] 49 4 #[] #[{ accessFlags := 25, nameIndex := 354, descriptorIndex := 339, attributes := #[] }, { accessFlags := 25, nameIndex := 358, descriptorIndex := 339, attributes := #[] }, { accessFlags := 25, nameIndex := 361, descriptorIndex := 339, attributes := #[] }, { accessFlags := 26, nameIndex := 364, descriptorIndex := 339, attributes := #[] }, { accessFlags := 26, nameIndex := 365, descriptorIndex := 339, attributes := #[] }, { accessFlags := 26, nameIndex := 172, descriptorIndex := 173, attributes := #[] }, { accessFlags := 26, nameIndex := 176, descriptorIndex := 173, attributes := #[] }, { accessFlags := 8, nameIndex := 344, descriptorIndex := 339, attributes := #[] }, { accessFlags := 8, nameIndex := 338, descriptorIndex := 339, attributes := #[] }, { accessFlags := 4120, nameIndex := 245, descriptorIndex := 246, attributes := #[] }])
  fields := #[{ name := "E", type := .double, accessFlags := 25, slot := 0, constantValue := 0 }, { name := "PI", type := .double, accessFlags := 25, slot := 1, constantValue := 0 }, { name := "TAU", type := .double, accessFlags := 25, slot := 2, constantValue := 0 }, { name := "DEGREES_TO_RADIANS", type := .double, accessFlags := 26, slot := 3, constantValue := 0 }, { name := "RADIANS_TO_DEGREES", type := .double, accessFlags := 26, slot := 4, constantValue := 0 }, { name := "negativeZeroFloatBits", type := .long, accessFlags := 26, slot := 5, constantValue := 0 }, { name := "negativeZeroDoubleBits", type := .long, accessFlags := 26, slot := 6, constantValue := 0 }, { name := "twoToTheDoubleScaleUp", type := .double, accessFlags := 8, slot := 7, constantValue := 0 }, { name := "twoToTheDoubleScaleDown", type := .double, accessFlags := 8, slot := 8, constantValue := 0 }, { name := "$assertionsDisabled", type := .boolean, accessFlags := 4120, slot := 9, constantValue := 0 }]
  methods := #[k2m0, k2m1, k2m2]
  instanceTypes := #[]
  staticTypes := #[.double, .double, .double, .double, .double, .long, .long, .double, .double, .boolean]
  resolved := Array.replicate 460 none
  statics := none }

def pool3 : Array CpInfo := pool [(1, u "org/xml/sax/Attributes"), (0, .class_ 1), (0, u "java/lang/Object"), (0, .class_ 3)] 0

/-- org/xml/sax/Attributes -/
def k3 : Class := { plain "org/xml/sax/Attributes" (some 0) with
  accessFlags := 1537
  interfaces := #[]
  cf := some (fileOf pool3 2 #[] #[] 1537 4 #[] #[])
  fields := #[]
  methods := #[]
  instanceTypes := #[]
  staticTypes := #[]
  resolved := Array.replicate 5 none
  statics := none }

def pool4 : Array CpInfo := pool [(1, .methodref 2 3), (0, .class_ 4), (0, .nameAndType 5 6), (0, u "java/lang/Object"), (0, u "<init>"), (0, u "()V"), (0, .fieldref 8 9), (0, .class_ 10), (0, .nameAndType 11 12), (0, u "com/example/grantbook/grantbook/licence/PlainAttributes"), (0, u "bytes"), (0, u "[B"), (0, .fieldref 8 14), (0, .nameAndType 15 16), (0, u "nameStarts"), (0, u "[I"), (0, .fieldref 8 18), (0, .nameAndType 19 16), (0, u "localNameStarts"), (0, .fieldref 8 21), (0, .nameAndType 22 16), (0, u "nameEnds"), (0, .fieldref 8 24), (0, .nameAndType 25 16), (0, u "valueStarts"), (0, .fieldref 8 27), (0, .nameAndType 28 16), (0, u "valueEnds"), (0, .class_ 30), (0, u "java/lang/String"), (0, .fieldref 8 32), (0, .nameAndType 33 34), (0, u "qNames"), (0, u "[Ljava/lang/String;"), (0, .fieldref 8 36), (0, .nameAndType 37 34), (0, u "localNames"), (0, .fieldref 8 39), (0, .nameAndType 40 34), (0, u "values"), (0, .fieldref 8 42), (0, .nameAndType 43 16), (0, u "told"), (0, .fieldref 8 45), (0, .nameAndType 46 34), (0, u "uris"), (0, .fieldref 8 48), (0, .nameAndType 49 50), (0, u "added"), (0, u "I"), (0, .fieldref 8 52), (0, .nameAndType 53 50), (0, u "length"), (3, u "(I)Z"), (6, .methodref 8 65), (0, .nameAndType 66 67), (0, u "localName"), (0, u "(I)Ljava/lang/String;"), (2, .methodref 8 71), (0, .nameAndType 72 73), (0, u "text"), (0, u "(II)Ljava/lang/String;"), (10, .fieldref 85 86), (0, .class_ 87), (0, .nameAndType 88 89), (0, u "java/nio/charset/StandardCharsets"), (0, u "UTF_8"), (0, u "Ljava/nio/charset/Charset;"), (0, .methodref 29 91), (0, .nameAndType 5 92), (0, u "([BIILjava/nio/charset/Charset;)V"), (0, .fieldref 85 94), (0, .nameAndType 95 89), (0, u "US_ASCII"), (7, .methodref 8 104), (0, .nameAndType 105 57), (0, u "isTold"), (0, .methodref 8 107), (0, .nameAndType 108 67), (0, u "qName"), (2, .methodref 8 112), (0, .nameAndType 113 67), (0, u "value"), (12, u "getValue"), (0, .class_ 128), (0, u "org/xml/sax/Attributes"), (0, u "TYPE"), (0, u "Ljava/lang/String;"), (1, u "XMLNS"), (0, u "([BI)V"), (2, u "clear"), (0, u "add"), (0, u "(IIIII)I"), (8, u "tell"), (0, u "(ILjava/lang/String;)V"), (2, u "getLocalName"), (0, u "getQName")] 4

def k4c0 : Code := { maxStack := 2, maxLocals := 3, code := prog_21_method_1_code, exceptionTable := #[], attributes := #[] }
def k4m0 : Method := { name := "<init>", desc := "([BI)V", sig := { parameters := [(.array .byte), .int], returnType := none }, accessFlags := 0, code := some k4c0 }
def k4c1 : Code := { maxStack := 2, maxLocals := 1, code := prog_21_method_2_code, exceptionTable := #[], attributes := #[] }
def k4m1 : Method := { name := "clear", desc := "()V", sig := { parameters := [], returnType := none }, accessFlags := 0, code := some k4c1 }
def k4c2 : Code := { maxStack := 4, maxLocals := 6, code := prog_21_method_3_code, exceptionTable := #[], attributes := #[] }
def k4m2 : Method := { name := "add", desc := "(IIIII)I", sig := { parameters := [.int, .int, .int, .int, .int], returnType := some .int }, accessFlags := 0, code := some k4c2 }
def k4c3 : Code := { maxStack := 3, maxLocals := 3, code := prog_21_method_11_code, exceptionTable := #[], attributes := #[] }
def k4m3 : Method := { name := "tell", desc := "(ILjava/lang/String;)V", sig := { parameters := [.int, (.object "java/lang/String")], returnType := none }, accessFlags := 0, code := some k4c3 }
def k4c4 : Code := { maxStack := 8, maxLocals := 3, code := prog_21_method_12_code, exceptionTable := #[], attributes := #[] }
def k4m4 : Method := { name := "value", desc := "(I)Ljava/lang/String;", sig := { parameters := [.int], returnType := some (.object "java/lang/String") }, accessFlags := 0, code := some k4c4 }
def k4c5 : Code := { maxStack := 6, maxLocals := 2, code := prog_21_method_13_code, exceptionTable := #[], attributes := #[] }
def k4m5 : Method := { name := "qName", desc := "(I)Ljava/lang/String;", sig := { parameters := [.int], returnType := some (.object "java/lang/String") }, accessFlags := 2, code := some k4c5 }
def k4c6 : Code := { maxStack := 6, maxLocals := 2, code := prog_21_method_14_code, exceptionTable := #[], attributes := #[] }
def k4m6 : Method := { name := "localName", desc := "(I)Ljava/lang/String;", sig := { parameters := [.int], returnType := some (.object "java/lang/String") }, accessFlags := 2, code := some k4c6 }
def k4c7 : Code := { maxStack := 6, maxLocals := 3, code := prog_21_method_15_code, exceptionTable := #[], attributes := #[] }
def k4m7 : Method := { name := "text", desc := "(II)Ljava/lang/String;", sig := { parameters := [.int, .int], returnType := some (.object "java/lang/String") }, accessFlags := 2, code := some k4c7 }
def k4c8 : Code := { maxStack := 2, maxLocals := 2, code := prog_21_method_17_code, exceptionTable := #[], attributes := #[] }
def k4m8 : Method := { name := "isTold", desc := "(I)Z", sig := { parameters := [.int], returnType := some .boolean }, accessFlags := 2, code := some k4c8 }
def k4c9 : Code := { maxStack := 3, maxLocals := 2, code := prog_21_method_20_code, exceptionTable := #[], attributes := #[] }
def k4m9 : Method := { name := "getLocalName", desc := "(I)Ljava/lang/String;", sig := { parameters := [.int], returnType := some (.object "java/lang/String") }, accessFlags := 1, code := some k4c9 }
def k4c10 : Code := { maxStack := 3, maxLocals := 2, code := prog_21_method_21_code, exceptionTable := #[], attributes := #[] }
def k4m10 : Method := { name := "getQName", desc := "(I)Ljava/lang/String;", sig := { parameters := [.int], returnType := some (.object "java/lang/String") }, accessFlags := 1, code := some k4c10 }
def k4c11 : Code := { maxStack := 3, maxLocals := 2, code := prog_21_method_23_code, exceptionTable := #[], attributes := #[] }
def k4m11 : Method := { name := "getValue", desc := "(I)Ljava/lang/String;", sig := { parameters := [.int], returnType := some (.object "java/lang/String") }, accessFlags := 1, code := some k4c11 }
/-- com/example/grantbook/grantbook/licence/PlainAttributes -/
def k4 : Class := { plain "com/example/grantbook/grantbook/licence/PlainAttributes" (some 0) with
  accessFlags := 48
  interfaces := #[3]
  cf := some (fileOf pool4 8 #[] #[{ accessFlags := 0, nameIndex := 5, descriptorIndex := 133, attributes := #[] }, { accessFlags := 0, nameIndex := 136, descriptorIndex := 6, attributes := #[] }, { accessFlags := 0, nameIndex := 137, descriptorIndex := 138, attributes := #[] }, { accessFlags := 0, nameIndex := 147, descriptorIndex := 148, attributes := #[] }, { accessFlags := 0, nameIndex := 113, descriptorIndex := 67, attributes := #[] }, { accessFlags := 2, nameIndex := 108, descriptorIndex := 67, attributes := #[] }, { accessFlags := 2, nameIndex := 66, descriptorIndex := 67, attributes := #[] }, { accessFlags := 2, nameIndex := 72, descriptorIndex := 73, attributes := #[] }, { accessFlags := 2, nameIndex := 105, descriptorIndex := 57, attributes := #[] }, { accessFlags := 1, nameIndex := 151, descriptorIndex := 67, attributes := #[] }, { accessFlags := 1, nameIndex := 152, descriptorIndex := 67, attributes := #[] }, { accessFlags := 1, nameIndex := 126, descriptorIndex := 67, attributes := #[] }] 48 2 #[127] #[{ accessFlags := 26, nameIndex := 129, descriptorIndex := 130, attributes := #[] }, { accessFlags := 26, nameIndex := 132, descriptorIndex := 130, attributes := #[] }, { accessFlags := 18, nameIndex := 11, descriptorIndex := 12, attributes := #[] }, { accessFlags := 18, nameIndex := 15, descriptorIndex := 16, attributes := #[] }, { accessFlags := 18, nameIndex := 19, descriptorIndex := 16, attributes := #[] }, { accessFlags := 18, nameIndex := 22, descriptorIndex := 16, attributes := #[] }, { accessFlags := 18, nameIndex := 25, descriptorIndex := 16, attributes := #[] }, { accessFlags := 18, nameIndex := 28, descriptorIndex := 16, attributes := #[] }, { accessFlags := 18, nameIndex := 33, descriptorIndex := 34, attributes := #[] }, { accessFlags := 18, nameIndex := 37, descriptorIndex := 34, attributes := #[] }, { accessFlags := 18, nameIndex := 40, descriptorIndex := 34, attributes := #[] }, { accessFlags := 2, nameIndex := 49, descriptorIndex := 50, attributes := #[] }, { accessFlags := 18, nameIndex := 43, descriptorIndex := 16, attributes := #[] }, { accessFlags := 18, nameIndex := 46, descriptorIndex := 34, attributes := #[] }, { accessFlags := 2, nameIndex := 53, descriptorIndex := 50, attributes := #[] }])
  fields := #[{ name := "TYPE", type := (.object "java/lang/String"), accessFlags := 26, slot := 0, constantValue := 0 }, { name := "XMLNS", type := (.object "java/lang/String"), accessFlags := 26, slot := 1, constantValue := 0 }, { name := "bytes", type := (.array .byte), accessFlags := 18, slot := 0, constantValue := 0 }, { name := "nameStarts", type := (.array .int), accessFlags := 18, slot := 1, constantValue := 0 }, { name := "localNameStarts", type := (.array .int), accessFlags := 18, slot := 2, constantValue := 0 }, { name := "nameEnds", type := (.array .int), accessFlags := 18, slot := 3, constantValue := 0 }, { name := "valueStarts", type := (.array .int), accessFlags := 18, slot := 4, constantValue := 0 }, { name := "valueEnds", type := (.array .int), accessFlags := 18, slot := 5, constantValue := 0 }, { name := "qNames", type := (.array (.object "java/lang/String")), accessFlags := 18, slot := 6, constantValue := 0 }, { name := "localNames", type := (.array (.object "java/lang/String")), accessFlags := 18, slot := 7, constantValue := 0 }, { name := "values", type := (.array (.object "java/lang/String")), accessFlags := 18, slot := 8, constantValue := 0 }, { name := "added", type := .int, accessFlags := 2, slot := 9, constantValue := 0 }, { name := "told", type := (.array .int), accessFlags := 18, slot := 10, constantValue := 0 }, { name := "uris", type := (.array (.object "java/lang/String")), accessFlags := 18, slot := 11, constantValue := 0 }, { name := "length", type := .int, accessFlags := 2, slot := 12, constantValue := 0 }]
  methods := #[k4m0, k4m1, k4m2, k4m3, k4m4, k4m5, k4m6, k4m7, k4m8, k4m9, k4m10, k4m11]
  instanceTypes := #[(.array .byte), (.array .int), (.array .int), (.array .int), (.array .int), (.array .int), (.array (.object "java/lang/String")), (.array (.object "java/lang/String")), (.array (.object "java/lang/String")), .int, (.array .int), (.array (.object "java/lang/String")), .int]
  staticTypes := #[(.object "java/lang/String"), (.object "java/lang/String")]
  resolved := Array.replicate 157 none
  statics := none }

def pool5 : Array CpInfo := pool [(1, .class_ 2), (0, u "java/io/Serializable"), (0, .class_ 4), (0, u "java/lang/Object")] 2

/-- java/io/Serializable -/
def k5 : Class := { plain "java/io/Serializable" (some 0) with
  accessFlags := 1537
  interfaces := #[]
  cf := some (fileOf pool5 1 #[] #[] 1537 3 #[] #[])
  fields := #[]
  methods := #[]
  instanceTypes := #[]
  staticTypes := #[]
  resolved := Array.replicate 7 none
  statics := none }

def pool6 : Array CpInfo := pool [(1, .class_ 2), (0, u "java/lang/Comparable"), (0, .class_ 4), (0, u "java/lang/Object")] 7

/-- java/lang/Comparable -/
def k6 : Class := { plain "java/lang/Comparable" (some 0) with
  accessFlags := 1537
  interfaces := #[]
  cf := some (fileOf pool6 1 #[] #[] 1537 3 #[] #[])
  fields := #[]
  methods := #[]
  instanceTypes := #[]
  staticTypes := #[]
  resolved := Array.replicate 12 none
  statics := none }

def pool7 : Array CpInfo := pool [(2, .class_ 4), (1, u "java/lang/CharSequence"), (42, .class_ 48), (0, u "java/lang/CharSequence$1CodePointIterator"), (10, .class_ 60), (0, u "java/lang/CharSequence$1CharIterator"), (5, .class_ 67), (0, u "java/lang/Object")] 63

/-- java/lang/CharSequence -/
def k7 : Class := { plain "java/lang/CharSequence" (some 0) with
  accessFlags := 1537
  interfaces := #[]
  cf := some (fileOf pool7 2 #[.nestMembers #[47, 59]] #[] 1537 66 #[] #[])
  fields := #[]
  methods := #[]
  instanceTypes := #[]
  staticTypes := #[]
  resolved := Array.replicate 131 none
  statics := none }

def pool8 : Array CpInfo := pool [(1, .class_ 2), (0, u "java/lang/constant/Constable"), (0, .class_ 4), (0, u "java/lang/Object")] 6

/-- java/lang/constant/Constable -/
def k8 : Class := { plain "java/lang/constant/Constable" (some 0) with
  accessFlags := 1537
  interfaces := #[]
  cf := some (fileOf pool8 1 #[] #[] 1537 3 #[] #[])
  fields := #[]
  methods := #[]
  instanceTypes := #[]
  staticTypes := #[]
  resolved := Array.replicate 11 none
  statics := none }

def pool9 : Array CpInfo := pool [(1, .class_ 2), (0, u "java/lang/constant/ConstantDesc"), (0, .class_ 4), (0, u "java/lang/Object")] 32

/-- java/lang/constant/ConstantDesc -/
def k9 : Class := { plain "java/lang/constant/ConstantDesc" (some 0) with
  accessFlags := 1537
  interfaces := #[]
  cf := some (fileOf pool9 1 #[] #[] 1537 3 #[] #[])
  fields := #[]
  methods := #[]
  instanceTypes := #[]
  staticTypes := #[]
  resolved := Array.replicate 37 none
  statics := none }

def pool10 : Array CpInfo := pool [(1, .methodref 2 3), (0, .class_ 4), (0, .nameAndType 5 6), (0, u "java/lang/Object"), (0, u "<init>"), (0, u "()V"), (0, .string 8), (0, u ""), (0, .fieldref 10 11), (0, .class_ 12), (0, .nameAndType 13 14), (0, u "java/lang/String"), (0, u "value"), (0, u "[B"), (0, .fieldref 10 16), (0, .nameAndType 17 18), (0, u "coder"), (0, u "B"), (2, u "hash"), (0, u "I"), (2, u "hashIsZero"), (0, u "Z"), (7, .methodref 10 35), (0, .nameAndType 36 37), (0, u "checkBoundsOffCount"), (0, u "(III)I"), (0, .fieldref 10 39), (0, .nameAndType 40 26), (0, u "COMPACT_STRINGS"), (13, .methodref 55 56), (0, .class_ 57), (0, .nameAndType 58 59), (0, u "java/util/Arrays"), (0, u "copyOfRange"), (0, u "([BII)[B"), (15, .methodref 10 76), (0, .nameAndType 5 77), (0, u "(Ljava/nio/charset/Charset;[BII)V"), (0, .methodref 79 80), (0, .class_ 81), (0, .nameAndType 82 83), (0, u "java/util/Objects"), (0, u "requireNonNull"), (0, u "(Ljava/lang/Object;)Ljava/lang/Object;"), (0, .class_ 85), (0, u "java/nio/charset/Charset"), (0, .fieldref 87 88), (0, .class_ 89), (0, .nameAndType 90 91), (0, u "sun/nio/cs/UTF_8"), (0, u "INSTANCE"), (0, u "Lsun/nio/cs/UTF_8;"), (0, .methodref 93 94), (0, .class_ 95), (0, .nameAndType 96 97), (0, u "java/lang/StringCoding"), (0, u "countPositives"), (0, u "([BII)I"), (9, .class_ 109), (1, u "java/lang/StringLatin1"), (6, .fieldref 117 118), (0, .class_ 119), (0, .nameAndType 90 120), (0, u "sun/nio/cs/ISO_8859_1"), (0, u "Lsun/nio/cs/ISO_8859_1;"), (2, .fieldref 124 125), (0, .class_ 126), (0, .nameAndType 90 127), (0, u "sun/nio/cs/US_ASCII"), (0, u "Lsun/nio/cs/US_ASCII;"), (0, .methodref 93 129), (0, .nameAndType 130 131), (0, u "hasNegatives"), (0, u "([BII)Z"), (10, u "()Z"), (95, u "([BIILjava/nio/charset/Charset;)V"), (95, u "()I"), (0, .methodref 10 336), (0, .nameAndType 17 337), (0, u "()B"), (25, u "([BI)C"), (27, u "(II)V"), (35, u "(I)C"), (64, .methodref 10 493), (0, .nameAndType 494 142), (0, u "isLatin1"), (0, .methodref 107 496), (0, .nameAndType 497 363), (0, u "charAt"), (3, u "checkIndex"), (5, u "length"), (67, .class_ 576), (0, u "java/lang/CharSequence"), (22, u "CASE_INSENSITIVE_ORDER"), (0, u "Ljava/util/Comparator;"), (452, .fieldref 1054 1055), (0, .class_ 1056), (0, .nameAndType 1057 1058), (0, u "jdk/internal/util/Preconditions"), (0, u "SIOOBE_FORMATTER"), (0, u "Ljava/util/function/BiFunction;"), (0, .methodref 1054 1060), (0, .nameAndType 501 1061), (0, u "(IILjava/util/function/BiFunction;)I"), (2, u "(IIILjava/util/function/BiFunction;)I"), (0, .methodref 1054 1066), (0, .nameAndType 1067 1064), (0, u "checkFromIndexSize"), (33, u "serialPersistentFields"), (0, u "[Ljava/io/ObjectStreamField;"), (0, .class_ 1104), (0, u "java/lang/String$CaseInsensitiveComparator"), (1, .class_ 1107), (0, u "java/io/Serializable"), (0, .class_ 1109), (0, u "java/lang/Comparable"), (0, .class_ 1111), (0, u "java/lang/constant/Constable"), (0, .class_ 1113), (0, u "java/lang/constant/ConstantDesc"), (2, u "serialVersionUID"), (0, u "J"), (3, u "REPL"), (0, u "C"), (2, u "LATIN1"), (1, u "UTF16")] 323

def k10m0 : Method := { name := "<init>", desc := "()V", sig := { parameters := [], returnType := none }, accessFlags := 1, code := none }
def k10c1 : Code := { maxStack := 6, maxLocals := 5, code := jdk_42_method_10_code, exceptionTable := #[], attributes := #[] }
def k10m1 : Method := { name := "<init>", desc := "([BIILjava/nio/charset/Charset;)V", sig := { parameters := [(.array .byte), .int, .int, (.object "java/nio/charset/Charset")], returnType := none }, accessFlags := 1, code := some k10c1 }
def k10c2 : Code := { maxStack := 6, maxLocals := 11, code := jdk_42_method_11_code, exceptionTable := #[{ startPc := 800, endPc := 813, handlerPc := 816, catchType := 202 }], attributes := #[] }
def k10m2 : Method := { name := "<init>", desc := "(Ljava/nio/charset/Charset;[BII)V", sig := { parameters := [(.object "java/nio/charset/Charset"), (.array .byte), .int, .int], returnType := none }, accessFlags := 2, code := some k10c2 }
def k10c3 : Code := { maxStack := 2, maxLocals := 1, code := jdk_42_method_54_code, exceptionTable := #[], attributes := #[] }
def k10m3 : Method := { name := "length", desc := "()I", sig := { parameters := [], returnType := some .int }, accessFlags := 1, code := some k10c3 }
def k10c4 : Code := { maxStack := 2, maxLocals := 2, code := jdk_42_method_56_code, exceptionTable := #[], attributes := #[] }
def k10m4 : Method := { name := "charAt", desc := "(I)C", sig := { parameters := [.int], returnType := some .char }, accessFlags := 1, code := some k10c4 }
def k10c5 : Code := { maxStack := 1, maxLocals := 1, code := jdk_42_method_152_code, exceptionTable := #[], attributes := #[] }
def k10m5 : Method := { name := "coder", desc := "()B", sig := { parameters := [], returnType := some .byte }, accessFlags := 0, code := some k10c5 }
def k10c6 : Code := { maxStack := 1, maxLocals := 1, code := jdk_42_method_154_code, exceptionTable := #[], attributes := #[] }
def k10m6 : Method := { name := "isLatin1", desc := "()Z", sig := { parameters := [], returnType := some .boolean }, accessFlags := 0, code := some k10c6 }
def k10c7 : Code := { maxStack := 3, maxLocals := 2, code := jdk_42_method_155_code, exceptionTable := #[], attributes := #[] }
def k10m7 : Method := { name := "checkIndex", desc := "(II)V", sig := { parameters := [.int, .int], returnType := none }, accessFlags := 8, code := some k10c7 }
def k10c8 : Code := { maxStack := 4, maxLocals := 3, code := jdk_42_method_157_code, exceptionTable := #[], attributes := #[] }
def k10m8 : Method := { name := "checkBoundsOffCount", desc := "(III)I", sig := { parameters := [.int, .int, .int], returnType := some .int }, accessFlags := 8, code := some k10c8 }
/-- java/lang/String -/
def k10 : Class := { plain "java/lang/String" (some 0) with
  accessFlags := 49
  interfaces := #[5, 6, 7, 8, 9]
  cf := some (fileOf pool10 10 #[.nestMembers #[1103]] #[{ accessFlags := 1, nameIndex := 5, descriptorIndex := 6, attributes := #[] }, { accessFlags := 1, nameIndex := 5, descriptorIndex := 238, attributes := #[] }, { accessFlags := 2, nameIndex := 5, descriptorIndex := 77, attributes := #[] }, { accessFlags := 1, nameIndex := 507, descriptorIndex := 334, attributes := #[] }, { accessFlags := 1, nameIndex := 497, descriptorIndex := 427, attributes := #[] }, { accessFlags := 0, nameIndex := 17, descriptorIndex := 337, attributes := #[] }, { accessFlags := 0, nameIndex := 494, descriptorIndex := 142, attributes := #[] }, { accessFlags := 8, nameIndex := 501, descriptorIndex := 391, attributes := #[] }, { accessFlags := 8, nameIndex := 36, descriptorIndex := 37, attributes := #[] }] 49 2 #[1106, 1108, 575, 1110, 1112] #[{ accessFlags := 18, nameIndex := 13, descriptorIndex := 14, attributes := #[] }, { accessFlags := 18, nameIndex := 17, descriptorIndex := 18, attributes := #[] }, { accessFlags := 2, nameIndex := 21, descriptorIndex := 22, attributes := #[] }, { accessFlags := 2, nameIndex := 25, descriptorIndex := 26, attributes := #[] }, { accessFlags := 26, nameIndex := 1116, descriptorIndex := 1117, attributes := #[] }, { accessFlags := 24, nameIndex := 40, descriptorIndex := 26, attributes := #[] }, { accessFlags := 26, nameIndex := 1101, descriptorIndex := 1102, attributes := #[] }, { accessFlags := 26, nameIndex := 1121, descriptorIndex := 1122, attributes := #[] }, { accessFlags := 25, nameIndex := 599, descriptorIndex := 600, attributes := #[] }, { accessFlags := 24, nameIndex := 1125, descriptorIndex := 18, attributes := #[] }, { accessFlags := 24, nameIndex := 1127, descriptorIndex := 18, attributes := #[] }])
  fields := #[{ name := "value", type := (.array .byte), accessFlags := 18, slot := 0, constantValue := 0 }, { name := "coder", type := .byte, accessFlags := 18, slot := 1, constantValue := 0 }, { name := "hash", type := .int, accessFlags := 2, slot := 2, constantValue := 0 }, { name := "hashIsZero", type := .boolean, accessFlags := 2, slot := 3, constantValue := 0 }, { name := "serialVersionUID", type := .long, accessFlags := 26, slot := 0, constantValue := 0 }, { name := "COMPACT_STRINGS", type := .boolean, accessFlags := 24, slot := 1, constantValue := 0 }, { name := "serialPersistentFields", type := (.array (.object "java/io/ObjectStreamField")), accessFlags := 26, slot := 2, constantValue := 0 }, { name := "REPL", type := .char, accessFlags := 26, slot := 3, constantValue := 0 }, { name := "CASE_INSENSITIVE_ORDER", type := (.object "java/util/Comparator"), accessFlags := 25, slot := 4, constantValue := 0 }, { name := "LATIN1", type := .byte, accessFlags := 24, slot := 5, constantValue := 0 }, { name := "UTF16", type := .byte, accessFlags := 24, slot := 6, constantValue := 0 }]
  methods := #[k10m0, k10m1, k10m2, k10m3, k10m4, k10m5, k10m6, k10m7, k10m8]
  instanceTypes := #[(.array .byte), .byte, .int, .boolean]
  staticTypes := #[.long, .boolean, (.array (.object "java/io/ObjectStreamField")), .char, (.object "java/util/Comparator"), .byte, .byte]
  resolved := Array.replicate 1451 none
  statics := some 0 }

def pool11 : Array CpInfo := pool [(2, .class_ 4), (1, u "java/lang/Object"), (0, u "<init>"), (0, u "()V"), (14, .class_ 23), (1, u "java/nio/charset/StandardCharsets"), (0, u "US_ASCII"), (0, u "Ljava/nio/charset/Charset;"), (7, u "ISO_8859_1"), (7, u "UTF_8"), (5, u "UTF_16BE"), (5, u "UTF_16LE"), (5, u "UTF_16")] 8

def k11m0 : Method := { name := "<init>", desc := "()V", sig := { parameters := [], returnType := none }, accessFlags := 2, code := none }
/-- java/nio/charset/StandardCharsets -/
def k11 : Class := { plain "java/nio/charset/StandardCharsets" (some 0) with
  accessFlags := 49
  interfaces := #[]
  cf := some (fileOf pool11 21 #[] #[{ accessFlags := 2, nameIndex := 5, descriptorIndex := 6, attributes := #[] }] 49 2 #[] #[{ accessFlags := 25, nameIndex := 24, descriptorIndex := 25, attributes := #[] }, { accessFlags := 25, nameIndex := 33, descriptorIndex := 25, attributes := #[] }, { accessFlags := 25, nameIndex := 41, descriptorIndex := 25, attributes := #[] }, { accessFlags := 25, nameIndex := 47, descriptorIndex := 25, attributes := #[] }, { accessFlags := 25, nameIndex := 53, descriptorIndex := 25, attributes := #[] }, { accessFlags := 25, nameIndex := 59, descriptorIndex := 25, attributes := #[] }])
  fields := #[{ name := "US_ASCII", type := (.object "java/nio/charset/Charset"), accessFlags := 25, slot := 0, constantValue := 0 }, { name := "ISO_8859_1", type := (.object "java/nio/charset/Charset"), accessFlags := 25, slot := 1, constantValue := 0 }, { name := "UTF_8", type := (.object "java/nio/charset/Charset"), accessFlags := 25, slot := 2, constantValue := 0 }, { name := "UTF_16BE", type := (.object "java/nio/charset/Charset"), accessFlags := 25, slot := 3, constantValue := 0 }, { name := "UTF_16LE", type := (.object "java/nio/charset/Charset"), accessFlags := 25, slot := 4, constantValue := 0 }, { name := "UTF_16", type := (.object "java/nio/charset/Charset"), accessFlags := 25, slot := 5, constantValue := 0 }]
  methods := #[k11m0]
  instanceTypes := #[]
  staticTypes := #[(.object "java/nio/charset/Charset"), (.object "java/nio/charset/Charset"), (.object "java/nio/charset/Charset"), (.object "java/nio/charset/Charset"), (.object "java/nio/charset/Charset"), (.object "java/nio/charset/Charset")]
  resolved := Array.replicate 68 none
  statics := some 1 }

def pool12 : Array CpInfo := pool [(2, .class_ 4), (1, u "java/lang/Object"), (0, u "<init>"), (0, u "()V"), (35, .class_ 44), (1, u "java/util/Objects"), (0, u "requireNonNull"), (0, u "(Ljava/lang/Object;)Ljava/lang/Object;")] 137

def k12m0 : Method := { name := "<init>", desc := "()V", sig := { parameters := [], returnType := none }, accessFlags := 2, code := none }
def k12c1 : Code := { maxStack := 2, maxLocals := 1, code := jdk_31_method_10_code, exceptionTable := #[], attributes := #[] }
def k12m1 : Method := { name := "requireNonNull", desc := "(Ljava/lang/Object;)Ljava/lang/Object;", sig := { parameters := [(.object "java/lang/Object")], returnType := some (.object "java/lang/Object") }, accessFlags := 9, code := some k12c1 }
/-- java/util/Objects -/
def k12 : Class := { plain "java/util/Objects" (some 0) with
  accessFlags := 49
  interfaces := #[]
  cf := some (fileOf pool12 42 #[] #[{ accessFlags := 2, nameIndex := 5, descriptorIndex := 6, attributes := #[] }, { accessFlags := 9, nameIndex := 45, descriptorIndex := 46, attributes := #[] }] 49 2 #[] #[])
  fields := #[]
  methods := #[k12m0, k12m1]
  instanceTypes := #[]
  staticTypes := #[]
  resolved := Array.replicate 184 none
  statics := none }

def pool13 : Array CpInfo := pool [(18, .class_ 20), (1, u "java/nio/charset/Charset"), (0, u "cache1"), (0, u "[Ljava/lang/Object;"), (2, u "cache2"), (0, .class_ 27), (0, u "java/lang/Object"), (0, .class_ 29), (0, u "java/nio/charset/Charset$1"), (4, .class_ 36), (1, u "java/nio/charset/Charset$ThreadTrackHolder"), (21, .class_ 59), (0, u "java/nio/charset/Charset$2"), (11, .class_ 73), (1, u "java/nio/charset/Charset$ExtendedProviderHolder"), (22, u "standardProvider"), (0, u "Ljava/nio/charset/spi/CharsetProvider;"), (29, u "name"), (7, .class_ 136), (0, u "java/nio/charset/Charset$3"), (5, u "defaultCharset"), (0, u "Ljava/nio/charset/Charset;"), (14, u "zeroAliases"), (0, u "[Ljava/lang/String;"), (29, u "Ljava/lang/String;"), (2, u "aliases"), (2, u "aliasSet"), (0, u "Ljava/util/Set;"), (82, .class_ 280), (0, u "java/lang/Comparable"), (84, .class_ 366), (0, u "java/nio/charset/Charset$ExtendedProviderHolder$1")] 3

/-- java/nio/charset/Charset -/
def k13 : Class := { plain "java/nio/charset/Charset" (some 0) with
  accessFlags := 1057
  interfaces := #[6]
  cf := some (fileOf pool13 18 #[.nestMembers #[71, 365, 34, 135, 58, 28]] #[] 1057 26 #[279] #[{ accessFlags := 26, nameIndex := 96, descriptorIndex := 97, attributes := #[] }, { accessFlags := 26, nameIndex := 158, descriptorIndex := 159, attributes := #[] }, { accessFlags := 74, nameIndex := 21, descriptorIndex := 22, attributes := #[] }, { accessFlags := 74, nameIndex := 25, descriptorIndex := 22, attributes := #[] }, { accessFlags := 10, nameIndex := 142, descriptorIndex := 143, attributes := #[] }, { accessFlags := 18, nameIndex := 127, descriptorIndex := 189, attributes := #[] }, { accessFlags := 18, nameIndex := 192, descriptorIndex := 159, attributes := #[] }, { accessFlags := 2, nameIndex := 195, descriptorIndex := 196, attributes := #[] }])
  fields := #[{ name := "standardProvider", type := (.object "java/nio/charset/spi/CharsetProvider"), accessFlags := 26, slot := 0, constantValue := 0 }, { name := "zeroAliases", type := (.array (.object "java/lang/String")), accessFlags := 26, slot := 1, constantValue := 0 }, { name := "cache1", type := (.array (.object "java/lang/Object")), accessFlags := 74, slot := 2, constantValue := 0 }, { name := "cache2", type := (.array (.object "java/lang/Object")), accessFlags := 74, slot := 3, constantValue := 0 }, { name := "defaultCharset", type := (.object "java/nio/charset/Charset"), accessFlags := 10, slot := 4, constantValue := 0 }, { name := "name", type := (.object "java/lang/String"), accessFlags := 18, slot := 0, constantValue := 0 }, { name := "aliases", type := (.array (.object "java/lang/String")), accessFlags := 18, slot := 1, constantValue := 0 }, { name := "aliasSet", type := (.object "java/util/Set"), accessFlags := 2, slot := 2, constantValue := 0 }]
  methods := #[]
  instanceTypes := #[(.object "java/lang/String"), (.array (.object "java/lang/String")), (.object "java/util/Set")]
  staticTypes := #[(.object "java/nio/charset/spi/CharsetProvider"), (.array (.object "java/lang/String")), (.array (.object "java/lang/Object")), (.array (.object "java/lang/Object")), (.object "java/nio/charset/Charset")]
  resolved := Array.replicate 370 none
  statics := none }

def pool14 : Array CpInfo := pool [(1, .class_ 2), (0, u "sun/nio/cs/HistoricallyNamedCharset"), (0, .class_ 4), (0, u "java/lang/Object")] 4

/-- sun/nio/cs/HistoricallyNamedCharset -/
def k14 : Class := { plain "sun/nio/cs/HistoricallyNamedCharset" (some 0) with
  accessFlags := 1537
  interfaces := #[]
  cf := some (fileOf pool14 1 #[] #[] 1537 3 #[] #[])
  fields := #[]
  methods := #[]
  instanceTypes := #[]
  staticTypes := #[]
  resolved := Array.replicate 9 none
  statics := none }

def pool15 : Array CpInfo := pool [(10, .class_ 12), (1, u "java/nio/charset/Charset"), (0, u "<init>"), (3, .class_ 18), (0, u "sun/nio/cs/US_ASCII"), (0, .class_ 20), (0, u "sun/nio/cs/US_ASCII$Decoder"), (3, .class_ 25), (0, u "sun/nio/cs/US_ASCII$Encoder"), (3, u "()V"), (2, u "INSTANCE"), (0, u "Lsun/nio/cs/US_ASCII;"), (8, u "JLA"), (0, u "Ljdk/internal/access/JavaLangAccess;"), (0, .class_ 45), (0, u "sun/nio/cs/HistoricallyNamedCharset")] 21

def k15m0 : Method := { name := "<init>", desc := "()V", sig := { parameters := [], returnType := none }, accessFlags := 1, code := none }
/-- sun/nio/cs/US_ASCII -/
def k15 : Class := { plain "sun/nio/cs/US_ASCII" (some 13) with
  accessFlags := 33
  interfaces := #[14]
  cf := some (fileOf pool15 17 #[.nestMembers #[24, 19]] #[{ accessFlags := 1, nameIndex := 13, descriptorIndex := 29, attributes := #[] }] 33 10 #[44] #[{ accessFlags := 25, nameIndex := 32, descriptorIndex := 33, attributes := #[] }, { accessFlags := 26, nameIndex := 42, descriptorIndex := 43, attributes := #[] }])
  fields := #[{ name := "INSTANCE", type := (.object "sun/nio/cs/US_ASCII"), accessFlags := 25, slot := 0, constantValue := 0 }, { name := "JLA", type := (.object "jdk/internal/access/JavaLangAccess"), accessFlags := 26, slot := 1, constantValue := 0 }]
  methods := #[k15m0]
  instanceTypes := #[(.object "java/lang/String"), (.array (.object "java/lang/String")), (.object "java/util/Set")]
  staticTypes := #[(.object "sun/nio/cs/US_ASCII"), (.object "jdk/internal/access/JavaLangAccess")]
  resolved := Array.replicate 67 none
  statics := some 2 }

def pool16 : Array CpInfo := pool [(2, .class_ 4), (1, u "java/lang/Object"), (0, u "<init>"), (0, u "()V"), (17, .class_ 26), (1, u "jdk/internal/util/Preconditions"), (6, u "checkIndex"), (15, u "checkFromIndexSize"), (5, .class_ 56), (0, u "jdk/internal/util/Preconditions$4"), (57, .class_ 115), (0, u "jdk/internal/util/Preconditions$1"), (7, u "SIOOBE_FORMATTER"), (0, u "Ljava/util/function/BiFunction;"), (0, .class_ 126), (0, u "jdk/internal/util/Preconditions$2"), (3, u "AIOOBE_FORMATTER"), (0, .class_ 132), (0, u "jdk/internal/util/Preconditions$3"), (3, u "IOOBE_FORMATTER"), (41, u "(IILjava/util/function/BiFunction;)I"), (4, u "(IIILjava/util/function/BiFunction;)I")] 10

def k16m0 : Method := { name := "<init>", desc := "()V", sig := { parameters := [], returnType := none }, accessFlags := 1, code := none }
def k16c1 : Code := { maxStack := 3, maxLocals := 3, code := jdk_41_method_11_code, exceptionTable := #[], attributes := #[] }
def k16m1 : Method := { name := "checkIndex", desc := "(IILjava/util/function/BiFunction;)I", sig := { parameters := [.int, .int, (.object "java/util/function/BiFunction")], returnType := some .int }, accessFlags := 9, code := some k16c1 }
def k16c2 : Code := { maxStack := 4, maxLocals := 4, code := jdk_41_method_13_code, exceptionTable := #[], attributes := #[] }
def k16m2 : Method := { name := "checkFromIndexSize", desc := "(IIILjava/util/function/BiFunction;)I", sig := { parameters := [.int, .int, .int, (.object "java/util/function/BiFunction")], returnType := some .int }, accessFlags := 9, code := some k16c2 }
/-- jdk/internal/util/Preconditions -/
def k16 : Class := { plain "jdk/internal/util/Preconditions" (some 0) with
  accessFlags := 33
  interfaces := #[]
  cf := some (fileOf pool16 24 #[.nestMembers #[55, 131, 125, 114]] #[{ accessFlags := 1, nameIndex := 5, descriptorIndex := 6, attributes := #[] }, { accessFlags := 9, nameIndex := 33, descriptorIndex := 178, attributes := #[] }, { accessFlags := 9, nameIndex := 49, descriptorIndex := 183, attributes := #[] }] 33 2 #[] #[{ accessFlags := 25, nameIndex := 123, descriptorIndex := 124, attributes := #[] }, { accessFlags := 25, nameIndex := 130, descriptorIndex := 124, attributes := #[] }, { accessFlags := 25, nameIndex := 136, descriptorIndex := 124, attributes := #[] }])
  fields := #[{ name := "SIOOBE_FORMATTER", type := (.object "java/util/function/BiFunction"), accessFlags := 25, slot := 0, constantValue := 0 }, { name := "AIOOBE_FORMATTER", type := (.object "java/util/function/BiFunction"), accessFlags := 25, slot := 1, constantValue := 0 }, { name := "IOOBE_FORMATTER", type := (.object "java/util/function/BiFunction"), accessFlags := 25, slot := 2, constantValue := 0 }]
  methods := #[k16m0, k16m1, k16m2]
  instanceTypes := #[]
  staticTypes := #[(.object "java/util/function/BiFunction"), (.object "java/util/function/BiFunction"), (.object "java/util/function/BiFunction")]
  resolved := Array.replicate 194 none
  statics := some 3 }

def pool17 : Array CpInfo := pool [(2, .class_ 4), (1, u "java/nio/charset/Charset"), (130, .class_ 136), (0, u "sun/nio/cs/Unicode"), (0, .class_ 138), (0, u "sun/nio/cs/HistoricallyNamedCharset")] 15

/-- sun/nio/cs/Unicode -/
def k17 : Class := { plain "sun/nio/cs/Unicode" (some 13) with
  accessFlags := 1056
  interfaces := #[14]
  cf := some (fileOf pool17 135 #[] #[] 1056 2 #[137] #[])
  fields := #[]
  methods := #[]
  instanceTypes := #[(.object "java/lang/String"), (.array (.object "java/lang/String")), (.object "java/util/Set")]
  staticTypes := #[]
  resolved := Array.replicate 154 none
  statics := none }

def pool18 : Array CpInfo := pool [(10, .class_ 12), (1, u "sun/nio/cs/Unicode"), (0, u "<init>"), (3, .class_ 18), (0, u "sun/nio/cs/UTF_8$Decoder"), (3, .class_ 23), (0, u "sun/nio/cs/UTF_8$Encoder"), (15, .class_ 40), (0, u "sun/nio/cs/UTF_8"), (2, u "()V"), (2, u "INSTANCE"), (0, u "Lsun/nio/cs/UTF_8;"), (8, u "JLA"), (0, u "Ljdk/internal/access/JavaLangAccess;")] 26

def k18m0 : Method := { name := "<init>", desc := "()V", sig := { parameters := [], returnType := none }, accessFlags := 1, code := none }
/-- sun/nio/cs/UTF_8 -/
def k18 : Class := { plain "sun/nio/cs/UTF_8" (some 17) with
  accessFlags := 49
  interfaces := #[]
  cf := some (fileOf pool18 39 #[.nestMembers #[22, 17]] #[{ accessFlags := 1, nameIndex := 13, descriptorIndex := 43, attributes := #[] }] 49 10 #[] #[{ accessFlags := 25, nameIndex := 46, descriptorIndex := 47, attributes := #[] }, { accessFlags := 26, nameIndex := 56, descriptorIndex := 57, attributes := #[] }])
  fields := #[{ name := "INSTANCE", type := (.object "sun/nio/cs/UTF_8"), accessFlags := 25, slot := 0, constantValue := 0 }, { name := "JLA", type := (.object "jdk/internal/access/JavaLangAccess"), accessFlags := 26, slot := 1, constantValue := 0 }]
  methods := #[k18m0]
  instanceTypes := #[(.object "java/lang/String"), (.array (.object "java/lang/String")), (.object "java/util/Set")]
  staticTypes := #[(.object "sun/nio/cs/UTF_8"), (.object "jdk/internal/access/JavaLangAccess")]
  resolved := Array.replicate 84 none
  statics := some 4 }

def pool19 : Array CpInfo := pool [(10, .class_ 12), (1, u "java/nio/charset/Charset"), (0, u "<init>"), (5, .class_ 20), (0, u "sun/nio/cs/ISO_8859_1"), (0, .class_ 22), (0, u "sun/nio/cs/ISO_8859_1$Decoder"), (3, .class_ 27), (0, u "sun/nio/cs/ISO_8859_1$Encoder"), (3, u "()V"), (2, u "INSTANCE"), (0, u "Lsun/nio/cs/ISO_8859_1;"), (0, .class_ 37), (0, u "sun/nio/cs/HistoricallyNamedCharset")] 22

def k19m0 : Method := { name := "<init>", desc := "()V", sig := { parameters := [], returnType := none }, accessFlags := 1, code := none }
/-- sun/nio/cs/ISO_8859_1 -/
def k19 : Class := { plain "sun/nio/cs/ISO_8859_1" (some 13) with
  accessFlags := 33
  interfaces := #[14]
  cf := some (fileOf pool19 19 #[.nestMembers #[26, 21]] #[{ accessFlags := 1, nameIndex := 13, descriptorIndex := 31, attributes := #[] }] 33 10 #[36] #[{ accessFlags := 25, nameIndex := 34, descriptorIndex := 35, attributes := #[] }])
  fields := #[{ name := "INSTANCE", type := (.object "sun/nio/cs/ISO_8859_1"), accessFlags := 25, slot := 0, constantValue := 0 }]
  methods := #[k19m0]
  instanceTypes := #[(.object "java/lang/String"), (.array (.object "java/lang/String")), (.object "java/util/Set")]
  staticTypes := #[(.object "sun/nio/cs/ISO_8859_1")]
  resolved := Array.replicate 60 none
  statics := some 5 }

def pool20 : Array CpInfo := pool [(2, .class_ 4), (1, u "java/lang/Object"), (0, u "<init>"), (0, u "()V"), (0, .methodref 8 9), (0, .class_ 10), (0, .nameAndType 11 12), (0, u "java/lang/StringCoding"), (0, u "countPositives"), (0, u "([BII)I"), (11, u "hasNegatives"), (0, u "([BII)Z")] 23

def k20m0 : Method := { name := "<init>", desc := "()V", sig := { parameters := [], returnType := none }, accessFlags := 2, code := none }
def k20c1 : Code := { maxStack := 3, maxLocals := 3, code := jdk_123_method_2_code, exceptionTable := #[], attributes := #[] }
def k20m1 : Method := { name := "hasNegatives", desc := "([BII)Z", sig := { parameters := [(.array .byte), .int, .int], returnType := some .boolean }, accessFlags := 9, code := some k20c1 }
def k20c2 : Code := { maxStack := 2, maxLocals := 5, code := jdk_123_method_3_code, exceptionTable := #[], attributes := #[] }
def k20m2 : Method := { name := "countPositives", desc := "([BII)I", sig := { parameters := [(.array .byte), .int, .int], returnType := some .int }, accessFlags := 9, code := some k20c2 }
/-- java/lang/StringCoding -/
def k20 : Class := { plain "java/lang/StringCoding" (some 0) with
  accessFlags := 32
  interfaces := #[]
  cf := some (fileOf pool20 8 #[] #[{ accessFlags := 2, nameIndex := 5, descriptorIndex := 6, attributes := #[] }, { accessFlags := 9, nameIndex := 24, descriptorIndex := 25, attributes := #[] }, { accessFlags := 9, nameIndex := 11, descriptorIndex := 12, attributes := #[] }] 32 2 #[] #[])
  fields := #[]
  methods := #[k20m0, k20m1, k20m2]
  instanceTypes := #[]
  staticTypes := #[]
  resolved := Array.replicate 49 none
  statics := none }

def pool21 : Array CpInfo := pool [(2, .class_ 4), (1, u "java/lang/Object"), (0, u "<init>"), (0, u "()V"), (7, .class_ 16), (1, u "java/util/Arrays"), (57, .class_ 76), (1, u "java/util/Arrays$NaturalOrder"), (32, u "()Ljava/lang/Object;"), (3, .class_ 115), (1, u "java/util/Arrays$LegacyMergeSort"), (1, u "Z"), (10, .nameAndType 129 109), (0, u "clone"), (9, u "copyOfRange"), (10, .methodref 151 152), (0, .class_ 153), (0, .nameAndType 154 155), (0, u "java/lang/System"), (0, u "arraycopy"), (0, u "(Ljava/lang/Object;ILjava/lang/Object;II)V"), (148, .methodref 305 306), (0, .class_ 307), (0, .nameAndType 308 309), (0, u "java/lang/Math"), (0, u "min"), (0, u "(II)I"), (0, .methodref 311 128), (0, .class_ 312), (0, u "[B"), (26, .methodref 14 340), (0, .nameAndType 341 342), (0, u "copyOfRangeByte"), (0, u "([BII)[B"), (0, .methodref 14 344), (0, .nameAndType 345 346), (0, u "checkLength"), (0, u "(II)V"), (28, .class_ 376), (0, u "java/util/Arrays$ArrayList"), (68, u "$assertionsDisabled"), (269, u "MIN_ARRAY_SORT_GRAN"), (0, u "I"), (2, u "INSERTIONSORT_THRESHOLD"), (255, .class_ 976), (0, u "java/util/Arrays$ArrayItr")] 52

def k21m0 : Method := { name := "<init>", desc := "()V", sig := { parameters := [], returnType := none }, accessFlags := 2, code := none }
def k21c1 : Code := { maxStack := 4, maxLocals := 2, code := jdk_65_method_131_code, exceptionTable := #[], attributes := #[] }
def k21m1 : Method := { name := "checkLength", desc := "(II)V", sig := { parameters := [.int, .int], returnType := none }, accessFlags := 10, code := some k21c1 }
def k21c2 : Code := { maxStack := 3, maxLocals := 3, code := jdk_65_method_132_code, exceptionTable := #[], attributes := #[] }
def k21m2 : Method := { name := "copyOfRange", desc := "([BII)[B", sig := { parameters := [(.array .byte), .int, .int], returnType := some (.array .byte) }, accessFlags := 9, code := some k21c2 }
def k21c3 : Code := { maxStack := 6, maxLocals := 5, code := jdk_65_method_133_code, exceptionTable := #[], attributes := #[] }
def k21m3 : Method := { name := "copyOfRangeByte", desc := "([BII)[B", sig := { parameters := [(.array .byte), .int, .int], returnType := some (.array .byte) }, accessFlags := 10, code := some k21c3 }
/-- java/util/Arrays -/
def k21 : Class := { plain "java/util/Arrays" (some 0) with
  accessFlags := 49
  interfaces := #[]
  cf := some (fileOf pool21 14 #[.nestMembers #[975, 375, 113, 74]] #[{ accessFlags := 2, nameIndex := 5, descriptorIndex := 6, attributes := #[] }, { accessFlags := 10, nameIndex := 345, descriptorIndex := 346, attributes := #[] }, { accessFlags := 9, nameIndex := 139, descriptorIndex := 342, attributes := #[] }, { accessFlags := 10, nameIndex := 341, descriptorIndex := 342, attributes := #[] }] 49 2 #[] #[{ accessFlags := 26, nameIndex := 715, descriptorIndex := 716, attributes := #[] }, { accessFlags := 26, nameIndex := 719, descriptorIndex := 716, attributes := #[] }, { accessFlags := 4120, nameIndex := 445, descriptorIndex := 117, attributes := #[] }])
  fields := #[{ name := "MIN_ARRAY_SORT_GRAN", type := .int, accessFlags := 26, slot := 0, constantValue := 0 }, { name := "INSERTIONSORT_THRESHOLD", type := .int, accessFlags := 26, slot := 1, constantValue := 0 }, { name := "$assertionsDisabled", type := .boolean, accessFlags := 4120, slot := 2, constantValue := 0 }]
  methods := #[k21m0, k21m1, k21m2, k21m3]
  instanceTypes := #[]
  staticTypes := #[.int, .int, .boolean]
  resolved := Array.replicate 1029 none
  statics := none }

def pool22 : Array CpInfo := pool [(2, .class_ 4), (1, u "java/lang/Object"), (0, u "<init>"), (0, u "()V"), (1, .class_ 10), (1, u "java/lang/System"), (0, u "allowSecurityManager"), (0, u "I"), (16, u "cons"), (0, u "Ljava/io/Console;"), (77, .class_ 110), (1, u "java/lang/System$CallersHolder"), (43, u "initialErrStream"), (0, u "Ljava/io/PrintStream;"), (19, u "security"), (0, u "Ljava/lang/SecurityManager;"), (31, .class_ 209), (0, u "java/lang/System$1"), (7, u "props"), (0, u "Ljava/util/Properties;"), (2, u "lineSeparator"), (0, u "Ljava/lang/String;"), (96, .class_ 321), (1, u "java/lang/System$LoggerFinder"), (5, .class_ 328), (0, u "java/lang/System$Logger"), (67, u "err"), (2, u "out"), (91, u "notSupportedJnuEncoding"), (15, u "in"), (17, u "initialIn"), (0, u "Ljava/io/InputStream;"), (35, u "bootLayer"), (0, u "Ljava/lang/ModuleLayer;"), (99, .class_ 664), (0, u "java/lang/System$2"), (9, u "NEVER"), (2, u "MAYBE"), (49, u "arraycopy"), (0, u "(Ljava/lang/Object;ILjava/lang/Object;II)V"), (72, .class_ 802), (0, u "java/lang/System$Logger$Level")] 31

def k22m0 : Method := { name := "<init>", desc := "()V", sig := { parameters := [], returnType := none }, accessFlags := 2, code := none }
def k22m1 : Method := { name := "arraycopy", desc := "(Ljava/lang/Object;ILjava/lang/Object;II)V", sig := { parameters := [(.object "java/lang/Object"), .int, (.object "java/lang/Object"), .int, .int], returnType := none }, accessFlags := 265, code := none }
/-- java/lang/System -/
def k22 : Class := { plain "java/lang/System" (some 0) with
  accessFlags := 49
  interfaces := #[]
  cf := some (fileOf pool22 8 #[.nestMembers #[319, 327, 801, 108, 663, 208]] #[{ accessFlags := 2, nameIndex := 5, descriptorIndex := 6, attributes := #[] }, { accessFlags := 265, nameIndex := 727, descriptorIndex := 728, attributes := #[] }] 49 2 #[] #[{ accessFlags := 25, nameIndex := 507, descriptorIndex := 526, attributes := #[] }, { accessFlags := 25, nameIndex := 399, descriptorIndex := 155, attributes := #[] }, { accessFlags := 25, nameIndex := 396, descriptorIndex := 155, attributes := #[] }, { accessFlags := 10, nameIndex := 525, descriptorIndex := 526, attributes := #[] }, { accessFlags := 26, nameIndex := 674, descriptorIndex := 12, attributes := #[] }, { accessFlags := 26, nameIndex := 677, descriptorIndex := 12, attributes := #[] }, { accessFlags := 10, nameIndex := 11, descriptorIndex := 12, attributes := #[] }, { accessFlags := 74, nameIndex := 175, descriptorIndex := 176, attributes := #[] }, { accessFlags := 10, nameIndex := 491, descriptorIndex := 222, attributes := #[] }, { accessFlags := 74, nameIndex := 29, descriptorIndex := 30, attributes := #[] }, { accessFlags := 74, nameIndex := 154, descriptorIndex := 155, attributes := #[] }, { accessFlags := 10, nameIndex := 217, descriptorIndex := 218, attributes := #[] }, { accessFlags := 10, nameIndex := 221, descriptorIndex := 222, attributes := #[] }, { accessFlags := 8, nameIndex := 562, descriptorIndex := 563, attributes := #[] }])
  fields := #[{ name := "in", type := (.object "java/io/InputStream"), accessFlags := 25, slot := 0, constantValue := 0 }, { name := "out", type := (.object "java/io/PrintStream"), accessFlags := 25, slot := 1, constantValue := 0 }, { name := "err", type := (.object "java/io/PrintStream"), accessFlags := 25, slot := 2, constantValue := 0 }, { name := "initialIn", type := (.object "java/io/InputStream"), accessFlags := 10, slot := 3, constantValue := 0 }, { name := "NEVER", type := .int, accessFlags := 26, slot := 4, constantValue := 0 }, { name := "MAYBE", type := .int, accessFlags := 26, slot := 5, constantValue := 0 }, { name := "allowSecurityManager", type := .int, accessFlags := 10, slot := 6, constantValue := 0 }, { name := "security", type := (.object "java/lang/SecurityManager"), accessFlags := 74, slot := 7, constantValue := 0 }, { name := "notSupportedJnuEncoding", type := (.object "java/lang/String"), accessFlags := 10, slot := 8, constantValue := 0 }, { name := "cons", type := (.object "java/io/Console"), accessFlags := 74, slot := 9, constantValue := 0 }, { name := "initialErrStream", type := (.object "java/io/PrintStream"), accessFlags := 74, slot := 10, constantValue := 0 }, { name := "props", type := (.object "java/util/Properties"), accessFlags := 10, slot := 11, constantValue := 0 }, { name := "lineSeparator", type := (.object "java/lang/String"), accessFlags := 10, slot := 12, constantValue := 0 }, { name := "bootLayer", type := (.object "java/lang/ModuleLayer"), accessFlags := 8, slot := 13, constantValue := 0 }]
  methods := #[k22m0, k22m1]
  instanceTypes := #[]
  staticTypes := #[(.object "java/io/InputStream"), (.object "java/io/PrintStream"), (.object "java/io/PrintStream"), (.object "java/io/InputStream"), .int, .int, .int, (.object "java/lang/SecurityManager"), (.object "java/lang/String"), (.object "java/io/Console"), (.object "java/io/PrintStream"), (.object "java/util/Properties"), (.object "java/lang/String"), (.object "java/lang/ModuleLayer")]
  resolved := Array.replicate 834 none
  statics := none }

def pool23 : Array CpInfo := pool [(1, .class_ 2), (0, u "java/lang/String"), (1, .class_ 6), (1, u "java/lang/Object"), (0, u "<init>"), (0, u "()V"), (0, .methodref 1 10), (0, .nameAndType 11 12), (0, u "checkIndex"), (0, u "(II)V"), (1, .class_ 16), (1, u "java/lang/StringLatin1"), (36, u "([BI)C"), (67, u "$assertionsDisabled"), (0, u "Z"), (98, .class_ 223), (1, u "java/lang/StringLatin1$LinesSpliterator"), (28, u "charAt"), (137, .class_ 391), (0, u "java/lang/StringLatin1$CharsSpliterator")] 3

def k23m0 : Method := { name := "<init>", desc := "()V", sig := { parameters := [], returnType := none }, accessFlags := 0, code := none }
def k23c1 : Code := { maxStack := 2, maxLocals := 2, code := jdk_43_method_2_code, exceptionTable := #[], attributes := #[] }
def k23m1 : Method := { name := "charAt", desc := "([BI)C", sig := { parameters := [(.array .byte), .int], returnType := some .char }, accessFlags := 9, code := some k23c1 }
/-- java/lang/StringLatin1 -/
def k23 : Class := { plain "java/lang/StringLatin1" (some 0) with
  accessFlags := 48
  interfaces := #[]
  cf := some (fileOf pool23 14 #[.nestMembers #[390, 221]] #[{ accessFlags := 0, nameIndex := 7, descriptorIndex := 8, attributes := #[] }, { accessFlags := 9, nameIndex := 252, descriptorIndex := 53, attributes := #[] }] 48 4 #[] #[{ accessFlags := 4120, nameIndex := 121, descriptorIndex := 122, attributes := #[] }])
  fields := #[{ name := "$assertionsDisabled", type := .boolean, accessFlags := 4120, slot := 0, constantValue := 0 }]
  methods := #[k23m0, k23m1]
  instanceTypes := #[]
  staticTypes := #[.boolean]
  resolved := Array.replicate 395 none
  statics := none }

def pool24 : Array CpInfo := pool [(1, .class_ 2), (0, u "java/lang/Cloneable"), (0, .class_ 4), (0, u "java/lang/Object")] 2

/-- java/lang/Cloneable -/
def k24 : Class := { plain "java/lang/Cloneable" (some 0) with
  accessFlags := 1537
  interfaces := #[]
  cf := some (fileOf pool24 1 #[] #[] 1537 3 #[] #[])
  fields := #[]
  methods := #[]
  instanceTypes := #[]
  staticTypes := #[]
  resolved := Array.replicate 7 none
  statics := none }

def pool25 : Array CpInfo := pool [(9, u "<init>"), (6, .class_ 18), (1, u "java/lang/Object"), (0, u "()V"), (1, .class_ 23), (1, u "jdk/internal/util/ArraysSupport"), (0, u "LOG2_ARRAY_LONG_INDEX_SCALE"), (0, u "I"), (2, u "U"), (0, u "Ljdk/internal/misc/Unsafe;"), (8, u "BIG_ENDIAN"), (0, u "Z"), (8, u "LOG2_BYTE_BIT_SIZE"), (4, u "LOG2_ARRAY_INT_INDEX_SCALE"), (54, u "JLA"), (0, u "Ljdk/internal/access/JavaLangAccess;"), (11, u "LOG2_ARRAY_BOOLEAN_INDEX_SCALE"), (9, u "LOG2_ARRAY_BYTE_INDEX_SCALE"), (5, u "LOG2_ARRAY_CHAR_INDEX_SCALE"), (5, u "LOG2_ARRAY_SHORT_INDEX_SCALE"), (18, u "LOG2_ARRAY_FLOAT_INDEX_SCALE"), (24, u "LOG2_ARRAY_DOUBLE_INDEX_SCALE"), (89, u "T_BOOLEAN"), (2, u "T_CHAR"), (1, u "T_FLOAT"), (1, u "T_DOUBLE"), (1, u "T_BYTE"), (1, u "T_SHORT"), (1, u "T_INT"), (1, u "T_LONG"), (1, u "SOFT_MAX_ARRAY_LENGTH")] 83

def k25m0 : Method := { name := "<init>", desc := "()V", sig := { parameters := [], returnType := none }, accessFlags := 2, code := none }
/-- jdk/internal/util/ArraysSupport -/
def k25 : Class := { plain "jdk/internal/util/ArraysSupport" (some 0) with
  accessFlags := 33
  interfaces := #[]
  cf := some (fileOf pool25 21 #[] #[{ accessFlags := 2, nameIndex := 9, descriptorIndex := 19, attributes := #[] }] 33 16 #[] #[{ accessFlags := 24, nameIndex := 28, descriptorIndex := 29, attributes := #[] }, { accessFlags := 26, nameIndex := 38, descriptorIndex := 39, attributes := #[] }, { accessFlags := 25, nameIndex := 121, descriptorIndex := 25, attributes := #[] }, { accessFlags := 25, nameIndex := 131, descriptorIndex := 25, attributes := #[] }, { accessFlags := 25, nameIndex := 137, descriptorIndex := 25, attributes := #[] }, { accessFlags := 25, nameIndex := 143, descriptorIndex := 25, attributes := #[] }, { accessFlags := 25, nameIndex := 53, descriptorIndex := 25, attributes := #[] }, { accessFlags := 25, nameIndex := 24, descriptorIndex := 25, attributes := #[] }, { accessFlags := 25, nameIndex := 162, descriptorIndex := 25, attributes := #[] }, { accessFlags := 25, nameIndex := 187, descriptorIndex := 25, attributes := #[] }, { accessFlags := 26, nameIndex := 48, descriptorIndex := 25, attributes := #[] }, { accessFlags := 25, nameIndex := 277, descriptorIndex := 25, attributes := #[] }, { accessFlags := 25, nameIndex := 280, descriptorIndex := 25, attributes := #[] }, { accessFlags := 25, nameIndex := 282, descriptorIndex := 25, attributes := #[] }, { accessFlags := 25, nameIndex := 284, descriptorIndex := 25, attributes := #[] }, { accessFlags := 25, nameIndex := 286, descriptorIndex := 25, attributes := #[] }, { accessFlags := 25, nameIndex := 288, descriptorIndex := 25, attributes := #[] }, { accessFlags := 25, nameIndex := 290, descriptorIndex := 25, attributes := #[] }, { accessFlags := 25, nameIndex := 292, descriptorIndex := 25, attributes := #[] }, { accessFlags := 26, nameIndex := 108, descriptorIndex := 109, attributes := #[] }, { accessFlags := 25, nameIndex := 294, descriptorIndex := 25, attributes := #[] }])
  fields := #[{ name := "U", type := (.object "jdk/internal/misc/Unsafe"), accessFlags := 24, slot := 0, constantValue := 0 }, { name := "BIG_ENDIAN", type := .boolean, accessFlags := 26, slot := 1, constantValue := 0 }, { name := "LOG2_ARRAY_BOOLEAN_INDEX_SCALE", type := .int, accessFlags := 25, slot := 2, constantValue := 0 }, { name := "LOG2_ARRAY_BYTE_INDEX_SCALE", type := .int, accessFlags := 25, slot := 3, constantValue := 0 }, { name := "LOG2_ARRAY_CHAR_INDEX_SCALE", type := .int, accessFlags := 25, slot := 4, constantValue := 0 }, { name := "LOG2_ARRAY_SHORT_INDEX_SCALE", type := .int, accessFlags := 25, slot := 5, constantValue := 0 }, { name := "LOG2_ARRAY_INT_INDEX_SCALE", type := .int, accessFlags := 25, slot := 6, constantValue := 0 }, { name := "LOG2_ARRAY_LONG_INDEX_SCALE", type := .int, accessFlags := 25, slot := 7, constantValue := 0 }, { name := "LOG2_ARRAY_FLOAT_INDEX_SCALE", type := .int, accessFlags := 25, slot := 8, constantValue := 0 }, { name := "LOG2_ARRAY_DOUBLE_INDEX_SCALE", type := .int, accessFlags := 25, slot := 9, constantValue := 0 }, { name := "LOG2_BYTE_BIT_SIZE", type := .int, accessFlags := 26, slot := 10, constantValue := 0 }, { name := "T_BOOLEAN", type := .int, accessFlags := 25, slot := 11, constantValue := 0 }, { name := "T_CHAR", type := .int, accessFlags := 25, slot := 12, constantValue := 0 }, { name := "T_FLOAT", type := .int, accessFlags := 25, slot := 13, constantValue := 0 }, { name := "T_DOUBLE", type := .int, accessFlags := 25, slot := 14, constantValue := 0 }, { name := "T_BYTE", type := .int, accessFlags := 25, slot := 15, constantValue := 0 }, { name := "T_SHORT", type := .int, accessFlags := 25, slot := 16, constantValue := 0 }, { name := "T_INT", type := .int, accessFlags := 25, slot := 17, constantValue := 0 }, { name := "T_LONG", type := .int, accessFlags := 25, slot := 18, constantValue := 0 }, { name := "JLA", type := (.object "jdk/internal/access/JavaLangAccess"), accessFlags := 26, slot := 19, constantValue := 0 }, { name := "SOFT_MAX_ARRAY_LENGTH", type := .int, accessFlags := 25, slot := 20, constantValue := 0 }]
  methods := #[k25m0]
  instanceTypes := #[]
  staticTypes := #[(.object "jdk/internal/misc/Unsafe"), .boolean, .int, .int, .int, .int, .int, .int, .int, .int, .int, .int, .int, .int, .int, .int, .int, .int, .int, (.object "jdk/internal/access/JavaLangAccess"), .int]
  resolved := Array.replicate 378 none
  statics := none }

/-- the primitive byte -/
def k26 : Class := { plain "byte" none with kind := .primitive 'B', accessFlags := 0x411 }
/-- [B -/
def k27 : Class := { plain "[B" (some 0) with kind := .array 26 .byte, interfaces := #[24, 5], accessFlags := 1041 }

/-- the primitive int -/
def k28 : Class := { plain "int" none with kind := .primitive 'I', accessFlags := 0x411 }
/-- [I -/
def k29 : Class := { plain "[I" (some 0) with kind := .array 28 .int, interfaces := #[24, 5], accessFlags := 1041 }

/-- [Ljava/lang/String; -/
def k30 : Class := { plain "[Ljava/lang/String;" (some 0) with kind := .array 10 (.object "java/lang/String"), interfaces := #[24, 5], accessFlags := 1041 }

def heap : Heap := #[{ cls := 10, slots := #[.long 0, .int 1, .null, .int 0, .null, .int 0, .int 0], vm := .statics 10 },
  { cls := 11, slots := #[.ref 7, .null, .ref 6, .null, .null, .null], vm := .statics 11 },
  { cls := 15, slots := #[.ref 7, .null], vm := .statics 15 },
  { cls := 16, slots := #[.null, .null, .null], vm := .statics 16 },
  { cls := 18, slots := #[.ref 6, .null], vm := .statics 18 },
  { cls := 19, slots := #[.ref 8], vm := .statics 19 },
  { cls := 18, slots := #[.null, .null, .null], vm := .none },
  { cls := 15, slots := #[.null, .null, .null], vm := .none },
  { cls := 19, slots := #[.null, .null, .null], vm := .none }]
def classes : Array Class := #[k0, k1, k2, k3, k4, k5, k6, k7, k8, k9, k10, k11, k12, k13, k14, k15, k16, k17, k18, k19, k20, k21, k22, k23, k24, k25, k26, k27, k28, k29, k30]
def interned : List (Array UInt16 × Addr) := []
def slotsUsed : Nat := 30
def theMethod : MethodId := ⟨1, 5⟩
def args0 : Array Value := #[.long 4, .int 5, .int 6, .int 7]
def aboutOver (below : List Frame) : State where
  vm := { classes := classes, interned := interned.toArray }
  heap := heap
  slotsUsed := slotsUsed
  threads := #[{ frames := .invoking theMethod args0 :: below }]
def below0 : List Frame := [.native { method := ⟨0, 0⟩, args := #[] }]
def about1 : State := aboutOver below0
def p0 : Program := .bare "" "" ""
def e0 : Env := launch0.env 0 0 0
theorem w_frames : about1.frames = Frame.invoking theMethod args0 :: below0 := rfl
set_option maxRecDepth 65536 in
theorem w_args : argsFit about1.vm theMethod args0 = true := by decide +kernel
set_option maxRecDepth 65536 in
theorem w_heap : heapFits about1 = true := by decide +kernel
set_option maxRecDepth 65536 in
theorem w_runnable : about1.curStatus? = some .runnable := by decide +kernel
set_option maxRecDepth 65536 in
theorem w_alone : about1.alone = true := by decide +kernel
set_option maxRecDepth 65536 in
theorem w_named : about1.methodNamed? x = some theMethod := by decide +kernel
set_option maxRecDepth 65536 in
theorem w_hears : about1.hears theMethod below0 = true := by decide +kernel
set_option maxRecDepth 65536 in
theorem w_ripe : about1.ripe theMethod args0 below0 = true := by decide +kernel
theorem w_running : about1.status = .running := rfl
set_option maxRecDepth 65536 in
theorem w_room : about1.hasRoom e0.platform room_1 = true :=
  launch0.hasRoom_least _ room_1 (by decide +kernel) (by decide +kernel) (by decide +kernel) (by decide +kernel) (by decide +kernel) (by decide +kernel)
theorem allAtoms_all (ts : List Jvm.Cond) (a : Array Jvm.Value) (st : Jvm.State) : (allAtoms ts).before a st = ts.all (fun c => c.before a st) := by
  induction ts with
  | nil => rfl
  | cons c t ih =>
    show (Jvm.Cond.and c (allAtoms t)).before a st = _
    rw [Jvm.Cond.before_and, ih, List.all_cons]
def words1 : List Jvm.Cond := Jvm.Cond.code x code maxLocals ret :: tables_1
/-- a 'code' word, met by the world's own term for the bytes: nothing is compared byte by byte -/
theorem code_word {y : MethodName} {bytes : ByteArray} {mx : Nat} {rt : Option FieldType} {a : Array Value} {s : State} {m : MethodId} {meth : Method} {c : Code} (h1 : s.methodNamed? y = some m) (h2 : s.vm.method? m = some meth) (h3 : meth.code = some c) (h4 : c.code = bytes)
    (h5 : (c.maxLocals == mx && c.exceptionTable.isEmpty && decide (c.maxStack ≤ mostOperands) && decide (meth.sig.returnType = rt) && !meth.locks && decide (parseMethodDescriptor y.desc = some meth.sig)) = true) : (Jvm.Cond.code y bytes mx rt).before a s = true := by
  simp only [Bool.and_eq_true, beq_iff_eq, Bool.not_eq_true', decide_eq_true_eq] at h5
  obtain ⟨⟨⟨⟨⟨g1, g2⟩, g3⟩, g4⟩, g5⟩, g6⟩ := h5
  simp [Cond.before, Cond.holds, Cond.value, h1, h2, h3, h4, g1, g2, g3, g4, g5, g6]
theorem codeW_word {y : MethodName} {bytes : ByteArray} {mx : Nat} {rt : Option FieldType} {hs : List (Nat × Nat × Nat × Nat)} {a : Array Value} {s : State} {m : MethodId} {meth : Method} {c : Code} (h1 : s.methodNamed? y = some m) (h2 : s.vm.method? m = some meth) (h3 : meth.code = some c) (h4 : c.code = bytes)
    (h5 : (c.maxLocals == mx && decide (c.exceptionTable.toList.map (fun h => (h.startPc, h.endPc, h.handlerPc, h.catchType)) = hs) && decide (c.maxStack ≤ mostOperands) && decide (meth.sig.returnType = rt) && !meth.locks && decide (parseMethodDescriptor y.desc = some meth.sig)) = true) : (Jvm.Cond.codeWith y bytes mx rt hs).before a s = true := by
  simp only [Bool.and_eq_true, beq_iff_eq, Bool.not_eq_true', decide_eq_true_eq] at h5
  obtain ⟨⟨⟨⟨⟨g1, g2⟩, g3⟩, g4⟩, g5⟩, g6⟩ := h5
  simp [Cond.before, Cond.holds, Cond.value, h1, h2, h3, h4, g1, g2, g3, g4, g5, g6]
def isCode : Jvm.Cond → Bool
  | .code _ _ _ _ => true
  | .codeWith _ _ _ _ _ => true
  | _ => false
theorem all_split {L : List Jvm.Cond} {P : Jvm.Cond → Bool} (h1 : L.all (fun c => isCode c || P c) = true) (h2 : ∀ c ∈ L.filter isCode, P c = true) : L.all P = true := by
  refine List.all_eq_true.mpr fun c hc => ?_
  have h := List.all_eq_true.mp h1 c hc
  rcases Bool.eq_false_or_eq_true (isCode c) with hi | hi
  · exact h2 c (List.mem_filter.mpr ⟨hc, hi⟩)
  · simpa [hi] using h
set_option maxRecDepth 65536 in
theorem w_c0 : (Jvm.Cond.code x code maxLocals ret).before args0 about1 = true := code_word (m := ⟨1, 5⟩) (meth := k1m5) (c := k1c5) (by decide +kernel) rfl rfl rfl (by decide +kernel)
set_option maxRecDepth 65536 in
theorem w_c1 : (Jvm.Cond.code ({ cls := "com/example/grantbook/grantbook/licence/PlainAttributesAddPinLaw", name := "attr", desc := "(I)[I" } : Jvm.MethodName) method_3_code (9 : Nat) (Option.some (Jvm.ClassFile.FieldType.array Jvm.ClassFile.FieldType.int))).before args0 about1 = true := code_word (m := ⟨1, 2⟩) (meth := k1m2) (c := k1c2) (by decide +kernel) rfl rfl rfl (by decide +kernel)
set_option maxRecDepth 65536 in
theorem w_c2 : (Jvm.Cond.code ({ cls := "com/example/grantbook/grantbook/licence/PlainAttributesAddPinLaw", name := "field", desc := "(II)I" } : Jvm.MethodName) method_2_code (2 : Nat) (Option.some Jvm.ClassFile.FieldType.int)).before args0 about1 = true := code_word (m := ⟨1, 1⟩) (meth := k1m1) (c := k1c1) (by decide +kernel) rfl rfl rfl (by decide +kernel)
set_option maxRecDepth 65536 in
theorem w_c3 : (Jvm.Cond.code ({ cls := "java/lang/Math", name := "min", desc := "(II)I" } : Jvm.MethodName) jdk_29_method_69_code (2 : Nat) (Option.some Jvm.ClassFile.FieldType.int)).before args0 about1 = true := code_word (m := ⟨2, 2⟩) (meth := k2m2) (c := k2c2) (by decide +kernel) rfl rfl rfl (by decide +kernel)
set_option maxRecDepth 65536 in
theorem w_c4 : (Jvm.Cond.code ({ cls := "java/lang/Math", name := "max", desc := "(II)I" } : Jvm.MethodName) jdk_29_method_65_code (2 : Nat) (Option.some Jvm.ClassFile.FieldType.int)).before args0 about1 = true := code_word (m := ⟨2, 1⟩) (meth := k2m1) (c := k2c1) (by decide +kernel) rfl rfl rfl (by decide +kernel)
set_option maxRecDepth 65536 in
theorem w_c5 : (Jvm.Cond.code ({ cls := "com/example/grantbook/grantbook/licence/PlainAttributes", name := "<init>", desc := "([BI)V" } : Jvm.MethodName) prog_21_method_1_code (3 : Nat) (Option.none : Option Jvm.ClassFile.FieldType)).before args0 about1 = true := code_word (m := ⟨4, 0⟩) (meth := k4m0) (c := k4c0) (by decide +kernel) rfl rfl rfl (by decide +kernel)
set_option maxRecDepth 65536 in
theorem w_c6 : (Jvm.Cond.code ({ cls := "java/lang/Object", name := "<init>", desc := "()V" } : Jvm.MethodName) object_method_1_code (1 : Nat) (Option.none : Option Jvm.ClassFile.FieldType)).before args0 about1 = true := code_word (m := ⟨0, 0⟩) (meth := k0m0) (c := k0c0) (by decide +kernel) rfl rfl rfl (by decide +kernel)
set_option maxRecDepth 65536 in
theorem w_c7 : (Jvm.Cond.code ({ cls := "com/example/grantbook/grantbook/licence/PlainAttributes", name := "add", desc := "(IIIII)I" } : Jvm.MethodName) prog_21_method_3_code (6 : Nat) (Option.some Jvm.ClassFile.FieldType.int)).before args0 about1 = true := code_word (m := ⟨4, 2⟩) (meth := k4m2) (c := k4c2) (by decide +kernel) rfl rfl rfl (by decide +kernel)
set_option maxRecDepth 65536 in
theorem w_c8 : (Jvm.Cond.code ({ cls := "com/example/grantbook/grantbook/licence/PlainAttributes", name := "tell", desc := "(ILjava/lang/String;)V" } : Jvm.MethodName) prog_21_method_11_code (3 : Nat) (Option.none : Option Jvm.ClassFile.FieldType)).before args0 about1 = true := code_word (m := ⟨4, 3⟩) (meth := k4m3) (c := k4c3) (by decide +kernel) rfl rfl rfl (by decide +kernel)
set_option maxRecDepth 65536 in
theorem w_c9 : (Jvm.Cond.code ({ cls := "com/example/grantbook/grantbook/licence/PlainAttributes", name := "getQName", desc := "(I)Ljava/lang/String;" } : Jvm.MethodName) prog_21_method_21_code (2 : Nat) (Option.some (Jvm.ClassFile.FieldType.object "java/lang/String"))).before args0 about1 = true := code_word (m := ⟨4, 10⟩) (meth := k4m10) (c := k4c10) (by decide +kernel) rfl rfl rfl (by decide +kernel)
set_option maxRecDepth 65536 in
theorem w_c10 : (Jvm.Cond.code ({ cls := "com/example/grantbook/grantbook/licence/PlainAttributes", name := "isTold", desc := "(I)Z" } : Jvm.MethodName) prog_21_method_17_code (2 : Nat) (Option.some Jvm.ClassFile.FieldType.boolean)).before args0 about1 = true := code_word (m := ⟨4, 8⟩) (meth := k4m8) (c := k4c8) (by decide +kernel) rfl rfl rfl (by decide +kernel)
set_option maxRecDepth 65536 in
theorem w_c11 : (Jvm.Cond.code ({ cls := "com/example/grantbook/grantbook/licence/PlainAttributes", name := "qName", desc := "(I)Ljava/lang/String;" } : Jvm.MethodName) prog_21_method_13_code (2 : Nat) (Option.some (Jvm.ClassFile.FieldType.object "java/lang/String"))).before args0 about1 = true := code_word (m := ⟨4, 5⟩) (meth := k4m5) (c := k4c5) (by decide +kernel) rfl rfl rfl (by decide +kernel)
set_option maxRecDepth 65536 in
theorem w_c12 : (Jvm.Cond.code ({ cls := "com/example/grantbook/grantbook/licence/PlainAttributes", name := "text", desc := "(II)Ljava/lang/String;" } : Jvm.MethodName) prog_21_method_15_code (3 : Nat) (Option.some (Jvm.ClassFile.FieldType.object "java/lang/String"))).before args0 about1 = true := code_word (m := ⟨4, 7⟩) (meth := k4m7) (c := k4c7) (by decide +kernel) rfl rfl rfl (by decide +kernel)
set_option maxRecDepth 65536 in
theorem w_c13 : (Jvm.Cond.code ({ cls := "java/lang/String", name := "<init>", desc := "([BIILjava/nio/charset/Charset;)V" } : Jvm.MethodName) jdk_42_method_10_code (5 : Nat) (Option.none : Option Jvm.ClassFile.FieldType)).before args0 about1 = true := code_word (m := ⟨10, 1⟩) (meth := k10m1) (c := k10c1) (by decide +kernel) rfl rfl rfl (by decide +kernel)
set_option maxRecDepth 65536 in
theorem w_c14 : (Jvm.Cond.code ({ cls := "java/util/Objects", name := "requireNonNull", desc := "(Ljava/lang/Object;)Ljava/lang/Object;" } : Jvm.MethodName) jdk_31_method_10_code (1 : Nat) (Option.some (Jvm.ClassFile.FieldType.object "java/lang/Object"))).before args0 about1 = true := code_word (m := ⟨12, 1⟩) (meth := k12m1) (c := k12c1) (by decide +kernel) rfl rfl rfl (by decide +kernel)
set_option maxRecDepth 65536 in
theorem w_c15 : (Jvm.Cond.code ({ cls := "java/lang/String", name := "checkBoundsOffCount", desc := "(III)I" } : Jvm.MethodName) jdk_42_method_157_code (3 : Nat) (Option.some Jvm.ClassFile.FieldType.int)).before args0 about1 = true := code_word (m := ⟨10, 8⟩) (meth := k10m8) (c := k10c8) (by decide +kernel) rfl rfl rfl (by decide +kernel)
set_option maxRecDepth 65536 in
theorem w_c16 : (Jvm.Cond.code ({ cls := "jdk/internal/util/Preconditions", name := "checkFromIndexSize", desc := "(IIILjava/util/function/BiFunction;)I" } : Jvm.MethodName) jdk_41_method_13_code (4 : Nat) (Option.some Jvm.ClassFile.FieldType.int)).before args0 about1 = true := code_word (m := ⟨16, 2⟩) (meth := k16m2) (c := k16c2) (by decide +kernel) rfl rfl rfl (by decide +kernel)
set_option maxRecDepth 65536 in
theorem w_c17 : (Jvm.Cond.code ({ cls := "java/lang/StringCoding", name := "hasNegatives", desc := "([BII)Z" } : Jvm.MethodName) jdk_123_method_2_code (3 : Nat) (Option.some Jvm.ClassFile.FieldType.boolean)).before args0 about1 = true := code_word (m := ⟨20, 1⟩) (meth := k20m1) (c := k20c1) (by decide +kernel) rfl rfl rfl (by decide +kernel)
set_option maxRecDepth 65536 in
theorem w_c18 : (Jvm.Cond.code ({ cls := "java/lang/StringCoding", name := "countPositives", desc := "([BII)I" } : Jvm.MethodName) jdk_123_method_3_code (5 : Nat) (Option.some Jvm.ClassFile.FieldType.int)).before args0 about1 = true := code_word (m := ⟨20, 2⟩) (meth := k20m2) (c := k20c2) (by decide +kernel) rfl rfl rfl (by decide +kernel)
set_option maxRecDepth 65536 in
theorem w_c19 : (Jvm.Cond.code ({ cls := "java/util/Arrays", name := "copyOfRange", desc := "([BII)[B" } : Jvm.MethodName) jdk_65_method_132_code (3 : Nat) (Option.some (Jvm.ClassFile.FieldType.array Jvm.ClassFile.FieldType.byte))).before args0 about1 = true := code_word (m := ⟨21, 2⟩) (meth := k21m2) (c := k21c2) (by decide +kernel) rfl rfl rfl (by decide +kernel)
set_option maxRecDepth 65536 in
theorem w_c20 : (Jvm.Cond.code ({ cls := "java/util/Arrays", name := "copyOfRangeByte", desc := "([BII)[B" } : Jvm.MethodName) jdk_65_method_133_code (5 : Nat) (Option.some (Jvm.ClassFile.FieldType.array Jvm.ClassFile.FieldType.byte))).before args0 about1 = true := code_word (m := ⟨21, 3⟩) (meth := k21m3) (c := k21c3) (by decide +kernel) rfl rfl rfl (by decide +kernel)
set_option maxRecDepth 65536 in
theorem w_c21 : (Jvm.Cond.code ({ cls := "java/util/Arrays", name := "checkLength", desc := "(II)V" } : Jvm.MethodName) jdk_65_method_131_code (2 : Nat) (Option.none : Option Jvm.ClassFile.FieldType)).before args0 about1 = true := code_word (m := ⟨21, 1⟩) (meth := k21m1) (c := k21c1) (by decide +kernel) rfl rfl rfl (by decide +kernel)
set_option maxRecDepth 65536 in
theorem w_c22 : (Jvm.Cond.code ({ cls := "com/example/grantbook/grantbook/licence/PlainAttributes", name := "getLocalName", desc := "(I)Ljava/lang/String;" } : Jvm.MethodName) prog_21_method_20_code (2 : Nat) (Option.some (Jvm.ClassFile.FieldType.object "java/lang/String"))).before args0 about1 = true := code_word (m := ⟨4, 9⟩) (meth := k4m9) (c := k4c9) (by decide +kernel) rfl rfl rfl (by decide +kernel)
set_option maxRecDepth 65536 in
theorem w_c23 : (Jvm.Cond.code ({ cls := "com/example/grantbook/grantbook/licence/PlainAttributes", name := "localName", desc := "(I)Ljava/lang/String;" } : Jvm.MethodName) prog_21_method_14_code (2 : Nat) (Option.some (Jvm.ClassFile.FieldType.object "java/lang/String"))).before args0 about1 = true := code_word (m := ⟨4, 6⟩) (meth := k4m6) (c := k4c6) (by decide +kernel) rfl rfl rfl (by decide +kernel)
set_option maxRecDepth 65536 in
theorem w_c24 : (Jvm.Cond.code ({ cls := "com/example/grantbook/grantbook/licence/PlainAttributes", name := "getValue", desc := "(I)Ljava/lang/String;" } : Jvm.MethodName) prog_21_method_23_code (2 : Nat) (Option.some (Jvm.ClassFile.FieldType.object "java/lang/String"))).before args0 about1 = true := code_word (m := ⟨4, 11⟩) (meth := k4m11) (c := k4c11) (by decide +kernel) rfl rfl rfl (by decide +kernel)
set_option maxRecDepth 65536 in
theorem w_c25 : (Jvm.Cond.code ({ cls := "com/example/grantbook/grantbook/licence/PlainAttributes", name := "value", desc := "(I)Ljava/lang/String;" } : Jvm.MethodName) prog_21_method_12_code (3 : Nat) (Option.some (Jvm.ClassFile.FieldType.object "java/lang/String"))).before args0 about1 = true := code_word (m := ⟨4, 4⟩) (meth := k4m4) (c := k4c4) (by decide +kernel) rfl rfl rfl (by decide +kernel)
set_option maxRecDepth 65536 in
theorem w_c26 : (Jvm.Cond.code ({ cls := "com/example/grantbook/grantbook/licence/PlainAttributesAddPinLaw", name := "same", desc := "(Ljava/lang/String;[BII)Z" } : Jvm.MethodName) method_5_code (5 : Nat) (Option.some Jvm.ClassFile.FieldType.boolean)).before args0 about1 = true := code_word (m := ⟨1, 4⟩) (meth := k1m4) (c := k1c4) (by decide +kernel) rfl rfl rfl (by decide +kernel)
set_option maxRecDepth 65536 in
theorem w_c27 : (Jvm.Cond.code ({ cls := "java/lang/String", name := "length", desc := "()I" } : Jvm.MethodName) jdk_42_method_54_code (1 : Nat) (Option.some Jvm.ClassFile.FieldType.int)).before args0 about1 = true := code_word (m := ⟨10, 3⟩) (meth := k10m3) (c := k10c3) (by decide +kernel) rfl rfl rfl (by decide +kernel)
set_option maxRecDepth 65536 in
theorem w_c28 : (Jvm.Cond.code ({ cls := "java/lang/String", name := "coder", desc := "()B" } : Jvm.MethodName) jdk_42_method_152_code (1 : Nat) (Option.some Jvm.ClassFile.FieldType.byte)).before args0 about1 = true := code_word (m := ⟨10, 5⟩) (meth := k10m5) (c := k10c5) (by decide +kernel) rfl rfl rfl (by decide +kernel)
set_option maxRecDepth 65536 in
theorem w_c29 : (Jvm.Cond.code ({ cls := "com/example/grantbook/grantbook/licence/PlainAttributesAddPinLaw", name := "at", desc := "(Ljava/lang/String;[BIII)Z" } : Jvm.MethodName) method_4_code (5 : Nat) (Option.some Jvm.ClassFile.FieldType.boolean)).before args0 about1 = true := code_word (m := ⟨1, 3⟩) (meth := k1m3) (c := k1c3) (by decide +kernel) rfl rfl rfl (by decide +kernel)
set_option maxRecDepth 65536 in
theorem w_c30 : (Jvm.Cond.code ({ cls := "java/lang/String", name := "charAt", desc := "(I)C" } : Jvm.MethodName) jdk_42_method_56_code (2 : Nat) (Option.some Jvm.ClassFile.FieldType.char)).before args0 about1 = true := code_word (m := ⟨10, 4⟩) (meth := k10m4) (c := k10c4) (by decide +kernel) rfl rfl rfl (by decide +kernel)
set_option maxRecDepth 65536 in
theorem w_c31 : (Jvm.Cond.code ({ cls := "java/lang/String", name := "isLatin1", desc := "()Z" } : Jvm.MethodName) jdk_42_method_154_code (1 : Nat) (Option.some Jvm.ClassFile.FieldType.boolean)).before args0 about1 = true := code_word (m := ⟨10, 6⟩) (meth := k10m6) (c := k10c6) (by decide +kernel) rfl rfl rfl (by decide +kernel)
set_option maxRecDepth 65536 in
theorem w_c32 : (Jvm.Cond.code ({ cls := "java/lang/StringLatin1", name := "charAt", desc := "([BI)C" } : Jvm.MethodName) jdk_43_method_2_code (2 : Nat) (Option.some Jvm.ClassFile.FieldType.char)).before args0 about1 = true := code_word (m := ⟨23, 1⟩) (meth := k23m1) (c := k23c1) (by decide +kernel) rfl rfl rfl (by decide +kernel)
set_option maxRecDepth 65536 in
theorem w_c33 : (Jvm.Cond.code ({ cls := "java/lang/String", name := "checkIndex", desc := "(II)V" } : Jvm.MethodName) jdk_42_method_155_code (2 : Nat) (Option.none : Option Jvm.ClassFile.FieldType)).before args0 about1 = true := code_word (m := ⟨10, 7⟩) (meth := k10m7) (c := k10c7) (by decide +kernel) rfl rfl rfl (by decide +kernel)
set_option maxRecDepth 65536 in
theorem w_c34 : (Jvm.Cond.code ({ cls := "jdk/internal/util/Preconditions", name := "checkIndex", desc := "(IILjava/util/function/BiFunction;)I" } : Jvm.MethodName) jdk_41_method_11_code (3 : Nat) (Option.some Jvm.ClassFile.FieldType.int)).before args0 about1 = true := code_word (m := ⟨16, 1⟩) (meth := k16m1) (c := k16c1) (by decide +kernel) rfl rfl rfl (by decide +kernel)
set_option maxRecDepth 65536 in
theorem w_c35 : (Jvm.Cond.code ({ cls := "com/example/grantbook/grantbook/licence/PlainAttributes", name := "clear", desc := "()V" } : Jvm.MethodName) prog_21_method_2_code (1 : Nat) (Option.none : Option Jvm.ClassFile.FieldType)).before args0 about1 = true := code_word (m := ⟨4, 1⟩) (meth := k4m1) (c := k4c1) (by decide +kernel) rfl rfl rfl (by decide +kernel)
set_option maxRecDepth 65536 in
theorem w_cW : (Jvm.Cond.codeWith ({ cls := "java/lang/String", name := "<init>", desc := "(Ljava/nio/charset/Charset;[BII)V" } : Jvm.MethodName) jdk_42_method_11_code (11 : Nat) (Option.none : Option Jvm.ClassFile.FieldType) [((800 : Nat), (813 : Nat), (816 : Nat), (202 : Nat))]).before args0 about1 = true := codeW_word (m := ⟨10, 2⟩) (meth := k10m2) (c := k10c2) (by decide +kernel) rfl rfl rfl (by decide +kernel)
def codes1 : List Jvm.Cond := [Jvm.Cond.code x code maxLocals ret, Jvm.Cond.code ({ cls := "com/example/grantbook/grantbook/licence/PlainAttributesAddPinLaw", name := "attr", desc := "(I)[I" } : Jvm.MethodName) method_3_code (9 : Nat) (Option.some (Jvm.ClassFile.FieldType.array Jvm.ClassFile.FieldType.int)), Jvm.Cond.code ({ cls := "com/example/grantbook/grantbook/licence/PlainAttributesAddPinLaw", name := "field", desc := "(II)I" } : Jvm.MethodName) method_2_code (2 : Nat) (Option.some Jvm.ClassFile.FieldType.int), Jvm.Cond.code ({ cls := "java/lang/Math", name := "min", desc := "(II)I" } : Jvm.MethodName) jdk_29_method_69_code (2 : Nat) (Option.some Jvm.ClassFile.FieldType.int), Jvm.Cond.code ({ cls := "java/lang/Math", name := "max", desc := "(II)I" } : Jvm.MethodName) jdk_29_method_65_code (2 : Nat) (Option.some Jvm.ClassFile.FieldType.int), Jvm.Cond.code ({ cls := "com/example/grantbook/grantbook/licence/PlainAttributes", name := "<init>", desc := "([BI)V" } : Jvm.MethodName) prog_21_method_1_code (3 : Nat) (Option.none : Option Jvm.ClassFile.FieldType), Jvm.Cond.code ({ cls := "java/lang/Object", name := "<init>", desc := "()V" } : Jvm.MethodName) object_method_1_code (1 : Nat) (Option.none : Option Jvm.ClassFile.FieldType), Jvm.Cond.code ({ cls := "com/example/grantbook/grantbook/licence/PlainAttributes", name := "add", desc := "(IIIII)I" } : Jvm.MethodName) prog_21_method_3_code (6 : Nat) (Option.some Jvm.ClassFile.FieldType.int), Jvm.Cond.code ({ cls := "com/example/grantbook/grantbook/licence/PlainAttributes", name := "tell", desc := "(ILjava/lang/String;)V" } : Jvm.MethodName) prog_21_method_11_code (3 : Nat) (Option.none : Option Jvm.ClassFile.FieldType), Jvm.Cond.code ({ cls := "com/example/grantbook/grantbook/licence/PlainAttributes", name := "getQName", desc := "(I)Ljava/lang/String;" } : Jvm.MethodName) prog_21_method_21_code (2 : Nat) (Option.some (Jvm.ClassFile.FieldType.object "java/lang/String")), Jvm.Cond.code ({ cls := "com/example/grantbook/grantbook/licence/PlainAttributes", name := "isTold", desc := "(I)Z" } : Jvm.MethodName) prog_21_method_17_code (2 : Nat) (Option.some Jvm.ClassFile.FieldType.boolean), Jvm.Cond.code ({ cls := "com/example/grantbook/grantbook/licence/PlainAttributes", name := "qName", desc := "(I)Ljava/lang/String;" } : Jvm.MethodName) prog_21_method_13_code (2 : Nat) (Option.some (Jvm.ClassFile.FieldType.object "java/lang/String")), Jvm.Cond.code ({ cls := "com/example/grantbook/grantbook/licence/PlainAttributes", name := "text", desc := "(II)Ljava/lang/String;" } : Jvm.MethodName) prog_21_method_15_code (3 : Nat) (Option.some (Jvm.ClassFile.FieldType.object "java/lang/String")), Jvm.Cond.code ({ cls := "java/lang/String", name := "<init>", desc := "([BIILjava/nio/charset/Charset;)V" } : Jvm.MethodName) jdk_42_method_10_code (5 : Nat) (Option.none : Option Jvm.ClassFile.FieldType), Jvm.Cond.code ({ cls := "java/util/Objects", name := "requireNonNull", desc := "(Ljava/lang/Object;)Ljava/lang/Object;" } : Jvm.MethodName) jdk_31_method_10_code (1 : Nat) (Option.some (Jvm.ClassFile.FieldType.object "java/lang/Object")), Jvm.Cond.code ({ cls := "java/lang/String", name := "checkBoundsOffCount", desc := "(III)I" } : Jvm.MethodName) jdk_42_method_157_code (3 : Nat) (Option.some Jvm.ClassFile.FieldType.int), Jvm.Cond.code ({ cls := "jdk/internal/util/Preconditions", name := "checkFromIndexSize", desc := "(IIILjava/util/function/BiFunction;)I" } : Jvm.MethodName) jdk_41_method_13_code (4 : Nat) (Option.some Jvm.ClassFile.FieldType.int), Jvm.Cond.codeWith ({ cls := "java/lang/String", name := "<init>", desc := "(Ljava/nio/charset/Charset;[BII)V" } : Jvm.MethodName) jdk_42_method_11_code (11 : Nat) (Option.none : Option Jvm.ClassFile.FieldType) [((800 : Nat), (813 : Nat), (816 : Nat), (202 : Nat))], Jvm.Cond.code ({ cls := "java/lang/StringCoding", name := "hasNegatives", desc := "([BII)Z" } : Jvm.MethodName) jdk_123_method_2_code (3 : Nat) (Option.some Jvm.ClassFile.FieldType.boolean), Jvm.Cond.code ({ cls := "java/lang/StringCoding", name := "countPositives", desc := "([BII)I" } : Jvm.MethodName) jdk_123_method_3_code (5 : Nat) (Option.some Jvm.ClassFile.FieldType.int), Jvm.Cond.code ({ cls := "java/util/Arrays", name := "copyOfRange", desc := "([BII)[B" } : Jvm.MethodName) jdk_65_method_132_code (3 : Nat) (Option.some (Jvm.ClassFile.FieldType.array Jvm.ClassFile.FieldType.byte)), Jvm.Cond.code ({ cls := "java/util/Arrays", name := "copyOfRangeByte", desc := "([BII)[B" } : Jvm.MethodName) jdk_65_method_133_code (5 : Nat) (Option.some (Jvm.ClassFile.FieldType.array Jvm.ClassFile.FieldType.byte)), Jvm.Cond.code ({ cls := "java/util/Arrays", name := "checkLength", desc := "(II)V" } : Jvm.MethodName) jdk_65_method_131_code (2 : Nat) (Option.none : Option Jvm.ClassFile.FieldType), Jvm.Cond.code ({ cls := "com/example/grantbook/grantbook/licence/PlainAttributes", name := "getLocalName", desc := "(I)Ljava/lang/String;" } : Jvm.MethodName) prog_21_method_20_code (2 : Nat) (Option.some (Jvm.ClassFile.FieldType.object "java/lang/String")), Jvm.Cond.code ({ cls := "com/example/grantbook/grantbook/licence/PlainAttributes", name := "localName", desc := "(I)Ljava/lang/String;" } : Jvm.MethodName) prog_21_method_14_code (2 : Nat) (Option.some (Jvm.ClassFile.FieldType.object "java/lang/String")), Jvm.Cond.code ({ cls := "com/example/grantbook/grantbook/licence/PlainAttributes", name := "getValue", desc := "(I)Ljava/lang/String;" } : Jvm.MethodName) prog_21_method_23_code (2 : Nat) (Option.some (Jvm.ClassFile.FieldType.object "java/lang/String")), Jvm.Cond.code ({ cls := "com/example/grantbook/grantbook/licence/PlainAttributes", name := "value", desc := "(I)Ljava/lang/String;" } : Jvm.MethodName) prog_21_method_12_code (3 : Nat) (Option.some (Jvm.ClassFile.FieldType.object "java/lang/String")), Jvm.Cond.code ({ cls := "com/example/grantbook/grantbook/licence/PlainAttributesAddPinLaw", name := "same", desc := "(Ljava/lang/String;[BII)Z" } : Jvm.MethodName) method_5_code (5 : Nat) (Option.some Jvm.ClassFile.FieldType.boolean), Jvm.Cond.code ({ cls := "java/lang/String", name := "length", desc := "()I" } : Jvm.MethodName) jdk_42_method_54_code (1 : Nat) (Option.some Jvm.ClassFile.FieldType.int), Jvm.Cond.code ({ cls := "java/lang/String", name := "coder", desc := "()B" } : Jvm.MethodName) jdk_42_method_152_code (1 : Nat) (Option.some Jvm.ClassFile.FieldType.byte), Jvm.Cond.code ({ cls := "com/example/grantbook/grantbook/licence/PlainAttributesAddPinLaw", name := "at", desc := "(Ljava/lang/String;[BIII)Z" } : Jvm.MethodName) method_4_code (5 : Nat) (Option.some Jvm.ClassFile.FieldType.boolean), Jvm.Cond.code ({ cls := "java/lang/String", name := "charAt", desc := "(I)C" } : Jvm.MethodName) jdk_42_method_56_code (2 : Nat) (Option.some Jvm.ClassFile.FieldType.char), Jvm.Cond.code ({ cls := "java/lang/String", name := "isLatin1", desc := "()Z" } : Jvm.MethodName) jdk_42_method_154_code (1 : Nat) (Option.some Jvm.ClassFile.FieldType.boolean), Jvm.Cond.code ({ cls := "java/lang/StringLatin1", name := "charAt", desc := "([BI)C" } : Jvm.MethodName) jdk_43_method_2_code (2 : Nat) (Option.some Jvm.ClassFile.FieldType.char), Jvm.Cond.code ({ cls := "java/lang/String", name := "checkIndex", desc := "(II)V" } : Jvm.MethodName) jdk_42_method_155_code (2 : Nat) (Option.none : Option Jvm.ClassFile.FieldType), Jvm.Cond.code ({ cls := "jdk/internal/util/Preconditions", name := "checkIndex", desc := "(IILjava/util/function/BiFunction;)I" } : Jvm.MethodName) jdk_41_method_11_code (3 : Nat) (Option.some Jvm.ClassFile.FieldType.int), Jvm.Cond.code ({ cls := "com/example/grantbook/grantbook/licence/PlainAttributes", name := "clear", desc := "()V" } : Jvm.MethodName) prog_21_method_2_code (1 : Nat) (Option.none : Option Jvm.ClassFile.FieldType)]
set_option maxRecDepth 65536 in
theorem codes_eq : words1.filter isCode = codes1 := rfl
theorem w_codes : ∀ c ∈ words1.filter isCode, c.before args0 about1 = true := by
  rw [codes_eq]
  intro c hc
  simp only [codes1, List.mem_cons, List.not_mem_nil, or_false] at hc
  rcases hc with rfl | rfl | rfl | rfl | rfl | rfl | rfl | rfl | rfl | rfl | rfl | rfl | rfl | rfl | rfl | rfl | rfl | rfl | rfl | rfl | rfl | rfl | rfl | rfl | rfl | rfl | rfl | rfl | rfl | rfl | rfl | rfl | rfl | rfl | rfl | rfl | rfl
  · exact w_c0
  · exact w_c1
  · exact w_c2
  · exact w_c3
  · exact w_c4
  · exact w_c5
  · exact w_c6
  · exact w_c7
  · exact w_c8
  · exact w_c9
  · exact w_c10
  · exact w_c11
  · exact w_c12
  · exact w_c13
  · exact w_c14
  · exact w_c15
  · exact w_c16
  · exact w_cW
  · exact w_c17
  · exact w_c18
  · exact w_c19
  · exact w_c20
  · exact w_c21
  · exact w_c22
  · exact w_c23
  · exact w_c24
  · exact w_c25
  · exact w_c26
  · exact w_c27
  · exact w_c28
  · exact w_c29
  · exact w_c30
  · exact w_c31
  · exact w_c32
  · exact w_c33
  · exact w_c34
  · exact w_c35
set_option maxRecDepth 65536 in
theorem w_t1 : (words1.take 24).all (fun c => isCode c || c.before args0 about1) = true := by decide +kernel
set_option maxRecDepth 65536 in
theorem w_t2 : ((words1.drop 24).take 24).all (fun c => isCode c || c.before args0 about1) = true := by decide +kernel
set_option maxRecDepth 65536 in
theorem w_t3 : (((words1.drop 24).drop 24).take 24).all (fun c => isCode c || c.before args0 about1) = true := by decide +kernel
set_option maxRecDepth 65536 in
theorem w_t4 : ((((words1.drop 24).drop 24).drop 24).take 24).all (fun c => isCode c || c.before args0 about1) = true := by decide +kernel
set_option maxRecDepth 65536 in
theorem w_t5 : (((((words1.drop 24).drop 24).drop 24).drop 24).take 24).all (fun c => isCode c || c.before args0 about1) = true := by decide +kernel
set_option maxRecDepth 65536 in
theorem w_t6 : ((((((words1.drop 24).drop 24).drop 24).drop 24).drop 24).take 24).all (fun c => isCode c || c.before args0 about1) = true := by decide +kernel
set_option maxRecDepth 65536 in
theorem w_t7 : (((((((words1.drop 24).drop 24).drop 24).drop 24).drop 24).drop 24).take 24).all (fun c => isCode c || c.before args0 about1) = true := by decide +kernel
set_option maxRecDepth 65536 in
theorem w_t8 : ((((((((words1.drop 24).drop 24).drop 24).drop 24).drop 24).drop 24).drop 24).take 24).all (fun c => isCode c || c.before args0 about1) = true := by decide +kernel
set_option maxRecDepth 65536 in
theorem w_t9 : (((((((((words1.drop 24).drop 24).drop 24).drop 24).drop 24).drop 24).drop 24).drop 24).take 24).all (fun c => isCode c || c.before args0 about1) = true := by decide +kernel
set_option maxRecDepth 65536 in
theorem w_t10 : (((((((((words1.drop 24).drop 24).drop 24).drop 24).drop 24).drop 24).drop 24).drop 24).drop 24).all (fun c => isCode c || c.before args0 about1) = true := by decide +kernel
theorem w_tables : (allAtoms (Jvm.Cond.code x code maxLocals ret :: tables_1)).before args0 about1 = true := by
  rw [allAtoms_all]
  show words1.all (fun c => c.before args0 about1) = true
  refine all_split ?_ w_codes
  rw [← List.take_append_drop 24 words1, List.all_append, w_t1, ← List.take_append_drop 24 (words1.drop 24), List.all_append, w_t2, ← List.take_append_drop 24 ((words1.drop 24).drop 24), List.all_append, w_t3, ← List.take_append_drop 24 (((words1.drop 24).drop 24).drop 24), List.all_append, w_t4, ← List.take_append_drop 24 ((((words1.drop 24).drop 24).drop 24).drop 24), List.all_append, w_t5, ← List.take_append_drop 24 (((((words1.drop 24).drop 24).drop 24).drop 24).drop 24), List.all_append, w_t6, ← List.take_append_drop 24 ((((((words1.drop 24).drop 24).drop 24).drop 24).drop 24).drop 24), List.all_append, w_t7, ← List.take_append_drop 24 (((((((words1.drop 24).drop 24).drop 24).drop 24).drop 24).drop 24).drop 24), List.all_append, w_t8, ← List.take_append_drop 24 ((((((((words1.drop 24).drop 24).drop 24).drop 24).drop 24).drop 24).drop 24).drop 24), List.all_append, w_t9, w_t10]
  rfl
set_option maxRecDepth 65536 in
theorem w_rest : rest_1_c.before args0 about1 = true := by decide +kernel
set_option maxRecDepth 65536 in
theorem w_case : (Jvm.Cond.and given_1 narrow_1).before args0 about1 = true := by decide +kernel
set_option maxRecDepth 65536 in
theorem w_consts : constsHeld consts_1 about1 := Jvm.Lit.constsHeldB_iff.mp (by decide +kernel)
theorem w_applies : (headSpec (Jvm.Cond.code x code maxLocals ret :: tables_1) room_1).applies x e0.platform about1 = true :=
  (Spec.applies_iff w_frames).mpr ⟨w_running, w_runnable, w_alone, w_named, w_hears, w_ripe, w_room, w_tables⟩
theorem atStart : AtStart classFile x code maxLocals ret World_1 tables_1 room_1 Calls_1 rest_1 Pre_1 launch0 p0 e0 about1 theMethod args0 below0 :=
  ⟨lists_1, trivial, launch0.admits_env _ _ _, launch0.least_env, fairChoices_fair.cas, fairChoices_fair.clock, w_frames, w_args, w_heap, w_applies, ⟨w_consts, trivial⟩, w_rest, w_case⟩
end start1
theorem witness_1 : WitnessClaimed_1 := ⟨start1.p0, start1.e0, start1.about1, start1.theMethod, start1.args0, start1.below0, start1.atStart⟩
end Jvm.Pilot.@@N@@
