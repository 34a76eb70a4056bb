import JvmDerived
import JvmDerived.Pilot.@@N@@Statement
import JvmDerived.Pilot.@@N@@Code
set_option linter.unusedVariables false
set_option linter.unusedSimpArgs false
namespace Jvm.Pilot.@@N@@
open Jvm Jvm.ClassFile Sem Op Lib Jvm.Free Jvm.Stand Jvm.LawKit Jvm.RoadKit Bundle Jvm.Pilot.@@N@@.Jvm.D
theorem ow {Z : State} {az : Array Value} {tb : List Jvm.Cond} (hw : ∀ d ∈ tb, d.before az Z = true) (i : Nat) {d : Jvm.Cond} (h : tb[i]? = some d) : d.before az Z = true := hw _ (List.mem_of_getElem? h)
abbrev mN0 : MethodName := ⟨"com/example/winj/winj/storage/Utf8", "encodes", "(Ljava/lang/String;)Z"⟩
abbrev mN1 : MethodName := ⟨"com/example/winj/winj/storage/Utf8", "pairAt", "(Ljava/lang/String;I)Z"⟩
abbrev mN2 : MethodName := ⟨"com/example/winj/winj/storage/Utf8EncodesPinLaw", "draw", "(I)C"⟩
abbrev mN3 : MethodName := ⟨"com/example/winj/winj/storage/Utf8EncodesPinLaw", "hi", "(C)Z"⟩
abbrev mN4 : MethodName := ⟨"com/example/winj/winj/storage/Utf8EncodesPinLaw", "lo", "(C)Z"⟩
abbrev mN5 : MethodName := ⟨"com/example/winj/winj/storage/Utf8EncodesPinLaw", "unitOk", "(CZCCZ)Z"⟩
abbrev mN6 : MethodName := ⟨"java/lang/Character", "isHighSurrogate", "(C)Z"⟩
abbrev mN7 : MethodName := ⟨"java/lang/Character", "isLowSurrogate", "(C)Z"⟩
abbrev mN8 : MethodName := ⟨"java/lang/Character", "isSurrogate", "(C)Z"⟩
abbrev mN9 : MethodName := ⟨"java/lang/String", "<init>", "([C)V"⟩
abbrev mN10 : MethodName := ⟨"java/lang/String", "<init>", "([CIILjava/lang/Void;)V"⟩
abbrev mN11 : MethodName := ⟨"java/lang/String", "charAt", "(I)C"⟩
abbrev mN12 : MethodName := ⟨"java/lang/String", "checkIndex", "(II)V"⟩
abbrev mN13 : MethodName := ⟨"java/lang/String", "coder", "()B"⟩
abbrev mN14 : MethodName := ⟨"java/lang/String", "isLatin1", "()Z"⟩
abbrev mN15 : MethodName := ⟨"java/lang/String", "length", "()I"⟩
abbrev mN16 : MethodName := ⟨"java/lang/StringLatin1", "charAt", "([BI)C"⟩
abbrev mN17 : MethodName := ⟨"java/lang/StringUTF16", "charAt", "([BI)C"⟩
abbrev mN18 : MethodName := ⟨"java/lang/StringUTF16", "checkIndex", "(I[B)V"⟩
abbrev mN19 : MethodName := ⟨"java/lang/StringUTF16", "coderFromArrayLen", "([BI)B"⟩
abbrev mN20 : MethodName := ⟨"java/lang/StringUTF16", "compress", "([CII)[B"⟩
abbrev mN21 : MethodName := ⟨"java/lang/StringUTF16", "compress", "([CI[BII)I"⟩
abbrev mN22 : MethodName := ⟨"java/lang/StringUTF16", "getChar", "([BI)C"⟩
abbrev mN23 : MethodName := ⟨"java/lang/StringUTF16", "length", "([B)I"⟩
abbrev mN24 : MethodName := ⟨"java/lang/StringUTF16", "newBytesFor", "(I)[B"⟩
abbrev mN25 : MethodName := ⟨"java/lang/StringUTF16", "newBytesLength", "(I)I"⟩
abbrev mN26 : MethodName := ⟨"java/lang/StringUTF16", "putChar", "([BII)V"⟩
abbrev mN27 : MethodName := ⟨"java/lang/StringUTF16", "toBytes", "([CII)[B"⟩
abbrev mN28 : MethodName := ⟨"jdk/internal/util/Preconditions", "checkIndex", "(IILjava/util/function/BiFunction;)I"⟩
abbrev rO (a b c d : Nat) : Room := { frames := a, cells := b, slots := c, locals := d }
abbrev HW (az : Array Value) (Z : State) : Prop := ∀ d ∈ tables_1, d.before az Z = true
theorem oW {g : JFrame} {rest : List Value} {W : Nat} (h1 : g.monitorRoom = 0) (h2 : (rest.map fun v => v.category).sum = W) : 2 * g.monitorRoom + (rest.map fun v => v.category).sum ≤ W := by rw [h1, h2]; exact Nat.le_of_eq (Nat.zero_add W)
abbrev MF (l : Launch) (y : MethodName) (W : List Jvm.Cond) (R : Room) (A : Array Value) (Z : State) (h0 : Heap) (Q : Option Value → Heap → List Loc → Prop) : Prop := MetFree l y (head1 W R) (fun a U => a = A ∧ Z.Warmed39 U.vm ∧ U.heap = h0) (fun _ _ _ _ _ => True) (fun _ U o U' => ∃ v L, o = .returned v ∧ Q v U'.heap L ∧ FrameEnd U o U' L R.cells R.slots)
abbrev tS0 (Z : State) (h : Heap) (v : Value) : Prop := Sta Z h "java/lang/String" "COMPACT_STRINGS" "Z" v
abbrev tS1 (Z : State) (h : Heap) (v : Value) : Prop := Sta Z h "jdk/internal/util/Preconditions" "SIOOBE_FORMATTER" "Ljava/util/function/BiFunction;" v
abbrev tS2 (Z : State) (h : Heap) (v : Value) : Prop := Sta Z h "java/lang/StringUTF16" "$assertionsDisabled" "Z" v
abbrev tS3 (Z : State) (h : Heap) (v : Value) : Prop := Sta Z h "java/lang/StringUTF16" "HI_BYTE_SHIFT" "I" v
abbrev tS4 (Z : State) (h : Heap) (v : Value) : Prop := Sta Z h "java/lang/StringUTF16" "LO_BYTE_SHIFT" "I" v
abbrev tF0 (Z : State) (h : Heap) (a : Addr) (v : Value) : Prop := Fld Z h a "java/lang/String" "coder" "B" v
abbrev tF1 (Z : State) (h : Heap) (a : Addr) (v : Value) : Prop := Fld Z h a "java/lang/String" "value" "[B" v
set_option maxRecDepth 65536
set_option maxHeartbeats 4000000
abbrev vi (x : Int32) : Slot := .val (.int x)
abbrev vr (x : Addr) : Slot := .val (.ref x)
abbrev vj (x : Int64) : Slot := .val (.long x)
section OwnKit
variable {p : Program} {l : Launch} {e : Env} {R : Room} {s : State} {m : MethodId} {args : Array Value} {below : List Frame} {meth : Method} {c : Code} {T : State} {locs : List Loc} {cells slots ck sk : Nat} {S S' t : State} {Q : Option Value → Heap → List Loc → Prop}
/-- from S the run comes to a return of which Q is said -/
def Go (p : Program) (e : Env) (below : List Frame) (s : State) (Q : Option Value → Heap → List Loc → Prop) (ck sk : Nat) (S : State) : Prop :=
  ∃ s₂ o, Steps p.tables e below S s₂ ∧ s₂.status = .running ∧ Ended s₂ below o ∧ ∃ v L, o = .returned v ∧ Q v s₂.heap L ∧ FrameEnd s o s₂ L ck sk
theorem Go.st (h : ∀ t, Steps p.tables e below S' t → Steps p.tables e below S t) (k : Go p e below s Q ck sk S') : Go p e below s Q ck sk S := by
  obtain ⟨s₂, o, h1, r⟩ := k
  exact ⟨s₂, o, h _ h1, r⟩
theorem Go.tr (h : Steps p.tables e below S S') (k : Go p e below s Q ck sk S') : Go p e below s Q ck sk S := Go.st (fun _ q => h.trans q) k
theorem via (h : Steps p.tables e below S' t → Steps p.tables e below S t) (k : Steps p.tables e below S' t) : Steps p.tables e below S t := h k
theorem Go.retW (X : Stand p l e R s m args below meth c T locs cells slots) (hx : p.tables.exec = Jvm.exec) (hlk : meth.locks = false) {pc : Nat} {Ls : Array Slot} {w : Value} {ty : FieldType} {i : Instr} {rest : List Value} (hret : meth.sig.returnType = some ty) (hn : narrow ty w = w)
    (hi : (i = .ireturn ∧ (ty = .int ∨ ty = .boolean ∨ ty = .byte ∨ ty = .char ∨ ty = .short) ∧ ∃ z, w = .int z) ∨ (i = .lreturn ∧ ty = .long ∧ ∃ z, w = .long z) ∨ (i = .dreturn ∧ ty = .double ∧ ∃ z, w = .double z) ∨ (i = .freturn ∧ ty = .float ∧ ∃ z, w = .float z) ∨ (i = .areturn ∧ ty.isReference = true ∧ w.isRef = true))
    (hd : decode c.code pc = .ok (i, 1)) (hQ : Q (some w) T.heap locs) (hc : cells ≤ ck) (hs : slots ≤ sk) : Go p e below s Q ck sk (T.setTop (mkF m pc Ls (w :: rest))) := by
  obtain ⟨fs, hr, hrun, hended, hW, hsame⟩ := X.leave (v := some w) (fun h => by rw [hret] at h; cases h)
  exact ⟨_, _, retOut X hx hret hn hi hd hr, hrun, hended, _, _, rfl, hQ, ⟨_, rfl⟩, hW, hsame.mono hc hs⟩
theorem Go.retI (X : Stand p l e R s m args below meth c T locs cells slots) (hx : p.tables.exec = Jvm.exec) (hlk : meth.locks = false) {pc : Nat} {Ls : Array Slot} {z : Int32} {rest : List Value} (hret : meth.sig.returnType = some .int) (hd : decode c.code pc = .ok (.ireturn, 1)) (hQ : Q (some (.int z)) T.heap locs) (hc : cells ≤ ck) (hs : slots ≤ sk) : Go p e below s Q ck sk (T.setTop (mkF m pc Ls (.int z :: rest))) :=
  Go.retW X hx hlk hret rfl (Or.inl ⟨rfl, Or.inl rfl, _, rfl⟩) hd hQ hc hs
theorem Go.retJ (X : Stand p l e R s m args below meth c T locs cells slots) (hx : p.tables.exec = Jvm.exec) (hlk : meth.locks = false) {pc : Nat} {Ls : Array Slot} {z : Int64} {rest : List Value} (hret : meth.sig.returnType = some .long) (hd : decode c.code pc = .ok (.lreturn, 1)) (hQ : Q (some (.long z)) T.heap locs) (hc : cells ≤ ck) (hs : slots ≤ sk) : Go p e below s Q ck sk (T.setTop (mkF m pc Ls (.long z :: rest))) :=
  Go.retW X hx hlk hret rfl (Or.inr (Or.inl ⟨rfl, rfl, _, rfl⟩)) hd hQ hc hs
theorem Go.retA (X : Stand p l e R s m args below meth c T locs cells slots) (hx : p.tables.exec = Jvm.exec) (hlk : meth.locks = false) {pc : Nat} {Ls : Array Slot} {w : Value} {ty : FieldType} {rest : List Value} (hret : meth.sig.returnType = some ty) (ht : ty.isReference = true) (hw : w.isRef = true) (hd : decode c.code pc = .ok (.areturn, 1)) (hQ : Q (some w) T.heap locs) (hc : cells ≤ ck) (hs : slots ≤ sk) : Go p e below s Q ck sk (T.setTop (mkF m pc Ls (w :: rest))) :=
  Go.retW X hx hlk hret (by cases ty <;> first | (cases ht; done) | (cases w <;> first | rfl | cases hw)) (Or.inr (Or.inr (Or.inr (Or.inr ⟨rfl, ht, hw⟩)))) hd hQ hc hs
theorem Go.retN (X : Stand p l e R s m args below meth c T locs cells slots) (hx : p.tables.exec = Jvm.exec) (hlk : meth.locks = false) {pc : Nat} {Ls : Array Slot} {z : Int32} {t : FieldType} {rest : List Value} (hret : meth.sig.returnType = some t) (ht : t = .boolean ∨ t = .byte ∨ t = .char ∨ t = .short) (hd : decode c.code pc = .ok (.ireturn, 1)) (hQ : Q (some (.int (nar t z))) T.heap locs) (hc : cells ≤ ck) (hs : slots ≤ sk) : Go p e below s Q ck sk (T.setTop (mkF m pc Ls (.int z :: rest))) := by
  obtain ⟨fs, hr, hrun, hended, hW, hsame⟩ := X.leave (v := some (.int (nar t z))) (fun h => by rw [hret] at h; cases h)
  exact ⟨_, _, Jvm.RoadKit.retN X hx hret ht hd hr, hrun, hended, _, _, rfl, hQ, ⟨_, rfl⟩, hW, hsame.mono hc hs⟩
theorem Go.ret0 (X : Stand p l e R s m args below meth c T locs cells slots) (hx : p.tables.exec = Jvm.exec) (hlk : meth.locks = false) {pc : Nat} {Ls : Array Slot} (hret : meth.sig.returnType = none) (hd : decode c.code pc = .ok (.return_, 1)) (hQ : Q none T.heap locs) (hc : cells ≤ ck) (hs : slots ≤ sk) : Go p e below s Q ck sk (T.setTop (mkF m pc Ls [])) := by
  obtain ⟨fs, hr, hrun, hended, hW, hsame⟩ := X.leave (v := none) (fun _ => rfl)
  exact ⟨_, _, X.returnOut hx hret hd hr, hrun, hended, _, _, rfl, hQ, ⟨_, rfl⟩, hW, hsame.mono hc hs⟩
/-- what a body leaves that writes nothing -/
def PQ (w : Value) (n0 : Nat) (h0 : Heap) (v : Option Value) (h : Heap) (L : List Loc) : Prop := v = some w ∧ Fr n0 L ∧ h = h0
/-- what the law leaves -/
def LQ (n0 : Nat) (v : Option Value) (h : Heap) (L : List Loc) : Prop := v = some (.int 1) ∧ Fr n0 L
/-- the j-th of a list of ints -/
def bt (bs : List Int32) (j : Int32) : Int32 := bs.getD j.toNatClampNeg 0
theorem own_at {bs : List Int32} {c : Cell} {j : Int32} (H : Has c (bs.map .int) (.int 0)) (hin : ¬ (j < 0 ∨ c.slots.size ≤ j.toNatClampNeg)) : c.slots[j.toNatClampNeg]? = some (.int (bt bs j)) :=
  Has.at H hin (by unfold bt; simp only [List.getD, List.getElem?_map]; cases bs[j.toNatClampNeg]? <;> rfl)
/-- the j-th of a list of longs -/
def bl (bs : List Int64) (j : Int32) : Int64 := bs.getD j.toNatClampNeg 0
theorem own_atL {bs : List Int64} {c : Cell} {j : Int32} (H : Has c (bs.map .long) (.long 0)) (hin : ¬ (j < 0 ∨ c.slots.size ≤ j.toNatClampNeg)) : c.slots[j.toNatClampNeg]? = some (.long (bl bs j)) :=
  Has.at H hin (by unfold bl; simp only [List.getD, List.getElem?_map]; cases bs[j.toNatClampNeg]? <;> rfl)
theorem own_len {t : Term} {a : Addr} {cl : Cell} {n : Int32} (ev : t.eval args s none [] s = some (.ref a)) (ha : s.arrayAt? a = some cl) (h : (Cond.eq (.length t) (.int n)).value args s none s [] = some true) : cl.slots.size < 2 ^ 31 ∧ cl.slots.size.toInt32 = n := by
  by_cases q : cl.slots.size < 2 ^ 31
  · exact ⟨q, gotT (Cond.eq_ints (len_f ev ha q) (Term.int_eval n)) h⟩
  · exfalso
    simp [Cond.value, Term.eval, ev, ha, q] at h
theorem own_size {cl : Cell} {n : Int32} {k : Nat} (q : cl.slots.size < 2 ^ 31 ∧ cl.slots.size.toInt32 = n) (hk : n.toInt = k) : cl.slots.size = k := by
  have h := len_toInt q.1
  rw [q.2, hk] at h
  omega
theorem own_selp {Z : State} {az : Array Value} {y : MethodName} {n : Nat} (hZ : Z.Warmed39 s.vm) (wi : (Cond.instantiable y.cls n).before az Z = true) (wp : (Cond.privateMethod y).before az Z = true) (w : (Cond.instanceMethod y).before az Z = true) (hy : y.cls ≠ "java/lang/invoke/MethodHandle" ∧ y.cls ≠ "java/lang/invoke/VarHandle") : (Cond.selects y.cls y y).before args s = true := by
  obtain ⟨c, k, h1, h2, h3, h4, -⟩ := Cond.instantiable_spec (mvT hZ wi : (Cond.instantiable y.cls n).before args s = true)
  exact selects_self_of_private h1 h2 (Bool.or_eq_false_iff.mp h4).1 (Cond.privateMethod_at (mvP hZ wp (args := #[]))) (mvT hZ w) hy
theorem own_extK {h h' : Heap} (K : Keep h h' []) : Ext h h' := ⟨K.1, fun a c q => K.2.1 a c q (List.not_mem_nil)⟩
theorem own_stak {Z : State} {h h' : Heap} {ws : List Addr} {C n d : String} {v : Value} (K : Keep h h' ws) (hn : ∀ x ∈ ws, ∀ cell : Cell, h[x]? = some cell → cell.vm.isStatics = false) (F : Sta Z h C n d v) : Sta Z h' C n d v := by
  obtain ⟨cf, i, k, f, st, cell, h1, h2, h3, h4, h5, h6, h7⟩ := F
  exact ⟨cf, i, k, f, st, cell, h1, h2, h3, h4, K.2.1 _ _ h5 (fun hm => by have q := hn _ hm _ h5; rw [h6] at q; cases q), h6, h7⟩
end OwnKit

theorem pd_0 : parseMethodDescriptor "(I)C" = some ⟨[.int], some .char⟩ := by decide +kernel
theorem pd_1 : parseMethodDescriptor "([C)V" = some ⟨[(.array .char)], none⟩ := by decide +kernel
theorem pd_2 : parseMethodDescriptor "([CIILjava/lang/Void;)V" = some ⟨[(.array .char), .int, .int, (.object "java/lang/Void")], none⟩ := by decide +kernel
theorem pd_3 : parseMethodDescriptor "()V" = some ⟨[], none⟩ := by decide +kernel
theorem pd_4 : parseMethodDescriptor "(Ljava/lang/String;)Z" = some ⟨[(.object "java/lang/String")], some .boolean⟩ := by decide +kernel
theorem pd_5 : parseMethodDescriptor "()I" = some ⟨[], some .int⟩ := by decide +kernel
theorem pd_6 : parseMethodDescriptor "()B" = some ⟨[], some .byte⟩ := by decide +kernel
theorem pd_7 : parseMethodDescriptor "([CII)[B" = some ⟨[(.array .char), .int, .int], some (.array .byte)⟩ := by decide +kernel
theorem pd_8 : parseMethodDescriptor "([CI[BII)I" = some ⟨[(.array .char), .int, (.array .byte), .int, .int], some .int⟩ := by decide +kernel
theorem pd_9 : parseMethodDescriptor "([BI)B" = some ⟨[(.array .byte), .int], some .byte⟩ := by decide +kernel
theorem pd_10 : parseMethodDescriptor "(CZCCZ)Z" = some ⟨[.char, .boolean, .char, .char, .boolean], some .boolean⟩ := by decide +kernel
theorem pd_11 : parseMethodDescriptor "(C)Z" = some ⟨[.char], some .boolean⟩ := by decide +kernel
theorem pd_12 : parseMethodDescriptor "(Ljava/lang/String;I)Z" = some ⟨[(.object "java/lang/String"), .int], some .boolean⟩ := by decide +kernel
theorem pd_13 : parseMethodDescriptor "()Z" = some ⟨[], some .boolean⟩ := by decide +kernel
theorem pd_14 : parseMethodDescriptor "([BI)C" = some ⟨[(.array .byte), .int], some .char⟩ := by decide +kernel
theorem pd_15 : parseMethodDescriptor "(II)V" = some ⟨[.int, .int], none⟩ := by decide +kernel
theorem pd_16 : parseMethodDescriptor "(IILjava/util/function/BiFunction;)I" = some ⟨[.int, .int, (.object "java/util/function/BiFunction")], some .int⟩ := by decide +kernel
theorem pd_17 : parseMethodDescriptor "(I)[B" = some ⟨[.int], some (.array .byte)⟩ := by decide +kernel
theorem pd_18 : parseMethodDescriptor "(I)I" = some ⟨[.int], some .int⟩ := by decide +kernel
theorem pd_19 : parseMethodDescriptor "([BII)V" = some ⟨[(.array .byte), .int, .int], none⟩ := by decide +kernel
theorem pd_20 : parseMethodDescriptor "(I[B)V" = some ⟨[.int, (.array .byte)], none⟩ := by decide +kernel
theorem pd_21 : parseMethodDescriptor "([B)I" = some ⟨[(.array .byte)], some .int⟩ := by decide +kernel
/-- the two bytes of a char -/
def own_b0 (c : Int32) : Int32 := (((c >>> ((0 : Int32) &&& 31)).toInt8.toInt32).toInt8.toInt32)
def own_b1 (c : Int32) : Int32 := (((c >>> ((8 : Int32) &&& 31)).toInt8.toInt32).toInt8.toInt32)
def own_u16 : List Int32 → List Int32
  | [] => []
  | c :: r => own_b0 c :: own_b1 c :: own_u16 r
def own_lo8 (c : Int32) : Int32 := ((c.toInt8.toInt32).toInt8.toInt32)
def own_l8 (b : Int32) : Int32 := nar .char ((b &&& (255 : Int32)).toUInt32.toUInt16.toUInt32.toInt32)
def own_g16 (b0 b1 : Int32) : Int32 := nar .char (((((b0 &&& (255 : Int32)) <<< ((0 : Int32) &&& 31)) ||| ((b1 &&& (255 : Int32)) <<< ((8 : Int32) &&& 31))).toUInt32.toUInt16.toUInt32.toInt32))
def CSt (Z : State) (h : Heap) (a : Addr) (cs : List Int32) : Prop := Exa Z h a "java/lang/String" ∧ ∃ (cd : Int32) (d : Addr) (k : ClassId) (z : Int32) (xs : List Int32), tF0 Z h a (.int cd) ∧ tF1 Z h a (.ref d) ∧ Arv Z h d k .byte z (xs.map .int) (.int 0) ∧ ((cd = 0 ∧ z.toInt = cs.length ∧ xs = cs.map own_lo8 ∧ ∀ c ∈ cs, 0 ≤ c.toInt ∧ c.toInt ≤ 255) ∨ (cd = 1 ∧ z.toInt = 2 * cs.length ∧ xs = own_u16 cs ∧ ∀ c ∈ cs, 0 ≤ c.toInt ∧ c.toInt ≤ 65535))
theorem CSt.ext {Z : State} {h h' : Heap} {a : Addr} {cs : List Int32} (F : CSt Z h a cs) (E : Ext h h') : CSt Z h' a cs := by
  obtain ⟨e, cd, d, k, z, xs, f1, f2, f3, f4⟩ := F
  exact ⟨e.ext E, cd, d, k, z, xs, f1.ext E, f2.ext E, f3.ext E, f4⟩
theorem own_narc (x : Int32) : nar .char x = x.toUInt32.toUInt16.toUInt32.toInt32 := rfl
theorem own_cc16 {c : Int32} (h : 0 ≤ c.toInt ∧ c.toInt ≤ 65535) : c.toUInt32.toUInt16.toUInt32.toInt32 = c := by
  have q := c_i2c c
  exact Int32.toInt_inj.mp (by omega)
theorem own_rt8 {c : Int32} (h : 0 ≤ c.toInt ∧ c.toInt ≤ 255) : nar .char (own_l8 (own_lo8 c)) = c := by
  unfold own_l8 own_lo8
  rw [own_narc, own_narc]
  have q1 := c_i2b c
  have q2 := c_i2b c.toInt8.toInt32
  have q3 : ((c.toInt8.toInt32).toInt8.toInt32 &&& (255 : Int32)).toInt = (c.toInt8.toInt32).toInt8.toInt32.toInt % 256 := c_mask _ 255 8 (by decide) (by decide)
  have e : ((c.toInt8.toInt32).toInt8.toInt32 &&& (255 : Int32)) = c := Int32.toInt_inj.mp (by omega)
  have k := own_cc16 (c := c) (by omega)
  simp only [e, k]
theorem own_rtg {c : Int32} (h : 0 ≤ c.toInt ∧ c.toInt ≤ 65535) : own_g16 (own_b0 c) (own_b1 c) = c := by
  unfold own_g16 own_b0 own_b1
  rw [own_narc]
  have s0 : (c >>> ((0 : Int32) &&& 31)).toInt = c.toInt / 1 := c_ishr c 0 0 (by decide)
  have s1 : (c >>> ((8 : Int32) &&& 31)).toInt = c.toInt / 256 := c_ishr c 8 8 (by decide)
  generalize (c >>> ((0 : Int32) &&& 31)) = a at *
  generalize (c >>> ((8 : Int32) &&& 31)) = b at *
  have a1 := c_i2b a
  have a2 := c_i2b a.toInt8.toInt32
  have b1 := c_i2b b
  have b2 := c_i2b b.toInt8.toInt32
  have a3 : ((a.toInt8.toInt32).toInt8.toInt32 &&& (255 : Int32)).toInt = (a.toInt8.toInt32).toInt8.toInt32.toInt % 256 := c_mask _ 255 8 (by decide) (by decide)
  have b3 : ((b.toInt8.toInt32).toInt8.toInt32 &&& (255 : Int32)).toInt = (b.toInt8.toInt32).toInt8.toInt32.toInt % 256 := c_mask _ 255 8 (by decide) (by decide)
  generalize ((a.toInt8.toInt32).toInt8.toInt32 &&& (255 : Int32)) = x at *
  generalize ((b.toInt8.toInt32).toInt8.toInt32 &&& (255 : Int32)) = y at *
  have hx : 0 ≤ x.toInt ∧ x.toInt < 256 := by omega
  have hy : 0 ≤ y.toInt ∧ y.toInt < 256 := by omega
  have xs : ((x <<< ((0 : Int32) &&& 31)).toInt - x.toInt * (2 ^ 0 : Nat)) % 4294967296 = 0 := c_ishl x 0 0 (by decide)
  have ys : ((y <<< ((8 : Int32) &&& 31)).toInt - y.toInt * (2 ^ 8 : Nat)) % 4294967296 = 0 := c_ishl y 8 8 (by decide)
  have bx := (x <<< ((0 : Int32) &&& 31)).le_toInt
  have bx' := (x <<< ((0 : Int32) &&& 31)).toInt_lt
  have bY := (y <<< ((8 : Int32) &&& 31)).le_toInt
  have bY' := (y <<< ((8 : Int32) &&& 31)).toInt_lt
  generalize (x <<< ((0 : Int32) &&& 31)) = u at *
  generalize (y <<< ((8 : Int32) &&& 31)) = v at *
  simp only [Int.reducePow, Int.reduceNeg, Nat.reducePow, Int.cast_ofNat_Int] at *
  have hu : u.toInt = x.toInt := by omega
  have hv : v.toInt = y.toInt * 256 := by omega
  have o := c_or' u v 8 (by decide) 256 rfl (by omega) (by omega) (by omega)
  have o1 := (u ||| v).le_toInt
  have o2 := (u ||| v).toInt_lt
  simp only [Int.reducePow, Int.reduceNeg] at o1 o2
  have e : (u ||| v) = c := Int32.toInt_inj.mp (by omega)
  have k := own_cc16 h
  simp only [e, k]
theorem own_rt16 {c : Int32} (h : 0 ≤ c.toInt ∧ c.toInt ≤ 65535) : nar .char (nar .char (own_g16 (own_b0 c) (own_b1 c))) = c := by
  rw [own_rtg h, own_narc, own_narc, own_cc16 h, own_cc16 h]
theorem own_sm {c : Int32} (h : 0 ≤ c.toInt ∧ c.toInt ≤ 65535) (u : ¬ (255 : Int32) < c) : 0 ≤ c.toInt ∧ c.toInt ≤ 255 := by
  rw [Int32.lt_iff_toInt_lt] at u
  simp only [Int32.reduceToInt] at u
  omega
theorem own_nat32 {p : Int32} (h : 0 ≤ p.toInt) : p.toNatClampNeg = p.toInt.toNat := by simp only [Int32.toNatClampNeg]
theorem own_btm {cs : List Int32} {p : Int32} (h : 0 ≤ p.toInt ∧ p.toInt < cs.length) (f : Int32 → Int32) : bt (cs.map f) p = f (bt cs p) := by
  unfold bt
  have hl : p.toNatClampNeg < cs.length := by rw [own_nat32 h.1]; omega
  simp [List.getD_eq_getElem?_getD, List.getElem?_map, List.getElem?_eq_getElem hl]
theorem own_btin {cs : List Int32} {p : Int32} (h : 0 ≤ p.toInt ∧ p.toInt < cs.length) : bt cs p ∈ cs := by
  unfold bt
  have hl : p.toNatClampNeg < cs.length := by rw [own_nat32 h.1]; omega
  simp [List.getD_eq_getElem?_getD, List.getElem?_eq_getElem hl]
theorem own_u16get : ∀ (cs : List Int32) (i : Nat), i < cs.length → (own_u16 cs).getD (2 * i) 0 = own_b0 (cs.getD i 0) ∧ (own_u16 cs).getD (2 * i + 1) 0 = own_b1 (cs.getD i 0)
  | [], i, h => absurd h (Nat.not_lt_zero _)
  | c :: r, 0, _ => ⟨rfl, rfl⟩
  | c :: r, i + 1, h => by
    have q := own_u16get r i (Nat.lt_of_succ_lt_succ h)
    rw [show 2 * (i + 1) = 2 * i + 1 + 1 from by omega]
    exact q
theorem own_ix {p z : Int32} {n : Nat} (h : 0 ≤ p.toInt ∧ p.toInt < n) (hz : z.toInt = 2 * n) : (p <<< ((1 : Int32) &&& 31)).toInt = 2 * p.toInt ∧ ((p <<< ((1 : Int32) &&& 31)) + (1 : Int32)).toInt = 2 * p.toInt + 1 := by
  have q : ((p <<< ((1 : Int32) &&& 31)).toInt - p.toInt * (2 ^ 1 : Nat)) % 4294967296 = 0 := c_ishl p 1 1 (by decide)
  have b1 := (p <<< ((1 : Int32) &&& 31)).le_toInt
  have b2 := (p <<< ((1 : Int32) &&& 31)).toInt_lt
  have a := c_iadd (p <<< ((1 : Int32) &&& 31)) 1
  have b3 := ((p <<< ((1 : Int32) &&& 31)) + (1 : Int32)).le_toInt
  have b4 := ((p <<< ((1 : Int32) &&& 31)) + (1 : Int32)).toInt_lt
  have z2 := z.toInt_lt
  simp only [Int.reducePow, Int.reduceNeg, Nat.reducePow, Int.cast_ofNat_Int, Int32.reduceToInt] at *
  generalize (p <<< ((1 : Int32) &&& 31)).toInt = u at *
  omega
theorem own_inz {w z : Int32} (h : 0 ≤ w.toInt) (q : w.toInt < z.toInt) : ¬ w < 0 ∧ w < z := by
  rw [Int32.lt_iff_toInt_lt, Int32.lt_iff_toInt_lt]; simp only [Int32.reduceToInt]; omega
theorem own_bt0 {cs : List Int32} {p w : Int32} (h : 0 ≤ p.toInt ∧ p.toInt < cs.length) (hw : w.toInt = 2 * p.toInt) : bt (own_u16 cs) w = own_b0 (bt cs p) := by
  unfold bt
  rw [own_nat32 (by omega), own_nat32 h.1, show w.toInt.toNat = 2 * p.toInt.toNat from by omega]
  exact (own_u16get cs _ (by omega)).1
theorem own_bt1 {cs : List Int32} {p w : Int32} (h : 0 ≤ p.toInt ∧ p.toInt < cs.length) (hw : w.toInt = 2 * p.toInt + 1) : bt (own_u16 cs) w = own_b1 (bt cs p) := by
  unfold bt
  rw [own_nat32 (by omega), own_nat32 h.1, show w.toInt.toNat = 2 * p.toInt.toNat + 1 from by omega]
  exact (own_u16get cs _ (by omega)).2
theorem own_len16 {z w : Int32} {n : Nat} (hz : z.toInt = 2 * n) (hw : w.toInt = n) : z >>> ((1 : Int32) &&& 31) = w := by
  have q : (z >>> ((1 : Int32) &&& 31)).toInt = z.toInt / (2 ^ 1 : Nat) := c_ishr z 1 1 (by decide)
  simp only [Nat.reducePow, Int.cast_ofNat_Int] at q
  exact Int32.toInt_inj.mp (by omega)
theorem own_hle {z : Int32} {n : Nat} (hz : z.toInt = 2 * n) : (z >>> ((1 : Int32) &&& 31)).toInt = n := by
  have q : (z >>> ((1 : Int32) &&& 31)).toInt = z.toInt / (2 ^ 1 : Nat) := c_ishr z 1 1 (by decide)
  simp only [Nat.reducePow, Int.cast_ofNat_Int] at q
  omega
theorem own_len8 {z w : Int32} {n : Nat} (hz : z.toInt = n) (hw : w.toInt = n) : z >>> ((0 : Int32) &&& 31) = w := by
  have q : (z >>> ((0 : Int32) &&& 31)).toInt = z.toInt / (2 ^ 0 : Nat) := c_ishr z 0 0 (by decide)
  simp only [Nat.reducePow, Int.cast_ofNat_Int] at q
  exact Int32.toInt_inj.mp (by omega)
theorem d19_0 : decode jdk_41_method_11_code 0 = .ok (.iload_n 0, 1) := by decide +kernel
theorem d19_1 : decode jdk_41_method_11_code 1 = .ok (.ifCond .lt 8, 3) := by decide +kernel
theorem d19_4 : decode jdk_41_method_11_code 4 = .ok (.iload_n 0, 1) := by decide +kernel
theorem d19_5 : decode jdk_41_method_11_code 5 = .ok (.iload_n 1, 1) := by decide +kernel
theorem d19_6 : decode jdk_41_method_11_code 6 = .ok (.if_icmp .lt 10, 3) := by decide +kernel
theorem d19_16 : decode jdk_41_method_11_code 16 = .ok (.iload_n 0, 1) := by decide +kernel
theorem d19_17 : decode jdk_41_method_11_code 17 = .ok (.ireturn, 1) := by decide +kernel
theorem pn_0 : plainName "jdk/internal/util/Preconditions" = true := by first | (simp [plainName, overriddenIn]; done) | decide +kernel
theorem ef_19v (m : MethodId) (p0 : Int32) (p1 : Int32) (v2 : Value) (hr_v2 : v2.isRef = true) : entryFrame m #[(.int p0), (.int p1), v2] 3 = mkF m 0 #[.val (.int p0), .val (.int p1), .val v2] [] := by
  rcases ref_cases hr_v2 with rfl | ⟨_, rfl⟩ <;> (first | (simp [entryFrame, mkF, argsToLocals, Value.category]; done) | rfl)
theorem rmPI (l : Launch) (Z : State) (az : Array Value) (hw : HW az Z) (ws : List Jvm.Cond) (p0 : Int32) (p1 : Int32) (v2 : Value)  (h0 : Heap) (n0 : Nat) (Z0 : n0 ≤ h0.size) (hr_v2 : v2.isRef = true) (h0' : ¬ p0 < (0 : Int32)) (h1' : p0 < p1) :
    MF l mN28 (Jvm.Cond.code mN28 jdk_41_method_11_code 3 (some .int) :: ws) (rO 0 0 0 0) #[(.int p0), (.int p1), v2] Z h0 (PQ (.int p0) n0 h0) := by
  refine MetFree.of_bodySF (plainFor_of_name pn_0) hisR ?_
  intro p e s m args below meth c s₁ Bd hml0 hP hK
  obtain ⟨rfl, hZ, hh⟩ := hP
  have hx := Bd.exec
  have hby := Bd.bytes
  have hlk : meth.locks = false := Bd.notSynchronized
  have hml : c.maxLocals = 3 := hml0
  have hown : s.vm.findClass "jdk/internal/util/Preconditions" = some m.cls := findClass_of_methodNamed Bd.named
  have X0 : Stand p l e (rO 0 0 0 0) s m #[(.int p0), (.int p1), v2] below meth c s₁ [] 0 0 := Stand.of_body Bd
  have e0 : s₁.heap = h0 := by rw [← hh, Bd.state]; rfl
  have N0 := Fr.nil n0
  show Go p e below s ((PQ (.int p0) n0 h0)) (rO 0 0 0 0).cells (rO 0 0 0 0).slots (s₁.setTop (entryFrame m #[(.int p0), (.int p1), v2] 3))
  rw [ef_19v m p0 p1 v2 hr_v2]
  refine Go.st (S' := s₁.setTop (mkF m 17 #[vi p0, vi p1, .val v2] [.int p0])) (fun _ kk => XS.iloadN X0.here hx rfl (hb hby d19_0) rfl (XS.ifNo X0.here hx rfl (hb hby d19_1) rfl ((if0 _ _).trans (flt h0').1) (XS.iloadN X0.here hx rfl (hb hby d19_4) rfl (XS.iloadN X0.here hx rfl (hb hby d19_5) rfl (XS.icmpYes X0.here hx rfl (pc0 := 6) (pc' := 16) rfl (hb hby d19_6) rfl (tlt h1').1 (by decide) (by decide) (XS.iloadN X0.here hx rfl (hb hby d19_16) rfl kk)))))) ?_
  exact Go.retI X0 hx hlk Bd.returns (hb hby d19_17) (⟨rfl, N0, e0⟩) (by decide) (by decide)
def Q_void (h0 : Heap) (n0 : Nat) (v : Option Value) (h : Heap) (L : List Loc) : Prop := v = none ∧ Fr n0 L ∧ h = h0
theorem d18_0 : decode jdk_42_method_155_code 0 = .ok (.iload_n 0, 1) := by decide +kernel
theorem d18_1 : decode jdk_42_method_155_code 1 = .ok (.iload_n 1, 1) := by decide +kernel
theorem d18_2 : decode jdk_42_method_155_code 2 = .ok (.getstatic 1053, 3) := by decide +kernel
theorem d18_5 : decode jdk_42_method_155_code 5 = .ok (.invokestatic 1059, 3) := by decide +kernel
theorem d18_8 : decode jdk_42_method_155_code 8 = .ok (.pop, 1) := by decide +kernel
theorem d18_9 : decode jdk_42_method_155_code 9 = .ok (.return_, 1) := by decide +kernel
theorem pn_1 : plainName "java/lang/String" = true := by first | (simp [plainName, overriddenIn]; done) | decide +kernel
theorem ef_18 (m : MethodId) (p0 : Int32) (p1 : Int32) : entryFrame m #[(.int p0), (.int p1)] 2 = mkF m 0 #[.val (.int p0), .val (.int p1)] [] := by first | (simp [entryFrame, mkF, argsToLocals, Value.category]; done) | rfl
theorem rmSI (l : Launch) (Z : State) (az : Array Value) (hw : HW az Z) (ws : List Jvm.Cond) (p0 : Int32) (p1 : Int32) (zc : Int32) (fm : Value) (h0 : Heap) (n0 : Nat) (Z0 : n0 ≤ h0.size) (S_C : tS0 Z h0 (.int zc)) (hzc : ¬ zc = 0) (S_F : tS1 Z h0 fm) (hfm : fm.isRef = true) (S_A : tS2 Z h0 (.int 1)) (S_H : tS3 Z h0 (.int 0)) (S_L : tS4 Z h0 (.int 8)) (h0' : ¬ p0 < (0 : Int32)) (h1' : p0 < p1) :
    MF l mN12 (Jvm.Cond.code mN12 jdk_42_method_155_code 2 none :: ws) (rO 1 0 0 14) #[(.int p0), (.int p1)] Z h0 (Q_void h0 n0) := by
  refine MetFree.of_bodySF (plainFor_of_name pn_1) hisR ?_
  intro p e s m args below meth c s₁ Bd hml0 hP hK
  obtain ⟨rfl, hZ, hh⟩ := hP
  have hx := Bd.exec
  have hby := Bd.bytes
  have hlk : meth.locks = false := Bd.notSynchronized
  have hml : c.maxLocals = 2 := hml0
  have hown : s.vm.findClass "java/lang/String" = some m.cls := findClass_of_methodNamed Bd.named
  have X0 : Stand p l e (rO 1 0 0 14) s m #[(.int p0), (.int p1)] below meth c s₁ [] 0 0 := Stand.of_body Bd
  have e0 : s₁.heap = h0 := by rw [← hh, Bd.state]; rfl
  have N0 := Fr.nil n0
  show Go p e below s ((Q_void h0 n0)) (rO 1 0 0 14).cells (rO 1 0 0 14).slots (s₁.setTop (entryFrame m #[(.int p0), (.int p1)] 2))
  rw [ef_18 m p0 p1]
  refine Go.st (S' := s₁.setTop (mkF m 2 #[vi p0, vi p1] [.int p1, .int p0])) (fun _ kk => XS.iloadN X0.here hx rfl (hb hby d18_0) rfl (XS.iloadN X0.here hx rfl (hb hby d18_1) rfl kk)) ?_
  obtain ⟨T1, X1, e1, st1⟩ := getS2 X0 hx hZ hown (host := "") (Or.inl (ow hw 83 rfl)) Via.refl e0 S_F (g := (mkF m 2 #[vi p0, vi p1] [.int p1, .int p0])) rfl (hb hby d18_2)
  refine Go.st (S' := T1.setTop (mkF m 5 #[vi p0, vi p1] [fm, .int p1, .int p0])) st1 ?_
  obtain ⟨_, _, ⟨T2, L2, k2, n2⟩, -, X2, ⟨Lc2, hQ2, l2, y2, z2⟩, st2⟩ := Jvm.LawKit.callS X1 hx (y := mN28) hown (mvT hZ (ow hw 85 rfl)) (mvT hZ (ow hw 86 rfl)) (mvT hZ (ow hw 84 rfl)) (mvT hZ (ow hw 87 rfl)) (by decide) (backOf (W := 0) (rmPI l Z az hw [] p0 p1 fm h0 n0 Z0 hfm h0' h1') hZ (ow hw 87 rfl) (ow hw 84 rfl) (by decide) (by decide)) (g := (mkF m 5 #[vi p0, vi p1] [fm, .int p1, .int p0])) rfl (by rw [hml]; rfl) (argsL := [.int p0, .int p1, fm]) (rest := []) (lenOf pd_16 rfl) rfl (oW rfl rfl) (hb hby d18_5) (fun _ _ => ⟨rfl, e1, (by decide : 0 + 0 ≤ _), (by decide : 0 + 0 ≤ _)⟩)
  dsimp only [Pt.U, Pt.locs, Pt.cells, Pt.slots] at X2 l2 y2 z2 st2 hQ2
  subst l2 y2 z2
  obtain ⟨hv2, N2q, e2⟩ := hQ2
  subst hv2
  have N2 := Fr.app N0 N2q
  refine Go.st (S' := T2.setTop (mkF m 9 #[vi p0, vi p1] [])) (fun _ kk => st2 _ (XS.pop X2.here hx rfl (hb hby d18_8) rfl rfl kk)) ?_
  exact Go.ret0 X2 hx hlk Bd.returns (hb hby d18_9) (⟨rfl, N2, e2⟩) (by decide) (by decide)
theorem d17_0 : decode jdk_43_method_2_code 0 = .ok (.iload_n 1, 1) := by decide +kernel
theorem d17_1 : decode jdk_43_method_2_code 1 = .ok (.aload_n 0, 1) := by decide +kernel
theorem d17_2 : decode jdk_43_method_2_code 2 = .ok (.arraylength, 1) := by decide +kernel
theorem d17_3 : decode jdk_43_method_2_code 3 = .ok (.invokestatic 9, 3) := by decide +kernel
theorem d17_6 : decode jdk_43_method_2_code 6 = .ok (.aload_n 0, 1) := by decide +kernel
theorem d17_7 : decode jdk_43_method_2_code 7 = .ok (.iload_n 1, 1) := by decide +kernel
theorem d17_8 : decode jdk_43_method_2_code 8 = .ok (.baload, 1) := by decide +kernel
theorem d17_9 : decode jdk_43_method_2_code 9 = .ok (.sipush 255, 3) := by decide +kernel
theorem d17_12 : decode jdk_43_method_2_code 12 = .ok (.iand, 1) := by decide +kernel
theorem d17_13 : decode jdk_43_method_2_code 13 = .ok (.i2c, 1) := by decide +kernel
theorem d17_14 : decode jdk_43_method_2_code 14 = .ok (.ireturn, 1) := by decide +kernel
theorem pn_2 : plainName "java/lang/StringLatin1" = true := by first | (simp [plainName, overriddenIn]; done) | decide +kernel
theorem ef_17 (m : MethodId) (a0 : Addr) (p1 : Int32) : entryFrame m #[(.ref a0), (.int p1)] 2 = mkF m 0 #[.val (.ref a0), .val (.int p1)] [] := by first | (simp [entryFrame, mkF, argsToLocals, Value.category]; done) | rfl
theorem rmL1 (l : Launch) (Z : State) (az : Array Value) (hw : HW az Z) (ws : List Jvm.Cond) (a0 : Addr) (p1 : Int32) (zc : Int32) (fm : Value) (k0 : ClassId) (z : Int32) (xs : List Int32) (h0 : Heap) (n0 : Nat) (Z0 : n0 ≤ h0.size) (S_C : tS0 Z h0 (.int zc)) (hzc : ¬ zc = 0) (S_F : tS1 Z h0 fm) (hfm : fm.isRef = true) (S_A : tS2 Z h0 (.int 1)) (S_H : tS3 Z h0 (.int 0)) (S_L : tS4 Z h0 (.int 8)) (V_a0 : Arv Z h0 a0 k0 .byte z (xs.map .int) (.int 0)) (hi : ¬ p1 < 0 ∧ p1 < z) :
    MF l mN16 (Jvm.Cond.code mN16 jdk_43_method_2_code 2 (some .char) :: ws) (rO 2 0 0 27) #[(.ref a0), (.int p1)] Z h0 (PQ (.int (own_l8 (bt xs p1))) n0 h0) := by
  refine MetFree.of_bodySF (plainFor_of_name pn_2) hisR ?_
  intro p e s m args below meth c s₁ Bd hml0 hP hK
  obtain ⟨rfl, hZ, hh⟩ := hP
  have hx := Bd.exec
  have hby := Bd.bytes
  have hlk : meth.locks = false := Bd.notSynchronized
  have hml : c.maxLocals = 2 := hml0
  have hown : s.vm.findClass "java/lang/StringLatin1" = some m.cls := findClass_of_methodNamed Bd.named
  have X0 : Stand p l e (rO 2 0 0 27) s m #[(.ref a0), (.int p1)] below meth c s₁ [] 0 0 := Stand.of_body Bd
  have e0 : s₁.heap = h0 := by rw [← hh, Bd.state]; rfl
  have N0 := Fr.nil n0
  show Go p e below s ((PQ (.int (own_l8 (bt xs p1))) n0 h0)) (rO 2 0 0 27).cells (rO 2 0 0 27).slots (s₁.setTop (entryFrame m #[(.ref a0), (.int p1)] 2))
  rw [ef_17 m a0 p1]
  refine Go.st (S' := s₁.setTop (mkF m 2 #[vr a0, vi p1] [.ref a0, .int p1])) (fun _ kk => XS.iloadN X0.here hx rfl (hb hby d17_0) rfl (XS.aloadN X0.here hx rfl (hb hby d17_1) rfl rfl kk)) ?_
  obtain ⟨cl1, Ar1, -, S1, Ng1, -, -⟩ := (id V_a0)
  refine Go.st (S' := s₁.setTop (mkF m 3 #[vr a0, vi p1] [.int z, .int p1])) (fun _ kk => X0.arraylength hx (by rw [e0]; exact Ar1.1) (State.isArrayOf_alike hZ.alike Ar1.2.1) (g := (mkF m 2 #[vr a0, vi p1] [.ref a0, .int p1])) rfl rfl (hb hby d17_2) _ (by rw [len_of S1 Ng1]; exact kk)) ?_
  obtain ⟨_, _, ⟨T2, L2, k2, n2⟩, -, X2, ⟨Lc2, hQ2, l2, y2, z2⟩, st2⟩ := Jvm.LawKit.callS X0 hx (y := mN12) hown (mvT hZ (ow hw 80 rfl)) (mvT hZ (ow hw 81 rfl)) (mvT hZ (ow hw 8 rfl)) (mvT hZ (ow hw 82 rfl)) (by decide) (backOf (W := 0) (rmSI l Z az hw [] p1 z zc fm h0 n0 Z0 S_C hzc S_F hfm S_A S_H S_L hi.1 hi.2) hZ (ow hw 82 rfl) (ow hw 8 rfl) (by decide) (by decide)) (g := (mkF m 3 #[vr a0, vi p1] [.int z, .int p1])) rfl (by rw [hml]; rfl) (argsL := [.int p1, .int z]) (rest := []) (lenOf pd_15 rfl) rfl (oW rfl rfl) (hb hby d17_3) (fun _ _ => ⟨rfl, e0, (by decide : 0 + 0 ≤ _), (by decide : 0 + 0 ≤ _)⟩)
  dsimp only [Pt.U, Pt.locs, Pt.cells, Pt.slots] at X2 l2 y2 z2 st2 hQ2
  subst l2 y2 z2
  obtain ⟨rfl, N2q, e2⟩ := hQ2
  have N2 := Fr.app N0 N2q
  refine Go.st (S' := T2.setTop (mkF m 8 #[vr a0, vi p1] [.int p1, .ref a0])) (fun _ kk => st2 _ (XS.aloadN X2.here hx rfl (hb hby d17_6) rfl rfl (XS.iloadN X2.here hx rfl (hb hby d17_7) rfl kk))) ?_
  obtain ⟨cl3, Ar3, qk3, S3, Ng3, H3, G3⟩ := (id V_a0)
  have hin3 : ¬ (p1 < 0 ∨ cl3.slots.size ≤ (p1).toNatClampNeg) := inb_of S3 hi
  have hat3 : cl3.slots[(p1).toNatClampNeg]? = some (.int (bt xs p1)) := own_at H3 hin3
  refine Go.st (S' := T2.setTop (mkF m 14 #[vr a0, vi p1] [.int (((bt xs p1) &&& (255 : Int32)).toUInt32.toUInt16.toUInt32.toInt32)])) (fun _ kk => X2.baloadBytes hx (j := p1) (v := (.int (bt xs p1))) (by rw [e2]; exact Ar3.1) (State.isArrayOf_alike hZ.alike Ar3.2.1) Ar3.2.2 hin3 hat3 (g := (mkF m 8 #[vr a0, vi p1] [.int p1, .ref a0])) rfl rfl (hb hby d17_8) _ (XS.sipush X2.here hx rfl (hb hby d17_9) (XS.iand X2.here hx rfl (hb hby d17_12) rfl (XS.i2c X2.here hx rfl (hb hby d17_13) rfl kk)))) ?_
  exact Go.retN X2 hx hlk (t := .char) Bd.returns (by simp) (hb hby d17_14) (⟨rfl, N2, e2⟩) (by decide) (by decide)
theorem d29_0 : decode jdk_52_method_6_code 0 = .ok (.aload_n 0, 1) := by decide +kernel
theorem d29_1 : decode jdk_52_method_6_code 1 = .ok (.arraylength, 1) := by decide +kernel
theorem d29_2 : decode jdk_52_method_6_code 2 = .ok (.iconst 1, 1) := by decide +kernel
theorem d29_3 : decode jdk_52_method_6_code 3 = .ok (.ishr, 1) := by decide +kernel
theorem d29_4 : decode jdk_52_method_6_code 4 = .ok (.ireturn, 1) := by decide +kernel
theorem pn_3 : plainName "java/lang/StringUTF16" = true := by first | (simp [plainName, overriddenIn]; done) | decide +kernel
theorem ef_29 (m : MethodId) (a0 : Addr) : entryFrame m #[(.ref a0)] 1 = mkF m 0 #[.val (.ref a0)] [] := by first | (simp [entryFrame, mkF, argsToLocals, Value.category]; done) | rfl
theorem rmUl (l : Launch) (Z : State) (az : Array Value) (hw : HW az Z) (ws : List Jvm.Cond) (a0 : Addr) (k0 : ClassId) (z : Int32) (xs : List Int32) (h0 : Heap) (n0 : Nat) (Z0 : n0 ≤ h0.size) (V_a0 : Arv Z h0 a0 k0 .byte z (xs.map .int) (.int 0)) :
    MF l mN23 (Jvm.Cond.code mN23 jdk_52_method_6_code 1 (some .int) :: ws) (rO 0 0 0 0) #[(.ref a0)] Z h0 (PQ (.int (z >>> ((1 : Int32) &&& 31))) n0 h0) := by
  refine MetFree.of_bodySF (plainFor_of_name pn_3) hisR ?_
  intro p e s m args below meth c s₁ Bd hml0 hP hK
  obtain ⟨rfl, hZ, hh⟩ := hP
  have hx := Bd.exec
  have hby := Bd.bytes
  have hlk : meth.locks = false := Bd.notSynchronized
  have hml : c.maxLocals = 1 := hml0
  have hown : s.vm.findClass "java/lang/StringUTF16" = some m.cls := findClass_of_methodNamed Bd.named
  have X0 : Stand p l e (rO 0 0 0 0) s m #[(.ref a0)] below meth c s₁ [] 0 0 := Stand.of_body Bd
  have e0 : s₁.heap = h0 := by rw [← hh, Bd.state]; rfl
  have N0 := Fr.nil n0
  show Go p e below s ((PQ (.int (z >>> ((1 : Int32) &&& 31))) n0 h0)) (rO 0 0 0 0).cells (rO 0 0 0 0).slots (s₁.setTop (entryFrame m #[(.ref a0)] 1))
  rw [ef_29 m a0]
  refine Go.st (S' := s₁.setTop (mkF m 1 #[vr a0] [.ref a0])) (fun _ kk => XS.aloadN X0.here hx rfl (hb hby d29_0) rfl rfl kk) ?_
  obtain ⟨cl1, Ar1, -, S1, Ng1, -, -⟩ := (id V_a0)
  refine Go.st (S' := s₁.setTop (mkF m 2 #[vr a0] [.int z])) (fun _ kk => X0.arraylength hx (by rw [e0]; exact Ar1.1) (State.isArrayOf_alike hZ.alike Ar1.2.1) (g := (mkF m 1 #[vr a0] [.ref a0])) rfl rfl (hb hby d29_1) _ (by rw [len_of S1 Ng1]; exact kk)) ?_
  refine Go.st (S' := s₁.setTop (mkF m 4 #[vr a0] [.int (z >>> ((1 : Int32) &&& 31))])) (fun _ kk => XS.iconst X0.here hx rfl (hb hby d29_2) (XS.ishr X0.here hx rfl (hb hby d29_3) rfl kk)) ?_
  exact Go.retI X0 hx hlk Bd.returns (hb hby d29_4) (⟨rfl, N0, e0⟩) (by decide) (by decide)
theorem d28_0 : decode jdk_52_method_91_code 0 = .ok (.iload_n 0, 1) := by decide +kernel
theorem d28_1 : decode jdk_52_method_91_code 1 = .ok (.aload_n 1, 1) := by decide +kernel
theorem d28_2 : decode jdk_52_method_91_code 2 = .ok (.invokestatic 48, 3) := by decide +kernel
theorem d28_5 : decode jdk_52_method_91_code 5 = .ok (.invokestatic 414, 3) := by decide +kernel
theorem d28_8 : decode jdk_52_method_91_code 8 = .ok (.return_, 1) := by decide +kernel
theorem ef_28 (m : MethodId) (p0 : Int32) (a0 : Addr) : entryFrame m #[(.int p0), (.ref a0)] 2 = mkF m 0 #[.val (.int p0), .val (.ref a0)] [] := by first | (simp [entryFrame, mkF, argsToLocals, Value.category]; done) | rfl
theorem rmUc (l : Launch) (Z : State) (az : Array Value) (hw : HW az Z) (ws : List Jvm.Cond) (p0 : Int32) (a0 : Addr) (zc : Int32) (fm : Value) (k0 : ClassId) (z : Int32) (xs : List Int32) (h0 : Heap) (n0 : Nat) (Z0 : n0 ≤ h0.size) (S_C : tS0 Z h0 (.int zc)) (hzc : ¬ zc = 0) (S_F : tS1 Z h0 fm) (hfm : fm.isRef = true) (S_A : tS2 Z h0 (.int 1)) (S_H : tS3 Z h0 (.int 0)) (S_L : tS4 Z h0 (.int 8)) (V_a0 : Arv Z h0 a0 k0 .byte z (xs.map .int) (.int 0)) (hi : ¬ p0 < 0 ∧ p0 < (z >>> ((1 : Int32) &&& 31))) :
    MF l mN18 (Jvm.Cond.code mN18 jdk_52_method_91_code 2 none :: ws) (rO 2 0 0 27) #[(.int p0), (.ref a0)] Z h0 (Q_void h0 n0) := by
  refine MetFree.of_bodySF (plainFor_of_name pn_3) hisR ?_
  intro p e s m args below meth c s₁ Bd hml0 hP hK
  obtain ⟨rfl, hZ, hh⟩ := hP
  have hx := Bd.exec
  have hby := Bd.bytes
  have hlk : meth.locks = false := Bd.notSynchronized
  have hml : c.maxLocals = 2 := hml0
  have hown : s.vm.findClass "java/lang/StringUTF16" = some m.cls := findClass_of_methodNamed Bd.named
  have X0 : Stand p l e (rO 2 0 0 27) s m #[(.int p0), (.ref a0)] below meth c s₁ [] 0 0 := Stand.of_body Bd
  have e0 : s₁.heap = h0 := by rw [← hh, Bd.state]; rfl
  have N0 := Fr.nil n0
  show Go p e below s ((Q_void h0 n0)) (rO 2 0 0 27).cells (rO 2 0 0 27).slots (s₁.setTop (entryFrame m #[(.int p0), (.ref a0)] 2))
  rw [ef_28 m p0 a0]
  refine Go.st (S' := s₁.setTop (mkF m 2 #[vi p0, vr a0] [.ref a0, .int p0])) (fun _ kk => XS.iloadN X0.here hx rfl (hb hby d28_0) rfl (XS.aloadN X0.here hx rfl (hb hby d28_1) rfl rfl kk)) ?_
  obtain ⟨_, _, ⟨T1, L1, k1, n1⟩, -, X1, ⟨Lc1, hQ1, l1, y1, z1⟩, st1⟩ := Jvm.LawKit.callS X0 hx (y := mN23) hown (mvT hZ (ow hw 123 rfl)) (mvT hZ (ow hw 124 rfl)) (mvT hZ (ow hw 44 rfl)) (mvT hZ (ow hw 125 rfl)) (by decide) (backOf (W := 1) (rmUl l Z az hw [] a0 k0 z xs h0 n0 Z0 V_a0) hZ (ow hw 125 rfl) (ow hw 44 rfl) (by decide) (by decide)) (g := (mkF m 2 #[vi p0, vr a0] [.ref a0, .int p0])) rfl (by rw [hml]; rfl) (argsL := [.ref a0]) (rest := [.int p0]) (lenOf pd_21 rfl) rfl (oW rfl rfl) (hb hby d28_2) (fun _ _ => ⟨rfl, e0, (by decide : 0 + 0 ≤ _), (by decide : 0 + 0 ≤ _)⟩)
  dsimp only [Pt.U, Pt.locs, Pt.cells, Pt.slots] at X1 l1 y1 z1 st1 hQ1
  subst l1 y1 z1
  obtain ⟨hv1, N1q, e1⟩ := hQ1
  subst hv1
  have N1 := Fr.app N0 N1q
  refine Go.st (S' := T1.setTop (mkF m 5 #[vi p0, vr a0] [.int (z >>> ((1 : Int32) &&& 31)), .int p0])) st1 ?_
  obtain ⟨_, _, ⟨T2, L2, k2, n2⟩, -, X2, ⟨Lc2, hQ2, l2, y2, z2⟩, st2⟩ := Jvm.LawKit.callS X1 hx (y := mN12) hown (mvT hZ (ow hw 126 rfl)) (mvT hZ (ow hw 81 rfl)) (mvT hZ (ow hw 8 rfl)) (mvT hZ (ow hw 82 rfl)) (by decide) (backOf (W := 0) (rmSI l Z az hw [] p0 (z >>> ((1 : Int32) &&& 31)) zc fm h0 n0 Z0 S_C hzc S_F hfm S_A S_H S_L hi.1 hi.2) hZ (ow hw 82 rfl) (ow hw 8 rfl) (by decide) (by decide)) (g := (mkF m 5 #[vi p0, vr a0] [.int (z >>> ((1 : Int32) &&& 31)), .int p0])) rfl (by rw [hml]; rfl) (argsL := [.int p0, .int (z >>> ((1 : Int32) &&& 31))]) (rest := []) (lenOf pd_15 rfl) rfl (oW rfl rfl) (hb hby d28_5) (fun _ _ => ⟨rfl, e1, (by decide : 0 + 0 ≤ _), (by decide : 0 + 0 ≤ _)⟩)
  dsimp only [Pt.U, Pt.locs, Pt.cells, Pt.slots] at X2 l2 y2 z2 st2 hQ2
  subst l2 y2 z2
  obtain ⟨rfl, N2q, e2⟩ := hQ2
  have N2 := Fr.app N1 N2q
  refine Go.st (S' := T2.setTop (mkF m 8 #[vi p0, vr a0] [])) st2 ?_
  exact Go.ret0 X2 hx hlk Bd.returns (hb hby d28_8) (⟨rfl, N2, e2⟩) (by decide) (by decide)
theorem d26_0 : decode jdk_52_method_5_code 0 = .ok (.getstatic 44, 3) := by decide +kernel
theorem d26_3 : decode jdk_52_method_5_code 3 = .ok (.ifCond .ne 25, 3) := by decide +kernel
theorem d26_28 : decode jdk_52_method_5_code 28 = .ok (.iload_n 1, 1) := by decide +kernel
theorem d26_29 : decode jdk_52_method_5_code 29 = .ok (.iconst 1, 1) := by decide +kernel
theorem d26_30 : decode jdk_52_method_5_code 30 = .ok (.ishl, 1) := by decide +kernel
theorem d26_31 : decode jdk_52_method_5_code 31 = .ok (.istore_n 1, 1) := by decide +kernel
theorem d26_32 : decode jdk_52_method_5_code 32 = .ok (.aload_n 0, 1) := by decide +kernel
theorem d26_33 : decode jdk_52_method_5_code 33 = .ok (.iload_n 1, 1) := by decide +kernel
theorem d26_34 : decode jdk_52_method_5_code 34 = .ok (.iinc 1 1, 3) := by decide +kernel
theorem d26_37 : decode jdk_52_method_5_code 37 = .ok (.baload, 1) := by decide +kernel
theorem d26_38 : decode jdk_52_method_5_code 38 = .ok (.sipush 255, 3) := by decide +kernel
theorem d26_41 : decode jdk_52_method_5_code 41 = .ok (.iand, 1) := by decide +kernel
theorem d26_42 : decode jdk_52_method_5_code 42 = .ok (.getstatic 59, 3) := by decide +kernel
theorem d26_45 : decode jdk_52_method_5_code 45 = .ok (.ishl, 1) := by decide +kernel
theorem d26_46 : decode jdk_52_method_5_code 46 = .ok (.aload_n 0, 1) := by decide +kernel
theorem d26_47 : decode jdk_52_method_5_code 47 = .ok (.iload_n 1, 1) := by decide +kernel
theorem d26_48 : decode jdk_52_method_5_code 48 = .ok (.baload, 1) := by decide +kernel
theorem d26_49 : decode jdk_52_method_5_code 49 = .ok (.sipush 255, 3) := by decide +kernel
theorem d26_52 : decode jdk_52_method_5_code 52 = .ok (.iand, 1) := by decide +kernel
theorem d26_53 : decode jdk_52_method_5_code 53 = .ok (.getstatic 63, 3) := by decide +kernel
theorem d26_56 : decode jdk_52_method_5_code 56 = .ok (.ishl, 1) := by decide +kernel
theorem d26_57 : decode jdk_52_method_5_code 57 = .ok (.ior, 1) := by decide +kernel
theorem d26_58 : decode jdk_52_method_5_code 58 = .ok (.i2c, 1) := by decide +kernel
theorem d26_59 : decode jdk_52_method_5_code 59 = .ok (.ireturn, 1) := by decide +kernel
theorem ef_26 (m : MethodId) (a0 : Addr) (p1 : Int32) : entryFrame m #[(.ref a0), (.int p1)] 2 = mkF m 0 #[.val (.ref a0), .val (.int p1)] [] := by first | (simp [entryFrame, mkF, argsToLocals, Value.category]; done) | rfl
theorem rmUg (l : Launch) (Z : State) (az : Array Value) (hw : HW az Z) (ws : List Jvm.Cond) (a0 : Addr) (p1 : Int32) (zc : Int32) (fm : Value) (k0 : ClassId) (z : Int32) (xs : List Int32) (h0 : Heap) (n0 : Nat) (Z0 : n0 ≤ h0.size) (S_C : tS0 Z h0 (.int zc)) (hzc : ¬ zc = 0) (S_F : tS1 Z h0 fm) (hfm : fm.isRef = true) (S_A : tS2 Z h0 (.int 1)) (S_H : tS3 Z h0 (.int 0)) (S_L : tS4 Z h0 (.int 8)) (V_a0 : Arv Z h0 a0 k0 .byte z (xs.map .int) (.int 0)) (hi0 : ¬ (p1 <<< ((1 : Int32) &&& 31)) < 0 ∧ (p1 <<< ((1 : Int32) &&& 31)) < z) (hi1 : ¬ ((p1 <<< ((1 : Int32) &&& 31)) + (1 : Int32)) < 0 ∧ ((p1 <<< ((1 : Int32) &&& 31)) + (1 : Int32)) < z) :
    MF l mN22 (Jvm.Cond.code mN22 jdk_52_method_5_code 2 (some .char) :: ws) (rO 0 0 0 0) #[(.ref a0), (.int p1)] Z h0 (PQ (.int (own_g16 (bt xs (p1 <<< ((1 : Int32) &&& 31))) (bt xs ((p1 <<< ((1 : Int32) &&& 31)) + (1 : Int32))))) n0 h0) := by
  refine MetFree.of_bodySF (plainFor_of_name pn_3) hisR ?_
  intro p e s m args below meth c s₁ Bd hml0 hP hK
  obtain ⟨rfl, hZ, hh⟩ := hP
  have hx := Bd.exec
  have hby := Bd.bytes
  have hlk : meth.locks = false := Bd.notSynchronized
  have hml : c.maxLocals = 2 := hml0
  have hown : s.vm.findClass "java/lang/StringUTF16" = some m.cls := findClass_of_methodNamed Bd.named
  have X0 : Stand p l e (rO 0 0 0 0) s m #[(.ref a0), (.int p1)] below meth c s₁ [] 0 0 := Stand.of_body Bd
  have e0 : s₁.heap = h0 := by rw [← hh, Bd.state]; rfl
  have N0 := Fr.nil n0
  show Go p e below s ((PQ (.int (own_g16 (bt xs (p1 <<< ((1 : Int32) &&& 31))) (bt xs ((p1 <<< ((1 : Int32) &&& 31)) + (1 : Int32))))) n0 h0)) (rO 0 0 0 0).cells (rO 0 0 0 0).slots (s₁.setTop (entryFrame m #[(.ref a0), (.int p1)] 2))
  rw [ef_26 m a0 p1]
  obtain ⟨T1, X1, e1, st1⟩ := getS2 X0 hx hZ hown (host := "") (Or.inl (ow hw 109 rfl)) Via.refl e0 S_A (g := (mkF m 0 #[vr a0, vi p1] [])) rfl (hb hby d26_0)
  refine Go.st (S' := T1.setTop (mkF m 37 #[vr a0, vi ((p1 <<< ((1 : Int32) &&& 31)) + (1 : Int32))] [.int (p1 <<< ((1 : Int32) &&& 31)), .ref a0])) (fun _ kk => st1 _ (XS.ifYes X1.here hx rfl (pc0 := 3) (pc' := 28) rfl (hb hby d26_3) rfl ((if0 _ _).trans (feq (by decide : ¬ ((1 : Int32) = (0 : Int32)))).2) (by decide) (by decide) (XS.iloadN X1.here hx rfl (hb hby d26_28) rfl (XS.iconst X1.here hx rfl (hb hby d26_29) (XS.ishl X1.here hx rfl (hb hby d26_30) rfl (XS.istoreN X1.here hx rfl (hb hby d26_31) rfl (l' := #[vr a0, vi (p1 <<< ((1 : Int32) &&& 31))]) rfl (XS.aloadN X1.here hx rfl (hb hby d26_32) rfl rfl (XS.iloadN X1.here hx rfl (hb hby d26_33) rfl (XS.iinc X1.here hx rfl (hb hby d26_34) rfl (l' := #[vr a0, vi ((p1 <<< ((1 : Int32) &&& 31)) + (1 : Int32))]) rfl kk))))))))) ?_
  obtain ⟨cl2, Ar2, qk2, S2, Ng2, H2, G2⟩ := (id V_a0)
  have hin2 : ¬ ((p1 <<< ((1 : Int32) &&& 31)) < 0 ∨ cl2.slots.size ≤ ((p1 <<< ((1 : Int32) &&& 31))).toNatClampNeg) := inb_of S2 hi0
  have hat2 : cl2.slots[((p1 <<< ((1 : Int32) &&& 31))).toNatClampNeg]? = some (.int (bt xs (p1 <<< ((1 : Int32) &&& 31)))) := own_at H2 hin2
  refine Go.st (S' := T1.setTop (mkF m 42 #[vr a0, vi ((p1 <<< ((1 : Int32) &&& 31)) + (1 : Int32))] [.int ((bt xs (p1 <<< ((1 : Int32) &&& 31))) &&& (255 : Int32))])) (fun _ kk => X1.baloadBytes hx (j := (p1 <<< ((1 : Int32) &&& 31))) (v := (.int (bt xs (p1 <<< ((1 : Int32) &&& 31))))) (by rw [e1]; exact Ar2.1) (State.isArrayOf_alike hZ.alike Ar2.2.1) Ar2.2.2 hin2 hat2 (g := (mkF m 37 #[vr a0, vi ((p1 <<< ((1 : Int32) &&& 31)) + (1 : Int32))] [.int (p1 <<< ((1 : Int32) &&& 31)), .ref a0])) rfl rfl (hb hby d26_37) _ (XS.sipush X1.here hx rfl (hb hby d26_38) (XS.iand X1.here hx rfl (hb hby d26_41) rfl kk))) ?_
  obtain ⟨T3, X3, e3, st3⟩ := getS2 X1 hx hZ hown (host := "") (Or.inl (ow hw 110 rfl)) Via.refl e1 S_H (g := (mkF m 42 #[vr a0, vi ((p1 <<< ((1 : Int32) &&& 31)) + (1 : Int32))] [.int ((bt xs (p1 <<< ((1 : Int32) &&& 31))) &&& (255 : Int32))])) rfl (hb hby d26_42)
  refine Go.st (S' := T3.setTop (mkF m 48 #[vr a0, vi ((p1 <<< ((1 : Int32) &&& 31)) + (1 : Int32))] [.int ((p1 <<< ((1 : Int32) &&& 31)) + (1 : Int32)), .ref a0, .int (((bt xs (p1 <<< ((1 : Int32) &&& 31))) &&& (255 : Int32)) <<< ((0 : Int32) &&& 31))])) (fun _ kk => st3 _ (XS.ishl X3.here hx rfl (hb hby d26_45) rfl (XS.aloadN X3.here hx rfl (hb hby d26_46) rfl rfl (XS.iloadN X3.here hx rfl (hb hby d26_47) rfl kk)))) ?_
  obtain ⟨cl4, Ar4, qk4, S4, Ng4, H4, G4⟩ := (id V_a0)
  have hin4 : ¬ (((p1 <<< ((1 : Int32) &&& 31)) + (1 : Int32)) < 0 ∨ cl4.slots.size ≤ (((p1 <<< ((1 : Int32) &&& 31)) + (1 : Int32))).toNatClampNeg) := inb_of S4 hi1
  have hat4 : cl4.slots[(((p1 <<< ((1 : Int32) &&& 31)) + (1 : Int32))).toNatClampNeg]? = some (.int (bt xs ((p1 <<< ((1 : Int32) &&& 31)) + (1 : Int32)))) := own_at H4 hin4
  refine Go.st (S' := T3.setTop (mkF m 53 #[vr a0, vi ((p1 <<< ((1 : Int32) &&& 31)) + (1 : Int32))] [.int ((bt xs ((p1 <<< ((1 : Int32) &&& 31)) + (1 : Int32))) &&& (255 : Int32)), .int (((bt xs (p1 <<< ((1 : Int32) &&& 31))) &&& (255 : Int32)) <<< ((0 : Int32) &&& 31))])) (fun _ kk => X3.baloadBytes hx (j := ((p1 <<< ((1 : Int32) &&& 31)) + (1 : Int32))) (v := (.int (bt xs ((p1 <<< ((1 : Int32) &&& 31)) + (1 : Int32))))) (by rw [e3]; exact Ar4.1) (State.isArrayOf_alike hZ.alike Ar4.2.1) Ar4.2.2 hin4 hat4 (g := (mkF m 48 #[vr a0, vi ((p1 <<< ((1 : Int32) &&& 31)) + (1 : Int32))] [.int ((p1 <<< ((1 : Int32) &&& 31)) + (1 : Int32)), .ref a0, .int (((bt xs (p1 <<< ((1 : Int32) &&& 31))) &&& (255 : Int32)) <<< ((0 : Int32) &&& 31))])) rfl rfl (hb hby d26_48) _ (XS.sipush X3.here hx rfl (hb hby d26_49) (XS.iand X3.here hx rfl (hb hby d26_52) rfl kk))) ?_
  obtain ⟨T5, X5, e5, st5⟩ := getS2 X3 hx hZ hown (host := "") (Or.inl (ow hw 111 rfl)) Via.refl e3 S_L (g := (mkF m 53 #[vr a0, vi ((p1 <<< ((1 : Int32) &&& 31)) + (1 : Int32))] [.int ((bt xs ((p1 <<< ((1 : Int32) &&& 31)) + (1 : Int32))) &&& (255 : Int32)), .int (((bt xs (p1 <<< ((1 : Int32) &&& 31))) &&& (255 : Int32)) <<< ((0 : Int32) &&& 31))])) rfl (hb hby d26_53)
  refine Go.st (S' := T5.setTop (mkF m 59 #[vr a0, vi ((p1 <<< ((1 : Int32) &&& 31)) + (1 : Int32))] [.int (((((bt xs (p1 <<< ((1 : Int32) &&& 31))) &&& (255 : Int32)) <<< ((0 : Int32) &&& 31)) ||| (((bt xs ((p1 <<< ((1 : Int32) &&& 31)) + (1 : Int32))) &&& (255 : Int32)) <<< ((8 : Int32) &&& 31))).toUInt32.toUInt16.toUInt32.toInt32)])) (fun _ kk => st5 _ (XS.ishl X5.here hx rfl (hb hby d26_56) rfl (XS.ior X5.here hx rfl (hb hby d26_57) rfl (XS.i2c X5.here hx rfl (hb hby d26_58) rfl kk)))) ?_
  exact Go.retN X5 hx hlk (t := .char) Bd.returns (by simp) (hb hby d26_59) (⟨rfl, N0, e5⟩) (by decide) (by decide)
theorem d27_0 : decode jdk_52_method_83_code 0 = .ok (.iload_n 1, 1) := by decide +kernel
theorem d27_1 : decode jdk_52_method_83_code 1 = .ok (.aload_n 0, 1) := by decide +kernel
theorem d27_2 : decode jdk_52_method_83_code 2 = .ok (.invokestatic 67, 3) := by decide +kernel
theorem d27_5 : decode jdk_52_method_83_code 5 = .ok (.aload_n 0, 1) := by decide +kernel
theorem d27_6 : decode jdk_52_method_83_code 6 = .ok (.iload_n 1, 1) := by decide +kernel
theorem d27_7 : decode jdk_52_method_83_code 7 = .ok (.invokestatic 71, 3) := by decide +kernel
theorem d27_10 : decode jdk_52_method_83_code 10 = .ok (.ireturn, 1) := by decide +kernel
theorem ef_27 (m : MethodId) (a0 : Addr) (p1 : Int32) : entryFrame m #[(.ref a0), (.int p1)] 2 = mkF m 0 #[.val (.ref a0), .val (.int p1)] [] := by first | (simp [entryFrame, mkF, argsToLocals, Value.category]; done) | rfl
theorem rmUa (l : Launch) (Z : State) (az : Array Value) (hw : HW az Z) (ws : List Jvm.Cond) (a0 : Addr) (p1 : Int32) (zc : Int32) (fm : Value) (k0 : ClassId) (z : Int32) (xs : List Int32) (h0 : Heap) (n0 : Nat) (Z0 : n0 ≤ h0.size) (S_C : tS0 Z h0 (.int zc)) (hzc : ¬ zc = 0) (S_F : tS1 Z h0 fm) (hfm : fm.isRef = true) (S_A : tS2 Z h0 (.int 1)) (S_H : tS3 Z h0 (.int 0)) (S_L : tS4 Z h0 (.int 8)) (V_a0 : Arv Z h0 a0 k0 .byte z (xs.map .int) (.int 0)) (hix : ¬ p1 < 0 ∧ p1 < (z >>> ((1 : Int32) &&& 31))) (hix0 : ¬ (p1 <<< ((1 : Int32) &&& 31)) < 0 ∧ (p1 <<< ((1 : Int32) &&& 31)) < z) (hix1 : ¬ ((p1 <<< ((1 : Int32) &&& 31)) + (1 : Int32)) < 0 ∧ ((p1 <<< ((1 : Int32) &&& 31)) + (1 : Int32)) < z) :
    MF l mN17 (Jvm.Cond.code mN17 jdk_52_method_83_code 2 (some .char) :: ws) (rO 3 0 0 40) #[(.ref a0), (.int p1)] Z h0 (PQ (.int (nar .char (own_g16 (bt xs (p1 <<< ((1 : Int32) &&& 31))) (bt xs ((p1 <<< ((1 : Int32) &&& 31)) + (1 : Int32)))))) n0 h0) := by
  refine MetFree.of_bodySF (plainFor_of_name pn_3) hisR ?_
  intro p e s m args below meth c s₁ Bd hml0 hP hK
  obtain ⟨rfl, hZ, hh⟩ := hP
  have hx := Bd.exec
  have hby := Bd.bytes
  have hlk : meth.locks = false := Bd.notSynchronized
  have hml : c.maxLocals = 2 := hml0
  have hown : s.vm.findClass "java/lang/StringUTF16" = some m.cls := findClass_of_methodNamed Bd.named
  have X0 : Stand p l e (rO 3 0 0 40) s m #[(.ref a0), (.int p1)] below meth c s₁ [] 0 0 := Stand.of_body Bd
  have e0 : s₁.heap = h0 := by rw [← hh, Bd.state]; rfl
  have N0 := Fr.nil n0
  show Go p e below s ((PQ (.int (nar .char (own_g16 (bt xs (p1 <<< ((1 : Int32) &&& 31))) (bt xs ((p1 <<< ((1 : Int32) &&& 31)) + (1 : Int32)))))) n0 h0)) (rO 3 0 0 40).cells (rO 3 0 0 40).slots (s₁.setTop (entryFrame m #[(.ref a0), (.int p1)] 2))
  rw [ef_27 m a0 p1]
  refine Go.st (S' := s₁.setTop (mkF m 2 #[vr a0, vi p1] [.ref a0, .int p1])) (fun _ kk => XS.iloadN X0.here hx rfl (hb hby d27_0) rfl (XS.aloadN X0.here hx rfl (hb hby d27_1) rfl rfl kk)) ?_
  obtain ⟨_, _, ⟨T1, L1, k1, n1⟩, -, X1, ⟨Lc1, hQ1, l1, y1, z1⟩, st1⟩ := Jvm.LawKit.callS X0 hx (y := mN18) hown (mvT hZ (ow hw 120 rfl)) (mvT hZ (ow hw 121 rfl)) (mvT hZ (ow hw 44 rfl)) (mvT hZ (ow hw 122 rfl)) (by decide) (backOf (W := 0) (rmUc l Z az hw [] p1 a0 zc fm k0 z xs h0 n0 Z0 S_C hzc S_F hfm S_A S_H S_L V_a0 hix) hZ (ow hw 122 rfl) (ow hw 44 rfl) (by decide) (by decide)) (g := (mkF m 2 #[vr a0, vi p1] [.ref a0, .int p1])) rfl (by rw [hml]; rfl) (argsL := [.int p1, .ref a0]) (rest := []) (lenOf pd_20 rfl) rfl (oW rfl rfl) (hb hby d27_2) (fun _ _ => ⟨rfl, e0, (by decide : 0 + 0 ≤ _), (by decide : 0 + 0 ≤ _)⟩)
  dsimp only [Pt.U, Pt.locs, Pt.cells, Pt.slots] at X1 l1 y1 z1 st1 hQ1
  subst l1 y1 z1
  obtain ⟨rfl, N1q, e1⟩ := hQ1
  have N1 := Fr.app N0 N1q
  refine Go.st (S' := T1.setTop (mkF m 7 #[vr a0, vi p1] [.int p1, .ref a0])) (fun _ kk => st1 _ (XS.aloadN X1.here hx rfl (hb hby d27_5) rfl rfl (XS.iloadN X1.here hx rfl (hb hby d27_6) rfl kk))) ?_
  obtain ⟨_, _, ⟨T2, L2, k2, n2⟩, -, X2, ⟨Lc2, hQ2, l2, y2, z2⟩, st2⟩ := Jvm.LawKit.callS X1 hx (y := mN22) hown (mvT hZ (ow hw 112 rfl)) (mvT hZ (ow hw 113 rfl)) (mvT hZ (ow hw 44 rfl)) (mvT hZ (ow hw 114 rfl)) (by decide) (backOf (W := 0) (rmUg l Z az hw [] a0 p1 zc fm k0 z xs h0 n0 Z0 S_C hzc S_F hfm S_A S_H S_L V_a0 hix0 hix1) hZ (ow hw 114 rfl) (ow hw 44 rfl) (by decide) (by decide)) (g := (mkF m 7 #[vr a0, vi p1] [.int p1, .ref a0])) rfl (by rw [hml]; rfl) (argsL := [.ref a0, .int p1]) (rest := []) (lenOf pd_14 rfl) rfl (oW rfl rfl) (hb hby d27_7) (fun _ _ => ⟨rfl, e1, (by decide : 0 + 0 ≤ _), (by decide : 0 + 0 ≤ _)⟩)
  dsimp only [Pt.U, Pt.locs, Pt.cells, Pt.slots] at X2 l2 y2 z2 st2 hQ2
  subst l2 y2 z2
  obtain ⟨hv2, N2q, e2⟩ := hQ2
  subst hv2
  have N2 := Fr.app N1 N2q
  refine Go.st (S' := T2.setTop (mkF m 10 #[vr a0, vi p1] [.int (own_g16 (bt xs (p1 <<< ((1 : Int32) &&& 31))) (bt xs ((p1 <<< ((1 : Int32) &&& 31)) + (1 : Int32))))])) st2 ?_
  exact Go.retN X2 hx hlk (t := .char) Bd.returns (by simp) (hb hby d27_10) (⟨rfl, N2, e2⟩) (by decide) (by decide)
theorem d16_0 : decode jdk_42_method_154_code 0 = .ok (.getstatic 38, 3) := by decide +kernel
theorem d16_3 : decode jdk_42_method_154_code 3 = .ok (.ifCond .eq 14, 3) := by decide +kernel
theorem d16_6 : decode jdk_42_method_154_code 6 = .ok (.aload_n 0, 1) := by decide +kernel
theorem d16_7 : decode jdk_42_method_154_code 7 = .ok (.getfield 15, 3) := by decide +kernel
theorem d16_10 : decode jdk_42_method_154_code 10 = .ok (.ifCond .ne 7, 3) := by decide +kernel
theorem d16_13 : decode jdk_42_method_154_code 13 = .ok (.iconst 1, 1) := by decide +kernel
theorem d16_14 : decode jdk_42_method_154_code 14 = .ok (.goto 4, 3) := by decide +kernel
theorem d16_17 : decode jdk_42_method_154_code 17 = .ok (.iconst 0, 1) := by decide +kernel
theorem d16_18 : decode jdk_42_method_154_code 18 = .ok (.ireturn, 1) := by decide +kernel
theorem ef_16 (m : MethodId) (a0 : Addr) : entryFrame m #[(.ref a0)] 1 = mkF m 0 #[.val (.ref a0)] [] := by first | (simp [entryFrame, mkF, argsToLocals, Value.category]; done) | rfl
theorem rmIL0 (l : Launch) (Z : State) (az : Array Value) (hw : HW az Z) (ws : List Jvm.Cond) (a0 : Addr) (zc : Int32) (fm : Value) (h0 : Heap) (n0 : Nat) (Z0 : n0 ≤ h0.size) (S_C : tS0 Z h0 (.int zc)) (hzc : ¬ zc = 0) (S_F : tS1 Z h0 fm) (hfm : fm.isRef = true) (S_A : tS2 Z h0 (.int 1)) (S_H : tS3 Z h0 (.int 0)) (S_L : tS4 Z h0 (.int 8)) (F_c : tF0 Z h0 a0 (.int 0)) :
    MF l mN14 (Jvm.Cond.code mN14 jdk_42_method_154_code 1 (some .boolean) :: ws) (rO 0 0 0 0) #[(.ref a0)] Z h0 (PQ (.int 1) n0 h0) := by
  refine MetFree.of_bodySF (plainFor_of_name pn_1) hisR ?_
  intro p e s m args below meth c s₁ Bd hml0 hP hK
  obtain ⟨rfl, hZ, hh⟩ := hP
  have hx := Bd.exec
  have hby := Bd.bytes
  have hlk : meth.locks = false := Bd.notSynchronized
  have hml : c.maxLocals = 1 := hml0
  have hown : s.vm.findClass "java/lang/String" = some m.cls := findClass_of_methodNamed Bd.named
  have X0 : Stand p l e (rO 0 0 0 0) s m #[(.ref a0)] below meth c s₁ [] 0 0 := Stand.of_body Bd
  have e0 : s₁.heap = h0 := by rw [← hh, Bd.state]; rfl
  have N0 := Fr.nil n0
  show Go p e below s ((PQ (.int 1) n0 h0)) (rO 0 0 0 0).cells (rO 0 0 0 0).slots (s₁.setTop (entryFrame m #[(.ref a0)] 1))
  rw [ef_16 m a0]
  obtain ⟨T1, X1, e1, st1⟩ := getS2 X0 hx hZ hown (host := "") (Or.inl (ow hw 41 rfl)) Via.refl e0 S_C (g := (mkF m 0 #[vr a0] [])) rfl (hb hby d16_0)
  refine Go.st (S' := T1.setTop (mkF m 7 #[vr a0] [.ref a0])) (fun _ kk => st1 _ (XS.ifNo X1.here hx rfl (hb hby d16_3) rfl ((if0 _ _).trans (feq hzc).1) (XS.aloadN X1.here hx rfl (hb hby d16_6) rfl rfl kk))) ?_
  obtain ⟨T2, X2, e2, st2⟩ := getF X1 hx hZ hown (host := "") (Or.inl (ow hw 26 rfl)) Via.refl e1 F_c (g := (mkF m 7 #[vr a0] [.ref a0])) rfl rfl (hb hby d16_7)
  refine Go.st (S' := T2.setTop (mkF m 18 #[vr a0] [.int 1])) (fun _ kk => st2 _ (XS.ifNo X2.here hx rfl (hb hby d16_10) rfl ((if0 _ _).trans (teq (by decide : (0 : Int32) = (0 : Int32))).2) (XS.iconst X2.here hx rfl (hb hby d16_13) (XS.goto X2.here hx rfl (pc0 := 14) (pc' := 18) rfl (hb hby d16_14) (by decide) (by decide) kk)))) ?_
  exact Go.retN X2 hx hlk (t := .boolean) Bd.returns (by simp) (hb hby d16_18) (⟨rfl, N0, e2⟩) (by decide) (by decide)
theorem rmIL1 (l : Launch) (Z : State) (az : Array Value) (hw : HW az Z) (ws : List Jvm.Cond) (a0 : Addr) (zc : Int32) (fm : Value) (h0 : Heap) (n0 : Nat) (Z0 : n0 ≤ h0.size) (S_C : tS0 Z h0 (.int zc)) (hzc : ¬ zc = 0) (S_F : tS1 Z h0 fm) (hfm : fm.isRef = true) (S_A : tS2 Z h0 (.int 1)) (S_H : tS3 Z h0 (.int 0)) (S_L : tS4 Z h0 (.int 8)) (F_c : tF0 Z h0 a0 (.int 1)) :
    MF l mN14 (Jvm.Cond.code mN14 jdk_42_method_154_code 1 (some .boolean) :: ws) (rO 0 0 0 0) #[(.ref a0)] Z h0 (PQ (.int 0) n0 h0) := by
  refine MetFree.of_bodySF (plainFor_of_name pn_1) hisR ?_
  intro p e s m args below meth c s₁ Bd hml0 hP hK
  obtain ⟨rfl, hZ, hh⟩ := hP
  have hx := Bd.exec
  have hby := Bd.bytes
  have hlk : meth.locks = false := Bd.notSynchronized
  have hml : c.maxLocals = 1 := hml0
  have hown : s.vm.findClass "java/lang/String" = some m.cls := findClass_of_methodNamed Bd.named
  have X0 : Stand p l e (rO 0 0 0 0) s m #[(.ref a0)] below meth c s₁ [] 0 0 := Stand.of_body Bd
  have e0 : s₁.heap = h0 := by rw [← hh, Bd.state]; rfl
  have N0 := Fr.nil n0
  show Go p e below s ((PQ (.int 0) n0 h0)) (rO 0 0 0 0).cells (rO 0 0 0 0).slots (s₁.setTop (entryFrame m #[(.ref a0)] 1))
  rw [ef_16 m a0]
  obtain ⟨T1, X1, e1, st1⟩ := getS2 X0 hx hZ hown (host := "") (Or.inl (ow hw 41 rfl)) Via.refl e0 S_C (g := (mkF m 0 #[vr a0] [])) rfl (hb hby d16_0)
  refine Go.st (S' := T1.setTop (mkF m 7 #[vr a0] [.ref a0])) (fun _ kk => st1 _ (XS.ifNo X1.here hx rfl (hb hby d16_3) rfl ((if0 _ _).trans (feq hzc).1) (XS.aloadN X1.here hx rfl (hb hby d16_6) rfl rfl kk))) ?_
  obtain ⟨T2, X2, e2, st2⟩ := getF X1 hx hZ hown (host := "") (Or.inl (ow hw 26 rfl)) Via.refl e1 F_c (g := (mkF m 7 #[vr a0] [.ref a0])) rfl rfl (hb hby d16_7)
  refine Go.st (S' := T2.setTop (mkF m 18 #[vr a0] [.int 0])) (fun _ kk => st2 _ (XS.ifYes X2.here hx rfl (pc0 := 10) (pc' := 17) rfl (hb hby d16_10) rfl ((if0 _ _).trans (feq (by decide : ¬ ((1 : Int32) = (0 : Int32)))).2) (by decide) (by decide) (XS.iconst X2.here hx rfl (hb hby d16_17) kk))) ?_
  exact Go.retN X2 hx hlk (t := .boolean) Bd.returns (by simp) (hb hby d16_18) (⟨rfl, N0, e2⟩) (by decide) (by decide)
theorem d7_0 : decode jdk_42_method_152_code 0 = .ok (.getstatic 38, 3) := by decide +kernel
theorem d7_3 : decode jdk_42_method_152_code 3 = .ok (.ifCond .eq 10, 3) := by decide +kernel
theorem d7_6 : decode jdk_42_method_152_code 6 = .ok (.aload_n 0, 1) := by decide +kernel
theorem d7_7 : decode jdk_42_method_152_code 7 = .ok (.getfield 15, 3) := by decide +kernel
theorem d7_10 : decode jdk_42_method_152_code 10 = .ok (.goto 4, 3) := by decide +kernel
theorem d7_14 : decode jdk_42_method_152_code 14 = .ok (.ireturn, 1) := by decide +kernel
theorem ef_7 (m : MethodId) (a0 : Addr) : entryFrame m #[(.ref a0)] 1 = mkF m 0 #[.val (.ref a0)] [] := by first | (simp [entryFrame, mkF, argsToLocals, Value.category]; done) | rfl
theorem rmCo0 (l : Launch) (Z : State) (az : Array Value) (hw : HW az Z) (ws : List Jvm.Cond) (a0 : Addr) (zc : Int32) (fm : Value) (h0 : Heap) (n0 : Nat) (Z0 : n0 ≤ h0.size) (S_C : tS0 Z h0 (.int zc)) (hzc : ¬ zc = 0) (S_F : tS1 Z h0 fm) (hfm : fm.isRef = true) (S_A : tS2 Z h0 (.int 1)) (S_H : tS3 Z h0 (.int 0)) (S_L : tS4 Z h0 (.int 8)) (F_c : tF0 Z h0 a0 (.int 0)) :
    MF l mN13 (Jvm.Cond.code mN13 jdk_42_method_152_code 1 (some .byte) :: ws) (rO 0 0 0 0) #[(.ref a0)] Z h0 (PQ (.int 0) n0 h0) := by
  refine MetFree.of_bodySF (plainFor_of_name pn_1) hisR ?_
  intro p e s m args below meth c s₁ Bd hml0 hP hK
  obtain ⟨rfl, hZ, hh⟩ := hP
  have hx := Bd.exec
  have hby := Bd.bytes
  have hlk : meth.locks = false := Bd.notSynchronized
  have hml : c.maxLocals = 1 := hml0
  have hown : s.vm.findClass "java/lang/String" = some m.cls := findClass_of_methodNamed Bd.named
  have X0 : Stand p l e (rO 0 0 0 0) s m #[(.ref a0)] below meth c s₁ [] 0 0 := Stand.of_body Bd
  have e0 : s₁.heap = h0 := by rw [← hh, Bd.state]; rfl
  have N0 := Fr.nil n0
  show Go p e below s ((PQ (.int 0) n0 h0)) (rO 0 0 0 0).cells (rO 0 0 0 0).slots (s₁.setTop (entryFrame m #[(.ref a0)] 1))
  rw [ef_7 m a0]
  obtain ⟨T1, X1, e1, st1⟩ := getS2 X0 hx hZ hown (host := "") (Or.inl (ow hw 41 rfl)) Via.refl e0 S_C (g := (mkF m 0 #[vr a0] [])) rfl (hb hby d7_0)
  refine Go.st (S' := T1.setTop (mkF m 7 #[vr a0] [.ref a0])) (fun _ kk => st1 _ (XS.ifNo X1.here hx rfl (hb hby d7_3) rfl ((if0 _ _).trans (feq hzc).1) (XS.aloadN X1.here hx rfl (hb hby d7_6) rfl rfl kk))) ?_
  obtain ⟨T2, X2, e2, st2⟩ := getF X1 hx hZ hown (host := "") (Or.inl (ow hw 26 rfl)) Via.refl e1 F_c (g := (mkF m 7 #[vr a0] [.ref a0])) rfl rfl (hb hby d7_7)
  refine Go.st (S' := T2.setTop (mkF m 14 #[vr a0] [.int 0])) (fun _ kk => st2 _ (XS.goto X2.here hx rfl (pc0 := 10) (pc' := 14) rfl (hb hby d7_10) (by decide) (by decide) kk)) ?_
  exact Go.retN X2 hx hlk (t := .byte) Bd.returns (by simp) (hb hby d7_14) (⟨rfl, N0, e2⟩) (by decide) (by decide)
theorem rmCo1 (l : Launch) (Z : State) (az : Array Value) (hw : HW az Z) (ws : List Jvm.Cond) (a0 : Addr) (zc : Int32) (fm : Value) (h0 : Heap) (n0 : Nat) (Z0 : n0 ≤ h0.size) (S_C : tS0 Z h0 (.int zc)) (hzc : ¬ zc = 0) (S_F : tS1 Z h0 fm) (hfm : fm.isRef = true) (S_A : tS2 Z h0 (.int 1)) (S_H : tS3 Z h0 (.int 0)) (S_L : tS4 Z h0 (.int 8)) (F_c : tF0 Z h0 a0 (.int 1)) :
    MF l mN13 (Jvm.Cond.code mN13 jdk_42_method_152_code 1 (some .byte) :: ws) (rO 0 0 0 0) #[(.ref a0)] Z h0 (PQ (.int 1) n0 h0) := by
  refine MetFree.of_bodySF (plainFor_of_name pn_1) hisR ?_
  intro p e s m args below meth c s₁ Bd hml0 hP hK
  obtain ⟨rfl, hZ, hh⟩ := hP
  have hx := Bd.exec
  have hby := Bd.bytes
  have hlk : meth.locks = false := Bd.notSynchronized
  have hml : c.maxLocals = 1 := hml0
  have hown : s.vm.findClass "java/lang/String" = some m.cls := findClass_of_methodNamed Bd.named
  have X0 : Stand p l e (rO 0 0 0 0) s m #[(.ref a0)] below meth c s₁ [] 0 0 := Stand.of_body Bd
  have e0 : s₁.heap = h0 := by rw [← hh, Bd.state]; rfl
  have N0 := Fr.nil n0
  show Go p e below s ((PQ (.int 1) n0 h0)) (rO 0 0 0 0).cells (rO 0 0 0 0).slots (s₁.setTop (entryFrame m #[(.ref a0)] 1))
  rw [ef_7 m a0]
  obtain ⟨T1, X1, e1, st1⟩ := getS2 X0 hx hZ hown (host := "") (Or.inl (ow hw 41 rfl)) Via.refl e0 S_C (g := (mkF m 0 #[vr a0] [])) rfl (hb hby d7_0)
  refine Go.st (S' := T1.setTop (mkF m 7 #[vr a0] [.ref a0])) (fun _ kk => st1 _ (XS.ifNo X1.here hx rfl (hb hby d7_3) rfl ((if0 _ _).trans (feq hzc).1) (XS.aloadN X1.here hx rfl (hb hby d7_6) rfl rfl kk))) ?_
  obtain ⟨T2, X2, e2, st2⟩ := getF X1 hx hZ hown (host := "") (Or.inl (ow hw 26 rfl)) Via.refl e1 F_c (g := (mkF m 7 #[vr a0] [.ref a0])) rfl rfl (hb hby d7_7)
  refine Go.st (S' := T2.setTop (mkF m 14 #[vr a0] [.int 1])) (fun _ kk => st2 _ (XS.goto X2.here hx rfl (pc0 := 10) (pc' := 14) rfl (hb hby d7_10) (by decide) (by decide) kk)) ?_
  exact Go.retN X2 hx hlk (t := .byte) Bd.returns (by simp) (hb hby d7_14) (⟨rfl, N0, e2⟩) (by decide) (by decide)
theorem d6_0 : decode jdk_42_method_54_code 0 = .ok (.aload_n 0, 1) := by decide +kernel
theorem d6_1 : decode jdk_42_method_54_code 1 = .ok (.getfield 9, 3) := by decide +kernel
theorem d6_4 : decode jdk_42_method_54_code 4 = .ok (.arraylength, 1) := by decide +kernel
theorem d6_5 : decode jdk_42_method_54_code 5 = .ok (.aload_n 0, 1) := by decide +kernel
theorem d6_6 : decode jdk_42_method_54_code 6 = .ok (.invokevirtual 335, 3) := by decide +kernel
theorem d6_9 : decode jdk_42_method_54_code 9 = .ok (.ishr, 1) := by decide +kernel
theorem d6_10 : decode jdk_42_method_54_code 10 = .ok (.ireturn, 1) := by decide +kernel
theorem ef_6 (m : MethodId) (a0 : Addr) : entryFrame m #[(.ref a0)] 1 = mkF m 0 #[.val (.ref a0)] [] := by first | (simp [entryFrame, mkF, argsToLocals, Value.category]; done) | rfl
theorem rmLn (l : Launch) (Z : State) (az : Array Value) (hw : HW az Z) (ws : List Jvm.Cond) (a0 : Addr) (zc : Int32) (fm : Value) (cs : List Int32) (ln : Int32) (h0 : Heap) (n0 : Nat) (Z0 : n0 ≤ h0.size) (S_C : tS0 Z h0 (.int zc)) (hzc : ¬ zc = 0) (S_F : tS1 Z h0 fm) (hfm : fm.isRef = true) (S_A : tS2 Z h0 (.int 1)) (S_H : tS3 Z h0 (.int 0)) (S_L : tS4 Z h0 (.int 8)) (CS : CSt Z h0 a0 cs) (hln : ln.toInt = cs.length) :
    MF l mN15 (Jvm.Cond.code mN15 jdk_42_method_54_code 1 (some .int) :: ws) (rO 1 0 0 13) #[(.ref a0)] Z h0 (PQ (.int ln) n0 h0) := by
  refine MetFree.of_bodySF (plainFor_of_name pn_1) hisR ?_
  intro p e s m args below meth c s₁ Bd hml0 hP hK
  obtain ⟨rfl, hZ, hh⟩ := hP
  have hx := Bd.exec
  have hby := Bd.bytes
  have hlk : meth.locks = false := Bd.notSynchronized
  have hml : c.maxLocals = 1 := hml0
  have hown : s.vm.findClass "java/lang/String" = some m.cls := findClass_of_methodNamed Bd.named
  have X0 : Stand p l e (rO 1 0 0 13) s m #[(.ref a0)] below meth c s₁ [] 0 0 := Stand.of_body Bd
  have e0 : s₁.heap = h0 := by rw [← hh, Bd.state]; rfl
  have N0 := Fr.nil n0
  show Go p e below s ((PQ (.int ln) n0 h0)) (rO 1 0 0 13).cells (rO 1 0 0 13).slots (s₁.setTop (entryFrame m #[(.ref a0)] 1))
  rw [ef_6 m a0]
  obtain ⟨E_a0, cd, da, ka, za, xs, FC_a0, FV_a0, V_da, hcod⟩ := CS
  rcases hcod with ⟨rfl, hza, rfl, hbd⟩ | ⟨rfl, hza, rfl, hbd⟩
  · refine Go.st (S' := s₁.setTop (mkF m 1 #[vr a0] [.ref a0])) (fun _ kk => XS.aloadN X0.here hx rfl (hb hby d6_0) rfl rfl kk) ?_
    obtain ⟨T1, X1, e1, st1⟩ := getF X0 hx hZ hown (host := "") (Or.inl (ow hw 25 rfl)) Via.refl e0 FV_a0 (g := (mkF m 1 #[vr a0] [.ref a0])) rfl rfl (hb hby d6_1)
    refine Go.st (S' := T1.setTop (mkF m 4 #[vr a0] [.ref da])) st1 ?_
    obtain ⟨cl2, Ar2, -, S2, Ng2, -, -⟩ := (id V_da)
    refine Go.st (S' := T1.setTop (mkF m 5 #[vr a0] [.int za])) (fun _ kk => X1.arraylength hx (by rw [e1]; exact Ar2.1) (State.isArrayOf_alike hZ.alike Ar2.2.1) (g := (mkF m 4 #[vr a0] [.ref da])) rfl rfl (hb hby d6_4) _ (by rw [len_of S2 Ng2]; exact kk)) ?_
    refine Go.st (S' := T1.setTop (mkF m 6 #[vr a0] [.ref a0, .int za])) (fun _ kk => XS.aloadN X1.here hx rfl (hb hby d6_5) rfl rfl kk) ?_
    obtain ⟨cq3, kq3, q3a, q3b, q3c⟩ := isOf hZ e1 E_a0
    obtain ⟨_, _, ⟨T3, L3, k3, n3⟩, -, X3, ⟨Lc3, hQ3, l3, y3, z3⟩, st3⟩ := X1.virtualBack hx (y := mN13) (z := mN13) hown (mvT hZ (ow hw 36 rfl)) (mvT hZ (ow hw 37 rfl)) (notFace_of_selects (args := #[]) (mvT hZ (ow hw 39 rfl))) (mvT hZ (ow hw 39 rfl)) (mvT hZ (ow hw 38 rfl)) (by decide) (backOf (W := 1) (rmCo0 l Z az hw [] a0 zc fm h0 n0 Z0 S_C hzc S_F hfm S_A S_H S_L FC_a0) hZ (ow hw 40 rfl) (ow hw 8 rfl) (by decide) (by decide)) q3a q3c (g := (mkF m 6 #[vr a0] [.ref a0, .int za])) rfl (by rw [hml]; rfl) (Steps.refl _) (argsL := []) (rest := [.int za]) (lenOf pd_6 rfl) rfl (oW rfl rfl) (hb hby d6_6) (fun _ _ => ⟨rfl, e1, (by decide : 0 + 0 ≤ _), (by decide : 0 + 0 ≤ _)⟩)
    dsimp only [Pt.U, Pt.locs, Pt.cells, Pt.slots] at X3 l3 y3 z3 st3 hQ3
    subst l3 y3 z3
    obtain ⟨hv3, N3q, e3⟩ := hQ3
    subst hv3
    have N3 := Fr.app N0 N3q
    refine Go.st (S' := T3.setTop (mkF m 10 #[vr a0] [.int (za >>> ((0 : Int32) &&& 31))])) (fun _ kk => st3.trans (XS.ishr X3.here hx rfl (hb hby d6_9) rfl kk)) ?_
    exact Go.retI X3 hx hlk Bd.returns (hb hby d6_10) (⟨congrArg (fun q => some (Value.int q)) (own_len8 hza hln), N3, e3⟩) (by decide) (by decide)
  · refine Go.st (S' := s₁.setTop (mkF m 1 #[vr a0] [.ref a0])) (fun _ kk => XS.aloadN X0.here hx rfl (hb hby d6_0) rfl rfl kk) ?_
    obtain ⟨T4, X4, e4, st4⟩ := getF X0 hx hZ hown (host := "") (Or.inl (ow hw 25 rfl)) Via.refl e0 FV_a0 (g := (mkF m 1 #[vr a0] [.ref a0])) rfl rfl (hb hby d6_1)
    refine Go.st (S' := T4.setTop (mkF m 4 #[vr a0] [.ref da])) st4 ?_
    obtain ⟨cl5, Ar5, -, S5, Ng5, -, -⟩ := (id V_da)
    refine Go.st (S' := T4.setTop (mkF m 5 #[vr a0] [.int za])) (fun _ kk => X4.arraylength hx (by rw [e4]; exact Ar5.1) (State.isArrayOf_alike hZ.alike Ar5.2.1) (g := (mkF m 4 #[vr a0] [.ref da])) rfl rfl (hb hby d6_4) _ (by rw [len_of S5 Ng5]; exact kk)) ?_
    refine Go.st (S' := T4.setTop (mkF m 6 #[vr a0] [.ref a0, .int za])) (fun _ kk => XS.aloadN X4.here hx rfl (hb hby d6_5) rfl rfl kk) ?_
    obtain ⟨cq6, kq6, q6a, q6b, q6c⟩ := isOf hZ e4 E_a0
    obtain ⟨_, _, ⟨T6, L6, k6, n6⟩, -, X6, ⟨Lc6, hQ6, l6, y6, z6⟩, st6⟩ := X4.virtualBack hx (y := mN13) (z := mN13) hown (mvT hZ (ow hw 36 rfl)) (mvT hZ (ow hw 37 rfl)) (notFace_of_selects (args := #[]) (mvT hZ (ow hw 39 rfl))) (mvT hZ (ow hw 39 rfl)) (mvT hZ (ow hw 38 rfl)) (by decide) (backOf (W := 1) (rmCo1 l Z az hw [] a0 zc fm h0 n0 Z0 S_C hzc S_F hfm S_A S_H S_L FC_a0) hZ (ow hw 40 rfl) (ow hw 8 rfl) (by decide) (by decide)) q6a q6c (g := (mkF m 6 #[vr a0] [.ref a0, .int za])) rfl (by rw [hml]; rfl) (Steps.refl _) (argsL := []) (rest := [.int za]) (lenOf pd_6 rfl) rfl (oW rfl rfl) (hb hby d6_6) (fun _ _ => ⟨rfl, e4, (by decide : 0 + 0 ≤ _), (by decide : 0 + 0 ≤ _)⟩)
    dsimp only [Pt.U, Pt.locs, Pt.cells, Pt.slots] at X6 l6 y6 z6 st6 hQ6
    subst l6 y6 z6
    obtain ⟨hv6, N6q, e6⟩ := hQ6
    subst hv6
    have N6 := Fr.app N0 N6q
    refine Go.st (S' := T6.setTop (mkF m 10 #[vr a0] [.int (za >>> ((1 : Int32) &&& 31))])) (fun _ kk => st6.trans (XS.ishr X6.here hx rfl (hb hby d6_9) rfl kk)) ?_
    exact Go.retI X6 hx hlk Bd.returns (hb hby d6_10) (⟨congrArg (fun q => some (Value.int q)) (own_len16 hza hln), N6, e6⟩) (by decide) (by decide)
theorem d15_0 : decode jdk_42_method_56_code 0 = .ok (.aload_n 0, 1) := by decide +kernel
theorem d15_1 : decode jdk_42_method_56_code 1 = .ok (.invokevirtual 492, 3) := by decide +kernel
theorem d15_4 : decode jdk_42_method_56_code 4 = .ok (.ifCond .eq 12, 3) := by decide +kernel
theorem d15_7 : decode jdk_42_method_56_code 7 = .ok (.aload_n 0, 1) := by decide +kernel
theorem d15_8 : decode jdk_42_method_56_code 8 = .ok (.getfield 9, 3) := by decide +kernel
theorem d15_11 : decode jdk_42_method_56_code 11 = .ok (.iload_n 1, 1) := by decide +kernel
theorem d15_12 : decode jdk_42_method_56_code 12 = .ok (.invokestatic 495, 3) := by decide +kernel
theorem d15_15 : decode jdk_42_method_56_code 15 = .ok (.ireturn, 1) := by decide +kernel
theorem d15_16 : decode jdk_42_method_56_code 16 = .ok (.aload_n 0, 1) := by decide +kernel
theorem d15_17 : decode jdk_42_method_56_code 17 = .ok (.getfield 9, 3) := by decide +kernel
theorem d15_20 : decode jdk_42_method_56_code 20 = .ok (.iload_n 1, 1) := by decide +kernel
theorem d15_21 : decode jdk_42_method_56_code 21 = .ok (.invokestatic 498, 3) := by decide +kernel
theorem d15_24 : decode jdk_42_method_56_code 24 = .ok (.ireturn, 1) := by decide +kernel
theorem ef_15 (m : MethodId) (a0 : Addr) (p1 : Int32) : entryFrame m #[(.ref a0), (.int p1)] 2 = mkF m 0 #[.val (.ref a0), .val (.int p1)] [] := by first | (simp [entryFrame, mkF, argsToLocals, Value.category]; done) | rfl
theorem rmCa (l : Launch) (Z : State) (az : Array Value) (hw : HW az Z) (ws : List Jvm.Cond) (a0 : Addr) (p1 : Int32) (zc : Int32) (fm : Value) (cs : List Int32) (h0 : Heap) (n0 : Nat) (Z0 : n0 ≤ h0.size) (S_C : tS0 Z h0 (.int zc)) (hzc : ¬ zc = 0) (S_F : tS1 Z h0 fm) (hfm : fm.isRef = true) (S_A : tS2 Z h0 (.int 1)) (S_H : tS3 Z h0 (.int 0)) (S_L : tS4 Z h0 (.int 8)) (CS : CSt Z h0 a0 cs) (hi : 0 ≤ p1.toInt ∧ p1.toInt < cs.length) :
    MF l mN11 (Jvm.Cond.code mN11 jdk_42_method_56_code 2 (some .char) :: ws) (rO 4 0 0 53) #[(.ref a0), (.int p1)] Z h0 (PQ (.int (bt cs p1)) n0 h0) := by
  refine MetFree.of_bodySF (plainFor_of_name pn_1) hisR ?_
  intro p e s m args below meth c s₁ Bd hml0 hP hK
  obtain ⟨rfl, hZ, hh⟩ := hP
  have hx := Bd.exec
  have hby := Bd.bytes
  have hlk : meth.locks = false := Bd.notSynchronized
  have hml : c.maxLocals = 2 := hml0
  have hown : s.vm.findClass "java/lang/String" = some m.cls := findClass_of_methodNamed Bd.named
  have X0 : Stand p l e (rO 4 0 0 53) s m #[(.ref a0), (.int p1)] below meth c s₁ [] 0 0 := Stand.of_body Bd
  have e0 : s₁.heap = h0 := by rw [← hh, Bd.state]; rfl
  have N0 := Fr.nil n0
  show Go p e below s ((PQ (.int (bt cs p1)) n0 h0)) (rO 4 0 0 53).cells (rO 4 0 0 53).slots (s₁.setTop (entryFrame m #[(.ref a0), (.int p1)] 2))
  rw [ef_15 m a0 p1]
  obtain ⟨E_a0, cd, da, ka, za, xs, FC_a0, FV_a0, V_da, hcod⟩ := CS
  rcases hcod with ⟨rfl, hza, rfl, hbd⟩ | ⟨rfl, hza, rfl, hbd⟩
  · have hix := own_inz hi.1 (show p1.toInt < za.toInt from by omega)
    have hv : nar .char (own_l8 (bt (cs.map own_lo8) p1)) = bt cs p1 := by rw [own_btm hi]; exact own_rt8 (hbd _ (own_btin hi))
    refine Go.st (S' := s₁.setTop (mkF m 1 #[vr a0, vi p1] [.ref a0])) (fun _ kk => XS.aloadN X0.here hx rfl (hb hby d15_0) rfl rfl kk) ?_
    obtain ⟨cq1, kq1, q1a, q1b, q1c⟩ := isOf hZ e0 E_a0
    obtain ⟨_, _, ⟨T1, L1, k1, n1⟩, -, X1, ⟨Lc1, hQ1, l1, y1, z1⟩, st1⟩ := X0.virtualBack hx (y := mN14) (z := mN14) hown (mvT hZ (ow hw 71 rfl)) (mvT hZ (ow hw 72 rfl)) (notFace_of_selects (args := #[]) (mvT hZ (ow hw 74 rfl))) (mvT hZ (ow hw 74 rfl)) (mvT hZ (ow hw 73 rfl)) (by decide) (backOf (W := 0) (rmIL0 l Z az hw [] a0 zc fm h0 n0 Z0 S_C hzc S_F hfm S_A S_H S_L FC_a0) hZ (ow hw 75 rfl) (ow hw 8 rfl) (by decide) (by decide)) q1a q1c (g := (mkF m 1 #[vr a0, vi p1] [.ref a0])) rfl (by rw [hml]; rfl) (Steps.refl _) (argsL := []) (rest := []) (lenOf pd_13 rfl) rfl (oW rfl rfl) (hb hby d15_1) (fun _ _ => ⟨rfl, e0, (by decide : 0 + 0 ≤ _), (by decide : 0 + 0 ≤ _)⟩)
    dsimp only [Pt.U, Pt.locs, Pt.cells, Pt.slots] at X1 l1 y1 z1 st1 hQ1
    subst l1 y1 z1
    obtain ⟨hv1, N1q, e1⟩ := hQ1
    subst hv1
    have N1 := Fr.app N0 N1q
    refine Go.st (S' := T1.setTop (mkF m 8 #[vr a0, vi p1] [.ref a0])) (fun _ kk => st1.trans (XS.ifNo X1.here hx rfl (hb hby d15_4) rfl ((if0 _ _).trans (feq (by decide : ¬ ((1 : Int32) = (0 : Int32)))).1) (XS.aloadN X1.here hx rfl (hb hby d15_7) rfl rfl kk))) ?_
    obtain ⟨T2, X2, e2, st2⟩ := getF X1 hx hZ hown (host := "") (Or.inl (ow hw 25 rfl)) Via.refl e1 FV_a0 (g := (mkF m 8 #[vr a0, vi p1] [.ref a0])) rfl rfl (hb hby d15_8)
    refine Go.st (S' := T2.setTop (mkF m 12 #[vr a0, vi p1] [.int p1, .ref da])) (fun _ kk => st2 _ (XS.iloadN X2.here hx rfl (hb hby d15_11) rfl kk)) ?_
    obtain ⟨_, _, ⟨T3, L3, k3, n3⟩, -, X3, ⟨Lc3, hQ3, l3, y3, z3⟩, st3⟩ := Jvm.LawKit.callS X2 hx (y := mN16) hown (mvT hZ (ow hw 76 rfl)) (mvT hZ (ow hw 77 rfl)) (mvT hZ (ow hw 78 rfl)) (mvT hZ (ow hw 79 rfl)) (by decide) (backOf (W := 0) (rmL1 l Z az hw [] da p1 zc fm ka za (cs.map own_lo8) h0 n0 Z0 S_C hzc S_F hfm S_A S_H S_L V_da hix) hZ (ow hw 79 rfl) (ow hw 78 rfl) (by decide) (by decide)) (g := (mkF m 12 #[vr a0, vi p1] [.int p1, .ref da])) rfl (by rw [hml]; rfl) (argsL := [.ref da, .int p1]) (rest := []) (lenOf pd_14 rfl) rfl (oW rfl rfl) (hb hby d15_12) (fun _ _ => ⟨rfl, e2, (by decide : 0 + 0 ≤ _), (by decide : 0 + 0 ≤ _)⟩)
    dsimp only [Pt.U, Pt.locs, Pt.cells, Pt.slots] at X3 l3 y3 z3 st3 hQ3
    subst l3 y3 z3
    obtain ⟨hv3, N3q, e3⟩ := hQ3
    subst hv3
    have N3 := Fr.app N1 N3q
    refine Go.st (S' := T3.setTop (mkF m 15 #[vr a0, vi p1] [.int (own_l8 (bt (cs.map own_lo8) p1))])) st3 ?_
    exact Go.retN X3 hx hlk (t := .char) Bd.returns (by simp) (hb hby d15_15) (⟨congrArg (fun q => some (Value.int q)) hv, N3, e3⟩) (by decide) (by decide)
  · have hxx := own_ix hi hza
    have hix0 := own_inz (w := (p1 <<< ((1 : Int32) &&& 31))) (z := za) (by omega) (by omega)
    have hix1 := own_inz (w := ((p1 <<< ((1 : Int32) &&& 31)) + (1 : Int32))) (z := za) (by omega) (by omega)
    have hle := own_hle hza
    have hix := own_inz hi.1 (show p1.toInt < (za >>> ((1 : Int32) &&& 31)).toInt from by omega)
    have hv : nar .char (nar .char (own_g16 (bt (own_u16 cs) (p1 <<< ((1 : Int32) &&& 31))) (bt (own_u16 cs) ((p1 <<< ((1 : Int32) &&& 31)) + (1 : Int32))))) = bt cs p1 := by rw [own_bt0 hi hxx.1, own_bt1 hi hxx.2]; exact own_rt16 (hbd _ (own_btin hi))
    refine Go.st (S' := s₁.setTop (mkF m 1 #[vr a0, vi p1] [.ref a0])) (fun _ kk => XS.aloadN X0.here hx rfl (hb hby d15_0) rfl rfl kk) ?_
    obtain ⟨cq4, kq4, q4a, q4b, q4c⟩ := isOf hZ e0 E_a0
    obtain ⟨_, _, ⟨T4, L4, k4, n4⟩, -, X4, ⟨Lc4, hQ4, l4, y4, z4⟩, st4⟩ := X0.virtualBack hx (y := mN14) (z := mN14) hown (mvT hZ (ow hw 71 rfl)) (mvT hZ (ow hw 72 rfl)) (notFace_of_selects (args := #[]) (mvT hZ (ow hw 74 rfl))) (mvT hZ (ow hw 74 rfl)) (mvT hZ (ow hw 73 rfl)) (by decide) (backOf (W := 0) (rmIL1 l Z az hw [] a0 zc fm h0 n0 Z0 S_C hzc S_F hfm S_A S_H S_L FC_a0) hZ (ow hw 75 rfl) (ow hw 8 rfl) (by decide) (by decide)) q4a q4c (g := (mkF m 1 #[vr a0, vi p1] [.ref a0])) rfl (by rw [hml]; rfl) (Steps.refl _) (argsL := []) (rest := []) (lenOf pd_13 rfl) rfl (oW rfl rfl) (hb hby d15_1) (fun _ _ => ⟨rfl, e0, (by decide : 0 + 0 ≤ _), (by decide : 0 + 0 ≤ _)⟩)
    dsimp only [Pt.U, Pt.locs, Pt.cells, Pt.slots] at X4 l4 y4 z4 st4 hQ4
    subst l4 y4 z4
    obtain ⟨hv4, N4q, e4⟩ := hQ4
    subst hv4
    have N4 := Fr.app N0 N4q
    refine Go.st (S' := T4.setTop (mkF m 17 #[vr a0, vi p1] [.ref a0])) (fun _ kk => st4.trans (XS.ifYes X4.here hx rfl (pc0 := 4) (pc' := 16) rfl (hb hby d15_4) rfl ((if0 _ _).trans (teq (by decide : (0 : Int32) = (0 : Int32))).1) (by decide) (by decide) (XS.aloadN X4.here hx rfl (hb hby d15_16) rfl rfl kk))) ?_
    obtain ⟨T5, X5, e5, st5⟩ := getF X4 hx hZ hown (host := "") (Or.inl (ow hw 25 rfl)) Via.refl e4 FV_a0 (g := (mkF m 17 #[vr a0, vi p1] [.ref a0])) rfl rfl (hb hby d15_17)
    refine Go.st (S' := T5.setTop (mkF m 21 #[vr a0, vi p1] [.int p1, .ref da])) (fun _ kk => st5 _ (XS.iloadN X5.here hx rfl (hb hby d15_20) rfl kk)) ?_
    obtain ⟨_, _, ⟨T6, L6, k6, n6⟩, -, X6, ⟨Lc6, hQ6, l6, y6, z6⟩, st6⟩ := Jvm.LawKit.callS X5 hx (y := mN17) hown (mvT hZ (ow hw 117 rfl)) (mvT hZ (ow hw 118 rfl)) (mvT hZ (ow hw 44 rfl)) (mvT hZ (ow hw 119 rfl)) (by decide) (backOf (W := 0) (rmUa l Z az hw [] da p1 zc fm ka za (own_u16 cs) h0 n0 Z0 S_C hzc S_F hfm S_A S_H S_L V_da hix hix0 hix1) hZ (ow hw 119 rfl) (ow hw 44 rfl) (by decide) (by decide)) (g := (mkF m 21 #[vr a0, vi p1] [.int p1, .ref da])) rfl (by rw [hml]; rfl) (argsL := [.ref da, .int p1]) (rest := []) (lenOf pd_14 rfl) rfl (oW rfl rfl) (hb hby d15_21) (fun _ _ => ⟨rfl, e5, (by decide : 0 + 0 ≤ _), (by decide : 0 + 0 ≤ _)⟩)
    dsimp only [Pt.U, Pt.locs, Pt.cells, Pt.slots] at X6 l6 y6 z6 st6 hQ6
    subst l6 y6 z6
    obtain ⟨hv6, N6q, e6⟩ := hQ6
    subst hv6
    have N6 := Fr.app N4 N6q
    refine Go.st (S' := T6.setTop (mkF m 24 #[vr a0, vi p1] [.int (nar .char (own_g16 (bt (own_u16 cs) (p1 <<< ((1 : Int32) &&& 31))) (bt (own_u16 cs) ((p1 <<< ((1 : Int32) &&& 31)) + (1 : Int32)))))])) st6 ?_
    exact Go.retN X6 hx hlk (t := .char) Bd.returns (by simp) (hb hby d15_24) (⟨congrArg (fun q => some (Value.int q)) hv, N6, e6⟩) (by decide) (by decide)
theorem d24_0 : decode jdk_52_method_3_code 0 = .ok (.iload_n 0, 1) := by decide +kernel
theorem d24_1 : decode jdk_52_method_3_code 1 = .ok (.ifCond .ge 11, 3) := by decide +kernel
theorem d24_12 : decode jdk_52_method_3_code 12 = .ok (.iload_n 0, 1) := by decide +kernel
theorem d24_13 : decode jdk_52_method_3_code 13 = .ok (.ldc 20, 2) := by decide +kernel
theorem d24_15 : decode jdk_52_method_3_code 15 = .ok (.if_icmp .lt 40, 3) := by decide +kernel
theorem d24_55 : decode jdk_52_method_3_code 55 = .ok (.iload_n 0, 1) := by decide +kernel
theorem d24_56 : decode jdk_52_method_3_code 56 = .ok (.iconst 1, 1) := by decide +kernel
theorem d24_57 : decode jdk_52_method_3_code 57 = .ok (.ishl, 1) := by decide +kernel
theorem d24_58 : decode jdk_52_method_3_code 58 = .ok (.ireturn, 1) := by decide +kernel
theorem ef_24 (m : MethodId) (p0 : Int32) : entryFrame m #[(.int p0)] 1 = mkF m 0 #[.val (.int p0)] [] := by first | (simp [entryFrame, mkF, argsToLocals, Value.category]; done) | rfl
theorem rmNL (l : Launch) (Z : State) (az : Array Value) (hw : HW az Z) (ws : List Jvm.Cond) (p0 : Int32)  (h0 : Heap) (n0 : Nat) (Z0 : n0 ≤ h0.size) (h1 : ¬ p0 < (0 : Int32)) (h2 : p0 < (1073741823 : Int32)) :
    MF l mN25 (Jvm.Cond.code mN25 jdk_52_method_3_code 1 (some .int) :: ws) (rO 0 0 0 0) #[(.int p0)] Z h0 (PQ (.int (p0 <<< ((1 : Int32) &&& 31))) n0 h0) := by
  refine MetFree.of_bodySF (plainFor_of_name pn_3) hisR ?_
  intro p e s m args below meth c s₁ Bd hml0 hP hK
  obtain ⟨rfl, hZ, hh⟩ := hP
  have hx := Bd.exec
  have hby := Bd.bytes
  have hlk : meth.locks = false := Bd.notSynchronized
  have hml : c.maxLocals = 1 := hml0
  have hown : s.vm.findClass "java/lang/StringUTF16" = some m.cls := findClass_of_methodNamed Bd.named
  have X0 : Stand p l e (rO 0 0 0 0) s m #[(.int p0)] below meth c s₁ [] 0 0 := Stand.of_body Bd
  have e0 : s₁.heap = h0 := by rw [← hh, Bd.state]; rfl
  have N0 := Fr.nil n0
  show Go p e below s ((PQ (.int (p0 <<< ((1 : Int32) &&& 31))) n0 h0)) (rO 0 0 0 0).cells (rO 0 0 0 0).slots (s₁.setTop (entryFrame m #[(.int p0)] 1))
  rw [ef_24 m p0]
  refine Go.st (S' := s₁.setTop (mkF m 58 #[vi p0] [.int (p0 <<< ((1 : Int32) &&& 31))])) (fun _ kk => XS.iloadN X0.here hx rfl (hb hby d24_0) rfl (XS.ifYes X0.here hx rfl (pc0 := 1) (pc' := 12) rfl (hb hby d24_1) rfl ((if0 _ _).trans (flt h1).2.1) (by decide) (by decide) (XS.iloadN X0.here hx rfl (hb hby d24_12) rfl (X0.ldcInt hx hown (mvT hZ (ow hw 105 rfl)) (g := (mkF m 13 #[vi p0] [.int p0])) rfl (hb hby d24_13) _ (XS.icmpYes X0.here hx rfl (pc0 := 15) (pc' := 55) rfl (hb hby d24_15) rfl (tlt h2).1 (by decide) (by decide) (XS.iloadN X0.here hx rfl (hb hby d24_55) rfl (XS.iconst X0.here hx rfl (hb hby d24_56) (XS.ishl X0.here hx rfl (hb hby d24_57) rfl kk)))))))) ?_
  exact Go.retI X0 hx hlk Bd.returns (hb hby d24_58) (⟨rfl, N0, e0⟩) (by decide) (by decide)
def Q_nf_1 (Z : State)  (h0 : Heap) (n0 : Nat) (v : Option Value) (h : Heap) (L : List Loc) : Prop := ∃ (b : Addr) (k : ClassId), v = some (.ref b) ∧ Fr n0 L ∧ Keep h0 h [] ∧ Arv Z h b k .byte (2 : Int32) [(.int 0), (.int 0)] (.int 0) ∧ Exa Z h b "[B" ∧ h0.size ≤ b
theorem d23_0 : decode jdk_52_method_2_code 0 = .ok (.iload_n 0, 1) := by decide +kernel
theorem d23_1 : decode jdk_52_method_2_code 1 = .ok (.invokestatic 11, 3) := by decide +kernel
theorem d23_4 : decode jdk_52_method_2_code 4 = .ok (.newarray .byte, 2) := by decide +kernel
theorem d23_6 : decode jdk_52_method_2_code 6 = .ok (.areturn, 1) := by decide +kernel
theorem ef_23 (m : MethodId) (p0 : Int32) : entryFrame m #[(.int p0)] 1 = mkF m 0 #[.val (.int p0)] [] := by first | (simp [entryFrame, mkF, argsToLocals, Value.category]; done) | rfl
theorem rmNF_1 (l : Launch) (Z : State) (az : Array Value) (hw : HW az Z) (ws : List Jvm.Cond) (p0 : Int32)  (h0 : Heap) (n0 : Nat) (Z0 : n0 ≤ h0.size) (h1 : p0 = (1 : Int32)) :
    MF l mN24 (Jvm.Cond.code mN24 jdk_52_method_2_code 1 (some (.array .byte)) :: ws) (rO 1 1 2 12) #[(.int p0)] Z h0 (Q_nf_1 Z h0 n0) := by
  refine MetFree.of_bodySF (plainFor_of_name pn_3) hisR ?_
  intro p e s m args below meth c s₁ Bd hml0 hP hK
  obtain ⟨rfl, hZ, hh⟩ := hP
  have hx := Bd.exec
  have hby := Bd.bytes
  have hlk : meth.locks = false := Bd.notSynchronized
  have hml : c.maxLocals = 1 := hml0
  have hown : s.vm.findClass "java/lang/StringUTF16" = some m.cls := findClass_of_methodNamed Bd.named
  have X0 : Stand p l e (rO 1 1 2 12) s m #[(.int p0)] below meth c s₁ [] 0 0 := Stand.of_body Bd
  have e0 : s₁.heap = h0 := by rw [← hh, Bd.state]; rfl
  have N0 := Fr.nil n0
  show Go p e below s ((Q_nf_1 Z h0 n0)) (rO 1 1 2 12).cells (rO 1 1 2 12).slots (s₁.setTop (entryFrame m #[(.int p0)] 1))
  rw [ef_23 m p0]
  subst h1
  refine Go.st (S' := s₁.setTop (mkF m 1 #[vi 1] [.int 1])) (fun _ kk => XS.iloadN X0.here hx rfl (hb hby d23_0) rfl kk) ?_
  obtain ⟨_, _, ⟨T1, L1, k1, n1⟩, -, X1, ⟨Lc1, hQ1, l1, y1, z1⟩, st1⟩ := Jvm.LawKit.callS X0 hx (y := mN25) hown (mvT hZ (ow hw 102 rfl)) (mvT hZ (ow hw 103 rfl)) (mvT hZ (ow hw 44 rfl)) (mvT hZ (ow hw 104 rfl)) (by decide) (backOf (W := 0) (rmNL l Z az hw [] (1 : Int32) h0 n0 Z0 (by decide) (by decide)) hZ (ow hw 104 rfl) (ow hw 44 rfl) (by decide) (by decide)) (g := (mkF m 1 #[vi 1] [.int 1])) rfl (by rw [hml]; rfl) (argsL := [.int 1]) (rest := []) (lenOf pd_18 rfl) rfl (oW rfl rfl) (hb hby d23_1) (fun _ _ => ⟨rfl, e0, (by decide : 0 + 0 ≤ _), (by decide : 0 + 0 ≤ _)⟩)
  dsimp only [Pt.U, Pt.locs, Pt.cells, Pt.slots] at X1 l1 y1 z1 st1 hQ1
  subst l1 y1 z1
  obtain ⟨hv1, N1q, e1⟩ := hQ1
  subst hv1
  have N1 := Fr.app N0 N1q
  refine Go.st (S' := T1.setTop (mkF m 4 #[vi 1] [.int ((1 : Int32) <<< ((1 : Int32) &&& 31))])) st1 ?_
  rw [show ((1 : Int32) <<< ((1 : Int32) &&& 31)) = (2 : Int32) from by decide]
  obtain ⟨T2, h2, k2, X2, e2, E2, A2, E_b2, st2⟩ := newPE X1 hx hZ (ow hw 20 rfl) e1 (g := (mkF m 4 #[vi 1] [.int 2])) rfl (hb hby d23_4) rfl (by decide) (cap := 2) (by decide) (by decide) (by decide : 0 + 1 ≤ _) (by decide : 0 + 2 ≤ _) (ad := "[B") rfl
  obtain ⟨b2, g2⟩ : ∃ z, z = h0.size := ⟨_, rfl⟩
  rw [← g2] at A2 E_b2 st2
  have g_b2 : n0 ≤ b2 := Nat.le_trans Z0 (Nat.le_of_eq g2.symm)
  have sz_b2 : h0.size ≤ b2 := Nat.le_trans (Keep.refl h0 []).1 (Nat.le_of_eq g2.symm)
  have Zs3 := Nat.le_trans Z0 E2.1
  have Kp4 := (Keep.refl h0 []).ext E2
  have V_b2 : Arv Z h2 b2 k2 .byte (2 : Int32) [(.int 0), (.int 0)] (.int 0) := (Arv.new A2 (by decide)).pad (pad_rep [] (.int 0) 2)
  refine Go.st (S' := T2.setTop (mkF m 6 #[vi 1] [.ref b2])) st2 ?_
  exact Go.retA X2 hx hlk Bd.returns rfl rfl (hb hby d23_6) (by rw [e2]; exact ⟨_, _, rfl, N1, Kp4, V_b2, E_b2, sz_b2⟩) (by decide) (by decide)
def Q_pc_1_0 (Z : State) (a0 : Addr) (k0 : ClassId) (p2 : Int32) (eb1 : Int32) (eb2 : Int32) (h0 : Heap) (n0 : Nat) (v : Option Value) (h : Heap) (L : List Loc) : Prop := v = none ∧ Fr n0 L ∧ Keep h0 h [a0] ∧ Arv Z h a0 k0 .byte (2 : Int32) [(.int (((p2 >>> ((0 : Int32) &&& 31)).toInt8.toInt32).toInt8.toInt32)), (.int (((p2 >>> ((8 : Int32) &&& 31)).toInt8.toInt32).toInt8.toInt32))] (.int 0)
theorem d25_0 : decode jdk_52_method_4_code 0 = .ok (.getstatic 44, 3) := by decide +kernel
theorem d25_3 : decode jdk_52_method_4_code 3 = .ok (.ifCond .ne 25, 3) := by decide +kernel
theorem d25_28 : decode jdk_52_method_4_code 28 = .ok (.iload_n 1, 1) := by decide +kernel
theorem d25_29 : decode jdk_52_method_4_code 29 = .ok (.iconst 1, 1) := by decide +kernel
theorem d25_30 : decode jdk_52_method_4_code 30 = .ok (.ishl, 1) := by decide +kernel
theorem d25_31 : decode jdk_52_method_4_code 31 = .ok (.istore_n 1, 1) := by decide +kernel
theorem d25_32 : decode jdk_52_method_4_code 32 = .ok (.aload_n 0, 1) := by decide +kernel
theorem d25_33 : decode jdk_52_method_4_code 33 = .ok (.iload_n 1, 1) := by decide +kernel
theorem d25_34 : decode jdk_52_method_4_code 34 = .ok (.iinc 1 1, 3) := by decide +kernel
theorem d25_37 : decode jdk_52_method_4_code 37 = .ok (.iload_n 2, 1) := by decide +kernel
theorem d25_38 : decode jdk_52_method_4_code 38 = .ok (.getstatic 59, 3) := by decide +kernel
theorem d25_41 : decode jdk_52_method_4_code 41 = .ok (.ishr, 1) := by decide +kernel
theorem d25_42 : decode jdk_52_method_4_code 42 = .ok (.i2b, 1) := by decide +kernel
theorem d25_43 : decode jdk_52_method_4_code 43 = .ok (.bastore, 1) := by decide +kernel
theorem d25_44 : decode jdk_52_method_4_code 44 = .ok (.aload_n 0, 1) := by decide +kernel
theorem d25_45 : decode jdk_52_method_4_code 45 = .ok (.iload_n 1, 1) := by decide +kernel
theorem d25_46 : decode jdk_52_method_4_code 46 = .ok (.iload_n 2, 1) := by decide +kernel
theorem d25_47 : decode jdk_52_method_4_code 47 = .ok (.getstatic 63, 3) := by decide +kernel
theorem d25_50 : decode jdk_52_method_4_code 50 = .ok (.ishr, 1) := by decide +kernel
theorem d25_51 : decode jdk_52_method_4_code 51 = .ok (.i2b, 1) := by decide +kernel
theorem d25_52 : decode jdk_52_method_4_code 52 = .ok (.bastore, 1) := by decide +kernel
theorem d25_53 : decode jdk_52_method_4_code 53 = .ok (.return_, 1) := by decide +kernel
theorem ef_25 (m : MethodId) (a0 : Addr) (p1 : Int32) (p2 : Int32) : entryFrame m #[(.ref a0), (.int p1), (.int p2)] 3 = mkF m 0 #[.val (.ref a0), .val (.int p1), .val (.int p2)] [] := by first | (simp [entryFrame, mkF, argsToLocals, Value.category]; done) | rfl
theorem rmPC_1_0 (l : Launch) (Z : State) (az : Array Value) (hw : HW az Z) (ws : List Jvm.Cond) (a0 : Addr) (p1 : Int32) (p2 : Int32) (zc : Int32) (fm : Value) (k0 : ClassId) (eb1 : Int32) (eb2 : Int32) (h0 : Heap) (n0 : Nat) (Z0 : n0 ≤ h0.size) (S_C : tS0 Z h0 (.int zc)) (hzc : ¬ zc = 0) (S_F : tS1 Z h0 fm) (hfm : fm.isRef = true) (S_A : tS2 Z h0 (.int 1)) (S_H : tS3 Z h0 (.int 0)) (S_L : tS4 Z h0 (.int 8)) (V_a0 : Arv Z h0 a0 k0 .byte (2 : Int32) [(.int eb1), (.int eb2)] (.int 0)) (E_a0 : Exa Z h0 a0 "[B") (g_a0 : n0 ≤ a0) (h1 : p1 = (0 : Int32)) :
    MF l mN26 (Jvm.Cond.code mN26 jdk_52_method_4_code 3 none :: ws) (rO 0 0 0 0) #[(.ref a0), (.int p1), (.int p2)] Z h0 (Q_pc_1_0 Z a0 k0 p2 eb1 eb2 h0 n0) := by
  refine MetFree.of_bodySF (plainFor_of_name pn_3) hisR ?_
  intro p e s m args below meth c s₁ Bd hml0 hP hK
  obtain ⟨rfl, hZ, hh⟩ := hP
  have hx := Bd.exec
  have hby := Bd.bytes
  have hlk : meth.locks = false := Bd.notSynchronized
  have hml : c.maxLocals = 3 := hml0
  have hown : s.vm.findClass "java/lang/StringUTF16" = some m.cls := findClass_of_methodNamed Bd.named
  have X0 : Stand p l e (rO 0 0 0 0) s m #[(.ref a0), (.int p1), (.int p2)] below meth c s₁ [] 0 0 := Stand.of_body Bd
  have e0 : s₁.heap = h0 := by rw [← hh, Bd.state]; rfl
  have N0 := Fr.nil n0
  show Go p e below s ((Q_pc_1_0 Z a0 k0 p2 eb1 eb2 h0 n0)) (rO 0 0 0 0).cells (rO 0 0 0 0).slots (s₁.setTop (entryFrame m #[(.ref a0), (.int p1), (.int p2)] 3))
  rw [ef_25 m a0 p1 p2]
  subst h1
  obtain ⟨T1, X1, e1, st1⟩ := getS2 X0 hx hZ hown (host := "") (Or.inl (ow hw 109 rfl)) Via.refl e0 S_A (g := (mkF m 0 #[vr a0, vi 0, vi p2] [])) rfl (hb hby d25_0)
  refine Go.st (S' := T1.setTop (mkF m 31 #[vr a0, vi 0, vi p2] [.int ((0 : Int32) <<< ((1 : Int32) &&& 31))])) (fun _ kk => st1 _ (XS.ifYes X1.here hx rfl (pc0 := 3) (pc' := 28) rfl (hb hby d25_3) rfl ((if0 _ _).trans (feq (by decide : ¬ ((1 : Int32) = (0 : Int32)))).2) (by decide) (by decide) (XS.iloadN X1.here hx rfl (hb hby d25_28) rfl (XS.iconst X1.here hx rfl (hb hby d25_29) (XS.ishl X1.here hx rfl (hb hby d25_30) rfl kk))))) ?_
  rw [show ((0 : Int32) <<< ((1 : Int32) &&& 31)) = (0 : Int32) from by decide]
  refine Go.st (S' := T1.setTop (mkF m 38 #[vr a0, vi 1, vi p2] [.int p2, .int 0, .ref a0])) (fun _ kk => XS.istoreN X1.here hx rfl (hb hby d25_31) rfl (l' := #[vr a0, vi 0, vi p2]) rfl (XS.aloadN X1.here hx rfl (hb hby d25_32) rfl rfl (XS.iloadN X1.here hx rfl (hb hby d25_33) rfl (XS.iinc X1.here hx rfl (hb hby d25_34) rfl (l' := #[vr a0, vi 1, vi p2]) rfl (XS.iloadN X1.here hx rfl (hb hby d25_37) rfl kk))))) ?_
  obtain ⟨T2, X2, e2, st2⟩ := getS2 X1 hx hZ hown (host := "") (Or.inl (ow hw 110 rfl)) Via.refl e1 S_H (g := (mkF m 38 #[vr a0, vi 1, vi p2] [.int p2, .int 0, .ref a0])) rfl (hb hby d25_38)
  refine Go.st (S' := T2.setTop (mkF m 43 #[vr a0, vi 1, vi p2] [.int ((p2 >>> ((0 : Int32) &&& 31)).toInt8.toInt32), .int 0, .ref a0])) (fun _ kk => st2 _ (XS.ishr X2.here hx rfl (hb hby d25_41) rfl (XS.i2b X2.here hx rfl (hb hby d25_42) rfl kk))) ?_
  obtain ⟨cl3, Ar3, qk3, S3, Ng3, H3, G3⟩ := (id V_a0)
  have hin3 : ¬ ((0 : Int32) < 0 ∨ cl3.slots.size ≤ ((0 : Int32)).toNatClampNeg) := inb_of S3 ⟨by decide, by decide⟩
  obtain ⟨T3, h3, X3, e3, W3, st3⟩ := stB X2 hx hZ e2 Ar3 (j := (0 : Int32)) hin3 (g := (mkF m 43 #[vr a0, vi 1, vi p2] [.int ((p2 >>> ((0 : Int32) &&& 31)).toInt8.toInt32), .int 0, .ref a0])) rfl rfl (hb hby d25_43)
  have V_a0 : Arv Z h3 a0 k0 .byte (2 : Int32) [(.int (((p2 >>> ((0 : Int32) &&& 31)).toInt8.toInt32).toInt8.toInt32)), (.int eb2)] (.int 0) := Arv.set Ar3 qk3 S3 Ng3 H3 G3 (fits_nar_byte _) W3 0 rfl (Nat.le_of_ble_eq_true rfl)
  have N3 := Fr.snoc X3 N0 g_a0
  have S_C := S_C.wr W3
  have S_F := S_F.wr W3
  have S_A := S_A.wr W3
  have S_H := S_H.wr W3
  have S_L := S_L.wr W3
  have E_a0 := E_a0.wr W3
  have Zs4 := Nat.le_trans Z0 (Keep.of_wr W3).1
  have Kp5 := (Keep.refl h0 [a0]).wr W3 (Or.inl (List.mem_of_getElem? (i := 0) rfl))
  refine Go.st (S' := T3.setTop (mkF m 47 #[vr a0, vi 1, vi p2] [.int p2, .int 1, .ref a0])) (fun _ kk => st3 _ (XS.aloadN X3.here hx rfl (hb hby d25_44) rfl rfl (XS.iloadN X3.here hx rfl (hb hby d25_45) rfl (XS.iloadN X3.here hx rfl (hb hby d25_46) rfl kk)))) ?_
  obtain ⟨T6, X6, e6, st6⟩ := getS2 X3 hx hZ hown (host := "") (Or.inl (ow hw 111 rfl)) Via.refl e3 S_L (g := (mkF m 47 #[vr a0, vi 1, vi p2] [.int p2, .int 1, .ref a0])) rfl (hb hby d25_47)
  refine Go.st (S' := T6.setTop (mkF m 52 #[vr a0, vi 1, vi p2] [.int ((p2 >>> ((8 : Int32) &&& 31)).toInt8.toInt32), .int 1, .ref a0])) (fun _ kk => st6 _ (XS.ishr X6.here hx rfl (hb hby d25_50) rfl (XS.i2b X6.here hx rfl (hb hby d25_51) rfl kk))) ?_
  obtain ⟨cl7, Ar7, qk7, S7, Ng7, H7, G7⟩ := (id V_a0)
  have hin7 : ¬ ((1 : Int32) < 0 ∨ cl7.slots.size ≤ ((1 : Int32)).toNatClampNeg) := inb_of S7 ⟨by decide, by decide⟩
  obtain ⟨T7, h7, X7, e7, W7, st7⟩ := stB X6 hx hZ e6 Ar7 (j := (1 : Int32)) hin7 (g := (mkF m 52 #[vr a0, vi 1, vi p2] [.int ((p2 >>> ((8 : Int32) &&& 31)).toInt8.toInt32), .int 1, .ref a0])) rfl rfl (hb hby d25_52)
  have V_a0 : Arv Z h7 a0 k0 .byte (2 : Int32) [(.int (((p2 >>> ((0 : Int32) &&& 31)).toInt8.toInt32).toInt8.toInt32)), (.int (((p2 >>> ((8 : Int32) &&& 31)).toInt8.toInt32).toInt8.toInt32))] (.int 0) := Arv.set Ar7 qk7 S7 Ng7 H7 G7 (fits_nar_byte _) W7 1 rfl (Nat.le_of_ble_eq_true rfl)
  have N7 := Fr.snoc X7 N3 g_a0
  have S_C := S_C.wr W7
  have S_F := S_F.wr W7
  have S_A := S_A.wr W7
  have S_H := S_H.wr W7
  have S_L := S_L.wr W7
  have E_a0 := E_a0.wr W7
  have Zs8 := Nat.le_trans Zs4 (Keep.of_wr W7).1
  have Kp9 := Kp5.wr W7 (Or.inl (List.mem_of_getElem? (i := 0) rfl))
  refine Go.st (S' := T7.setTop (mkF m 53 #[vr a0, vi 1, vi p2] [])) st7 ?_
  exact Go.ret0 X7 hx hlk Bd.returns (hb hby d25_53) (by rw [e7]; exact ⟨rfl, N7, Kp9, V_a0⟩) (by decide) (by decide)
def Q_tb_1 (Z : State) (c1 : Int32) (h0 : Heap) (n0 : Nat) (v : Option Value) (h : Heap) (L : List Loc) : Prop := ∃ (b : Addr) (k : ClassId), v = some (.ref b) ∧ Fr n0 L ∧ Keep h0 h [] ∧ Arv Z h b k .byte (2 : Int32) [(.int (((c1 >>> ((0 : Int32) &&& 31)).toInt8.toInt32).toInt8.toInt32)), (.int (((c1 >>> ((8 : Int32) &&& 31)).toInt8.toInt32).toInt8.toInt32))] (.int 0) ∧ Exa Z h b "[B" ∧ h0.size ≤ b
theorem d22_0 : decode jdk_52_method_14_code 0 = .ok (.iload_n 2, 1) := by decide +kernel
theorem d22_1 : decode jdk_52_method_14_code 1 = .ok (.invokestatic 107, 3) := by decide +kernel
theorem d22_4 : decode jdk_52_method_14_code 4 = .ok (.astore_n 3, 1) := by decide +kernel
theorem d22_5 : decode jdk_52_method_14_code 5 = .ok (.iconst 0, 1) := by decide +kernel
theorem d22_6 : decode jdk_52_method_14_code 6 = .ok (.istore 4, 2) := by decide +kernel
theorem d22_8 : decode jdk_52_method_14_code 8 = .ok (.iload 4, 2) := by decide +kernel
theorem d22_10 : decode jdk_52_method_14_code 10 = .ok (.iload_n 2, 1) := by decide +kernel
theorem d22_11 : decode jdk_52_method_14_code 11 = .ok (.if_icmp .ge 21, 3) := by decide +kernel
theorem d22_14 : decode jdk_52_method_14_code 14 = .ok (.aload_n 3, 1) := by decide +kernel
theorem d22_15 : decode jdk_52_method_14_code 15 = .ok (.iload 4, 2) := by decide +kernel
theorem d22_17 : decode jdk_52_method_14_code 17 = .ok (.aload_n 0, 1) := by decide +kernel
theorem d22_18 : decode jdk_52_method_14_code 18 = .ok (.iload_n 1, 1) := by decide +kernel
theorem d22_19 : decode jdk_52_method_14_code 19 = .ok (.caload, 1) := by decide +kernel
theorem d22_20 : decode jdk_52_method_14_code 20 = .ok (.invokestatic 111, 3) := by decide +kernel
theorem d22_23 : decode jdk_52_method_14_code 23 = .ok (.iinc 1 1, 3) := by decide +kernel
theorem d22_26 : decode jdk_52_method_14_code 26 = .ok (.iinc 4 1, 3) := by decide +kernel
theorem d22_29 : decode jdk_52_method_14_code 29 = .ok (.goto (-21), 3) := by decide +kernel
theorem d22_32 : decode jdk_52_method_14_code 32 = .ok (.aload_n 3, 1) := by decide +kernel
theorem d22_33 : decode jdk_52_method_14_code 33 = .ok (.areturn, 1) := by decide +kernel
theorem ef_22 (m : MethodId) (a0 : Addr) (p1 : Int32) (p2 : Int32) : entryFrame m #[(.ref a0), (.int p1), (.int p2)] 5 = mkF m 0 #[.val (.ref a0), .val (.int p1), .val (.int p2), .unset, .unset] [] := by first | (simp [entryFrame, mkF, argsToLocals, Value.category]; done) | rfl
theorem rmTB_1 (l : Launch) (Z : State) (az : Array Value) (hw : HW az Z) (ws : List Jvm.Cond) (a0 : Addr) (p1 : Int32) (p2 : Int32) (zc : Int32) (fm : Value) (k0 : ClassId) (c1 : Int32) (h0 : Heap) (n0 : Nat) (Z0 : n0 ≤ h0.size) (S_C : tS0 Z h0 (.int zc)) (hzc : ¬ zc = 0) (S_F : tS1 Z h0 fm) (hfm : fm.isRef = true) (S_A : tS2 Z h0 (.int 1)) (S_H : tS3 Z h0 (.int 0)) (S_L : tS4 Z h0 (.int 8)) (V_a0 : Arv Z h0 a0 k0 .char (1 : Int32) [(.int c1)] (.int 0)) (h1 : p1 = 0) (h2 : p2 = (1 : Int32)) :
    MF l mN27 (Jvm.Cond.code mN27 jdk_52_method_14_code 5 (some (.array .byte)) :: ws) (rO 2 1 2 24) #[(.ref a0), (.int p1), (.int p2)] Z h0 (Q_tb_1 Z c1 h0 n0) := by
  refine MetFree.of_bodySF (plainFor_of_name pn_3) hisR ?_
  intro p e s m args below meth c s₁ Bd hml0 hP hK
  obtain ⟨rfl, hZ, hh⟩ := hP
  have hx := Bd.exec
  have hby := Bd.bytes
  have hlk : meth.locks = false := Bd.notSynchronized
  have hml : c.maxLocals = 5 := hml0
  have hown : s.vm.findClass "java/lang/StringUTF16" = some m.cls := findClass_of_methodNamed Bd.named
  have X0 : Stand p l e (rO 2 1 2 24) s m #[(.ref a0), (.int p1), (.int p2)] below meth c s₁ [] 0 0 := Stand.of_body Bd
  have e0 : s₁.heap = h0 := by rw [← hh, Bd.state]; rfl
  have N0 := Fr.nil n0
  show Go p e below s ((Q_tb_1 Z c1 h0 n0)) (rO 2 1 2 24).cells (rO 2 1 2 24).slots (s₁.setTop (entryFrame m #[(.ref a0), (.int p1), (.int p2)] 5))
  rw [ef_22 m a0 p1 p2]
  subst h1 h2
  refine Go.st (S' := s₁.setTop (mkF m 1 #[vr a0, vi 0, vi 1, .unset, .unset] [.int 1])) (fun _ kk => XS.iloadN X0.here hx rfl (hb hby d22_0) rfl kk) ?_
  obtain ⟨_, _, ⟨T1, L1, k1, n1⟩, -, X1, ⟨Lc1, hQ1, l1, y1, z1⟩, st1⟩ := Jvm.LawKit.callS X0 hx (y := mN24) hown (mvT hZ (ow hw 99 rfl)) (mvT hZ (ow hw 100 rfl)) (mvT hZ (ow hw 44 rfl)) (mvT hZ (ow hw 101 rfl)) (by decide) (backOf (W := 0) (rmNF_1 l Z az hw [] (1 : Int32) h0 n0 Z0 rfl) hZ (ow hw 101 rfl) (ow hw 44 rfl) (by decide) (by decide)) (g := (mkF m 1 #[vr a0, vi 0, vi 1, .unset, .unset] [.int 1])) rfl (by rw [hml]; rfl) (argsL := [.int 1]) (rest := []) (lenOf pd_17 rfl) rfl (oW rfl rfl) (hb hby d22_1) (fun _ _ => ⟨rfl, e0, (by decide : 0 + 1 ≤ _), (by decide : 0 + 2 ≤ _)⟩)
  dsimp only [Pt.U, Pt.locs, Pt.cells, Pt.slots] at X1 l1 y1 z1 st1 hQ1
  subst l1 y1 z1
  obtain ⟨b1, kb1, rfl, N1q, K1, V_b1, E_b1, gb1⟩ := hQ1
  have Ex1 := own_extK K1
  have N1 := Fr.app N0 N1q
  have ne_a0_b1 : a0 ≠ b1 := Nat.ne_of_lt (Nat.lt_of_lt_of_le V_a0.lt gb1)
  have g_b1 : n0 ≤ b1 := Nat.le_trans Z0 gb1
  have sz_b1 : h0.size ≤ b1 := Nat.le_trans (Keep.refl h0 []).1 gb1
  have S_C := S_C.ext Ex1
  have S_F := S_F.ext Ex1
  have S_A := S_A.ext Ex1
  have S_H := S_H.ext Ex1
  have S_L := S_L.ext Ex1
  have V_a0 := V_a0.ext Ex1
  have Zs2 := Nat.le_trans Z0 Ex1.1
  have Kp3 := (Keep.refl h0 []).ext Ex1
  refine Go.st (S' := T1.setTop (mkF m 19 #[vr a0, vi 0, vi 1, vr b1, vi 0] [.int 0, .ref a0, .int 0, .ref b1])) (fun _ kk => st1 _ (XS.astoreN X1.here hx rfl (hb hby d22_4) rfl rfl (l' := #[vr a0, vi 0, vi 1, vr b1, .unset]) rfl (XS.iconst X1.here hx rfl (hb hby d22_5) (XS.istore X1.here hx rfl (hb hby d22_6) rfl (l' := #[vr a0, vi 0, vi 1, vr b1, vi 0]) rfl (XS.iload X1.here hx rfl (hb hby d22_8) rfl (XS.iloadN X1.here hx rfl (hb hby d22_10) rfl (XS.icmpNo X1.here hx rfl (hb hby d22_11) rfl (tlt (by decide : (0 : Int32) < (1 : Int32))).2.1 (XS.aloadN X1.here hx rfl (hb hby d22_14) rfl rfl (XS.iload X1.here hx rfl (hb hby d22_15) rfl (XS.aloadN X1.here hx rfl (hb hby d22_17) rfl rfl (XS.iloadN X1.here hx rfl (hb hby d22_18) rfl kk))))))))))) ?_
  obtain ⟨cl4, Ar4, qk4, S4, Ng4, H4, G4⟩ := (id V_a0)
  have hin4 : ¬ ((0 : Int32) < 0 ∨ cl4.slots.size ≤ ((0 : Int32)).toNatClampNeg) := inb_of S4 ⟨by decide, by decide⟩
  have hat4 : cl4.slots[((0 : Int32)).toNatClampNeg]? = some (.int c1) := Has.at H4 hin4 rfl
  refine Go.st (S' := T1.setTop (mkF m 20 #[vr a0, vi 0, vi 1, vr b1, vi 0] [.int c1, .int 0, .ref b1])) (fun _ kk => X1.caload hx (j := (0 : Int32)) (v := (.int c1)) Ar4.1 (State.isArrayOf_alike hZ.alike Ar4.2.1) Ar4.2.2 hin4 hat4 (g := (mkF m 19 #[vr a0, vi 0, vi 1, vr b1, vi 0] [.int 0, .ref a0, .int 0, .ref b1])) rfl rfl (hb hby d22_19) _ kk) ?_
  obtain ⟨_, _, ⟨T5, L5, k5, n5⟩, -, X5, ⟨Lc5, hQ5, l5, y5, z5⟩, st5⟩ := Jvm.LawKit.callS X1 hx (y := mN26) hown (mvT hZ (ow hw 106 rfl)) (mvT hZ (ow hw 107 rfl)) (mvT hZ (ow hw 44 rfl)) (mvT hZ (ow hw 108 rfl)) (by decide) (backOf (W := 0) (rmPC_1_0 l Z az hw [] b1 (0 : Int32) c1 zc fm kb1 (0 : Int32) (0 : Int32) T1.heap n0 Zs2 S_C hzc S_F hfm S_A S_H S_L V_b1 E_b1 g_b1 rfl) hZ (ow hw 108 rfl) (ow hw 44 rfl) (by decide) (by decide)) (g := (mkF m 20 #[vr a0, vi 0, vi 1, vr b1, vi 0] [.int c1, .int 0, .ref b1])) rfl (by rw [hml]; rfl) (argsL := [.ref b1, .int 0, .int c1]) (rest := []) (lenOf pd_19 rfl) rfl (oW rfl rfl) (hb hby d22_20) (fun _ _ => ⟨rfl, rfl, (by decide : 1 + 0 ≤ _), (by decide : 2 + 0 ≤ _)⟩)
  dsimp only [Pt.U, Pt.locs, Pt.cells, Pt.slots] at X5 l5 y5 z5 st5 hQ5
  subst l5 y5 z5
  obtain ⟨rfl, N5q, K5, Va5⟩ := hQ5
  have N5 := Fr.app N1 N5q
  have S_C := own_stak K5 (allS (P := fun x => ∀ cell : Cell, (T1.heap)[x]? = some cell → cell.vm.isStatics = false) (Exa.nostat E_b1) all0) S_C
  have S_F := own_stak K5 (allS (P := fun x => ∀ cell : Cell, (T1.heap)[x]? = some cell → cell.vm.isStatics = false) (Exa.nostat E_b1) all0) S_F
  have S_A := own_stak K5 (allS (P := fun x => ∀ cell : Cell, (T1.heap)[x]? = some cell → cell.vm.isStatics = false) (Exa.nostat E_b1) all0) S_A
  have S_H := own_stak K5 (allS (P := fun x => ∀ cell : Cell, (T1.heap)[x]? = some cell → cell.vm.isStatics = false) (Exa.nostat E_b1) all0) S_H
  have S_L := own_stak K5 (allS (P := fun x => ∀ cell : Cell, (T1.heap)[x]? = some cell → cell.vm.isStatics = false) (Exa.nostat E_b1) all0) S_L
  have V_a0 := V_a0.keep K5 (ninS ne_a0_b1 nin0)
  have E_b1 := E_b1.keep K5
  have Zs6 := Nat.le_trans Zs2 K5.1
  have Kp7 := Kp3.trans K5 (allS (Or.inr sz_b1) all0)
  refine Go.st (S' := T5.setTop (mkF m 33 #[vr a0, vi 1, vi 1, vr b1, vi 1] [.ref b1])) (fun _ kk => st5 _ (XS.iinc X5.here hx rfl (hb hby d22_23) rfl (l' := #[vr a0, vi 1, vi 1, vr b1, vi 0]) rfl (XS.iinc X5.here hx rfl (hb hby d22_26) rfl (l' := #[vr a0, vi 1, vi 1, vr b1, vi 1]) rfl (XS.goto X5.here hx rfl (pc0 := 29) (pc' := 8) rfl (hb hby d22_29) (by decide) (by decide) (XS.iload X5.here hx rfl (hb hby d22_8) rfl (XS.iloadN X5.here hx rfl (hb hby d22_10) rfl (XS.icmpYes X5.here hx rfl (pc0 := 11) (pc' := 32) rfl (hb hby d22_11) rfl (flt (by decide : ¬ ((1 : Int32) < (1 : Int32)))).2.1 (by decide) (by decide) (XS.aloadN X5.here hx rfl (hb hby d22_32) rfl rfl kk)))))))) ?_
  exact Go.retA X5 hx hlk Bd.returns rfl rfl (hb hby d22_33) (by exact ⟨_, _, rfl, N5, Kp7, Va5, E_b1, sz_b1⟩) (by decide) (by decide)
def Q_c5_1_0 (Z : State) (a2 : Addr) (k2 : ClassId) (c1 : Int32) (h0 : Heap) (n0 : Nat) (v : Option Value) (h : Heap) (L : List Loc) : Prop := v = some (.int 0) ∧ Fr n0 L ∧ Keep h0 h [a2] ∧ Arv Z h a2 k2 .byte (1 : Int32) [(.int 0)] (.int 0)
theorem d9_0 : decode jdk_52_method_21_code 0 = .ok (.iconst 0, 1) := by decide +kernel
theorem d9_1 : decode jdk_52_method_21_code 1 = .ok (.istore 5, 2) := by decide +kernel
theorem d9_3 : decode jdk_52_method_21_code 3 = .ok (.iload 5, 2) := by decide +kernel
theorem d9_5 : decode jdk_52_method_21_code 5 = .ok (.iload 4, 2) := by decide +kernel
theorem d9_7 : decode jdk_52_method_21_code 7 = .ok (.if_icmp .ge 37, 3) := by decide +kernel
theorem d9_10 : decode jdk_52_method_21_code 10 = .ok (.aload_n 0, 1) := by decide +kernel
theorem d9_11 : decode jdk_52_method_21_code 11 = .ok (.iload_n 1, 1) := by decide +kernel
theorem d9_12 : decode jdk_52_method_21_code 12 = .ok (.caload, 1) := by decide +kernel
theorem d9_13 : decode jdk_52_method_21_code 13 = .ok (.istore 6, 2) := by decide +kernel
theorem d9_15 : decode jdk_52_method_21_code 15 = .ok (.iload 6, 2) := by decide +kernel
theorem d9_17 : decode jdk_52_method_21_code 17 = .ok (.sipush 255, 3) := by decide +kernel
theorem d9_20 : decode jdk_52_method_21_code 20 = .ok (.if_icmp .le 6, 3) := by decide +kernel
theorem d9_23 : decode jdk_52_method_21_code 23 = .ok (.iload 5, 2) := by decide +kernel
theorem d9_25 : decode jdk_52_method_21_code 25 = .ok (.ireturn, 1) := by decide +kernel
theorem d9_26 : decode jdk_52_method_21_code 26 = .ok (.aload_n 2, 1) := by decide +kernel
theorem d9_27 : decode jdk_52_method_21_code 27 = .ok (.iload_n 3, 1) := by decide +kernel
theorem d9_28 : decode jdk_52_method_21_code 28 = .ok (.iload 6, 2) := by decide +kernel
theorem d9_30 : decode jdk_52_method_21_code 30 = .ok (.i2b, 1) := by decide +kernel
theorem d9_31 : decode jdk_52_method_21_code 31 = .ok (.bastore, 1) := by decide +kernel
theorem d9_32 : decode jdk_52_method_21_code 32 = .ok (.iinc 1 1, 3) := by decide +kernel
theorem d9_35 : decode jdk_52_method_21_code 35 = .ok (.iinc 3 1, 3) := by decide +kernel
theorem d9_38 : decode jdk_52_method_21_code 38 = .ok (.iinc 5 1, 3) := by decide +kernel
theorem d9_41 : decode jdk_52_method_21_code 41 = .ok (.goto (-38), 3) := by decide +kernel
theorem d9_44 : decode jdk_52_method_21_code 44 = .ok (.iload 4, 2) := by decide +kernel
theorem d9_46 : decode jdk_52_method_21_code 46 = .ok (.ireturn, 1) := by decide +kernel
theorem ef_9 (m : MethodId) (a0 : Addr) (p1 : Int32) (a2 : Addr) (p3 : Int32) (p4 : Int32) : entryFrame m #[(.ref a0), (.int p1), (.ref a2), (.int p3), (.int p4)] 7 = mkF m 0 #[.val (.ref a0), .val (.int p1), .val (.ref a2), .val (.int p3), .val (.int p4), .unset, .unset] [] := by first | (simp [entryFrame, mkF, argsToLocals, Value.category]; done) | rfl
theorem rmC5_1_0 (l : Launch) (Z : State) (az : Array Value) (hw : HW az Z) (ws : List Jvm.Cond) (a0 : Addr) (p1 : Int32) (a2 : Addr) (p3 : Int32) (p4 : Int32) (k0 k2 : ClassId) (c1 : Int32) (h0 : Heap) (n0 : Nat) (Z0 : n0 ≤ h0.size) (V_a0 : Arv Z h0 a0 k0 .char (1 : Int32) [(.int c1)] (.int 0)) (V_a2 : Arv Z h0 a2 k2 .byte (1 : Int32) [(.int 0)] (.int 0)) (ne : a0 ≠ a2) (g_a2 : n0 ≤ a2) (h1 : p1 = 0) (h3 : p3 = 0) (h4 : p4 = (1 : Int32))  (u1 : (255 : Int32) < c1) :
    MF l mN21 (Jvm.Cond.code mN21 jdk_52_method_21_code 7 (some .int) :: ws) (rO 0 0 0 0) #[(.ref a0), (.int p1), (.ref a2), (.int p3), (.int p4)] Z h0 (Q_c5_1_0 Z a2 k2 c1 h0 n0) := by
  refine MetFree.of_bodySF (plainFor_of_name pn_3) hisR ?_
  intro p e s m args below meth c s₁ Bd hml0 hP hK
  obtain ⟨rfl, hZ, hh⟩ := hP
  have hx := Bd.exec
  have hby := Bd.bytes
  have hlk : meth.locks = false := Bd.notSynchronized
  have hml : c.maxLocals = 7 := hml0
  have hown : s.vm.findClass "java/lang/StringUTF16" = some m.cls := findClass_of_methodNamed Bd.named
  have X0 : Stand p l e (rO 0 0 0 0) s m #[(.ref a0), (.int p1), (.ref a2), (.int p3), (.int p4)] below meth c s₁ [] 0 0 := Stand.of_body Bd
  have e0 : s₁.heap = h0 := by rw [← hh, Bd.state]; rfl
  have N0 := Fr.nil n0
  show Go p e below s ((Q_c5_1_0 Z a2 k2 c1 h0 n0)) (rO 0 0 0 0).cells (rO 0 0 0 0).slots (s₁.setTop (entryFrame m #[(.ref a0), (.int p1), (.ref a2), (.int p3), (.int p4)] 7))
  rw [ef_9 m a0 p1 a2 p3 p4]
  subst h1 h3 h4
  refine Go.st (S' := s₁.setTop (mkF m 12 #[vr a0, vi 0, vr a2, vi 0, vi 1, vi 0, .unset] [.int 0, .ref a0])) (fun _ kk => XS.iconst X0.here hx rfl (hb hby d9_0) (XS.istore X0.here hx rfl (hb hby d9_1) rfl (l' := #[vr a0, vi 0, vr a2, vi 0, vi 1, vi 0, .unset]) rfl (XS.iload X0.here hx rfl (hb hby d9_3) rfl (XS.iload X0.here hx rfl (hb hby d9_5) rfl (XS.icmpNo X0.here hx rfl (hb hby d9_7) rfl (tlt (by decide : (0 : Int32) < (1 : Int32))).2.1 (XS.aloadN X0.here hx rfl (hb hby d9_10) rfl rfl (XS.iloadN X0.here hx rfl (hb hby d9_11) rfl kk))))))) ?_
  obtain ⟨cl1, Ar1, qk1, S1, Ng1, H1, G1⟩ := (id V_a0)
  have hin1 : ¬ ((0 : Int32) < 0 ∨ cl1.slots.size ≤ ((0 : Int32)).toNatClampNeg) := inb_of S1 ⟨by decide, by decide⟩
  have hat1 : cl1.slots[((0 : Int32)).toNatClampNeg]? = some (.int c1) := Has.at H1 hin1 rfl
  refine Go.st (S' := s₁.setTop (mkF m 25 #[vr a0, vi 0, vr a2, vi 0, vi 1, vi 0, vi c1] [.int 0])) (fun _ kk => X0.caload hx (j := (0 : Int32)) (v := (.int c1)) (by rw [e0]; exact Ar1.1) (State.isArrayOf_alike hZ.alike Ar1.2.1) Ar1.2.2 hin1 hat1 (g := (mkF m 12 #[vr a0, vi 0, vr a2, vi 0, vi 1, vi 0, .unset] [.int 0, .ref a0])) rfl rfl (hb hby d9_12) _ (XS.istore X0.here hx rfl (hb hby d9_13) rfl (l' := #[vr a0, vi 0, vr a2, vi 0, vi 1, vi 0, vi c1]) rfl (XS.iload X0.here hx rfl (hb hby d9_15) rfl (XS.sipush X0.here hx rfl (hb hby d9_17) (XS.icmpNo X0.here hx rfl (hb hby d9_20) rfl (tlt u1).2.2.2 (XS.iload X0.here hx rfl (hb hby d9_23) rfl kk)))))) ?_
  exact Go.retI X0 hx hlk Bd.returns (hb hby d9_25) (by rw [e0]; exact ⟨rfl, N0, (Keep.refl h0 [a2]), V_a2⟩) (by decide) (by decide)
def Q_c3_1_0 (Z : State) (c1 : Int32) (h0 : Heap) (n0 : Nat) (v : Option Value) (h : Heap) (L : List Loc) : Prop := ∃ (b : Addr) (k : ClassId), v = some (.ref b) ∧ Fr n0 L ∧ Keep h0 h [] ∧ Arv Z h b k .byte (2 : Int32) [(.int (((c1 >>> ((0 : Int32) &&& 31)).toInt8.toInt32).toInt8.toInt32)), (.int (((c1 >>> ((8 : Int32) &&& 31)).toInt8.toInt32).toInt8.toInt32))] (.int 0) ∧ Exa Z h b "[B" ∧ h0.size ≤ b
theorem d8_0 : decode jdk_52_method_16_code 0 = .ok (.iload_n 2, 1) := by decide +kernel
theorem d8_1 : decode jdk_52_method_16_code 1 = .ok (.newarray .byte, 2) := by decide +kernel
theorem d8_3 : decode jdk_52_method_16_code 3 = .ok (.astore_n 3, 1) := by decide +kernel
theorem d8_4 : decode jdk_52_method_16_code 4 = .ok (.aload_n 0, 1) := by decide +kernel
theorem d8_5 : decode jdk_52_method_16_code 5 = .ok (.iload_n 1, 1) := by decide +kernel
theorem d8_6 : decode jdk_52_method_16_code 6 = .ok (.aload_n 3, 1) := by decide +kernel
theorem d8_7 : decode jdk_52_method_16_code 7 = .ok (.iconst 0, 1) := by decide +kernel
theorem d8_8 : decode jdk_52_method_16_code 8 = .ok (.iload_n 2, 1) := by decide +kernel
theorem d8_9 : decode jdk_52_method_16_code 9 = .ok (.invokestatic 115, 3) := by decide +kernel
theorem d8_12 : decode jdk_52_method_16_code 12 = .ok (.istore 4, 2) := by decide +kernel
theorem d8_14 : decode jdk_52_method_16_code 14 = .ok (.iload 4, 2) := by decide +kernel
theorem d8_16 : decode jdk_52_method_16_code 16 = .ok (.iload_n 2, 1) := by decide +kernel
theorem d8_17 : decode jdk_52_method_16_code 17 = .ok (.if_icmp .eq 40, 3) := by decide +kernel
theorem d8_20 : decode jdk_52_method_16_code 20 = .ok (.aload_n 0, 1) := by decide +kernel
theorem d8_21 : decode jdk_52_method_16_code 21 = .ok (.iload_n 1, 1) := by decide +kernel
theorem d8_22 : decode jdk_52_method_16_code 22 = .ok (.iload_n 2, 1) := by decide +kernel
theorem d8_23 : decode jdk_52_method_16_code 23 = .ok (.invokestatic 119, 3) := by decide +kernel
theorem d8_26 : decode jdk_52_method_16_code 26 = .ok (.astore 5, 2) := by decide +kernel
theorem d8_28 : decode jdk_52_method_16_code 28 = .ok (.aload 5, 2) := by decide +kernel
theorem d8_30 : decode jdk_52_method_16_code 30 = .ok (.iload 4, 2) := by decide +kernel
theorem d8_32 : decode jdk_52_method_16_code 32 = .ok (.invokestatic 71, 3) := by decide +kernel
theorem d8_35 : decode jdk_52_method_16_code 35 = .ok (.sipush 255, 3) := by decide +kernel
theorem d8_38 : decode jdk_52_method_16_code 38 = .ok (.if_icmp .gt 16, 3) := by decide +kernel
theorem d8_54 : decode jdk_52_method_16_code 54 = .ok (.aload 5, 2) := by decide +kernel
theorem d8_56 : decode jdk_52_method_16_code 56 = .ok (.areturn, 1) := by decide +kernel
theorem d8_57 : decode jdk_52_method_16_code 57 = .ok (.aload_n 3, 1) := by decide +kernel
theorem d8_58 : decode jdk_52_method_16_code 58 = .ok (.areturn, 1) := by decide +kernel
theorem ef_8 (m : MethodId) (a0 : Addr) (p1 : Int32) (p2 : Int32) : entryFrame m #[(.ref a0), (.int p1), (.int p2)] 6 = mkF m 0 #[.val (.ref a0), .val (.int p1), .val (.int p2), .unset, .unset, .unset] [] := by first | (simp [entryFrame, mkF, argsToLocals, Value.category]; done) | rfl
theorem rmC3_1_0 (l : Launch) (Z : State) (az : Array Value) (hw : HW az Z) (ws : List Jvm.Cond) (a0 : Addr) (p1 : Int32) (p2 : Int32) (zc : Int32) (fm : Value) (k0 : ClassId) (c1 : Int32) (h0 : Heap) (n0 : Nat) (Z0 : n0 ≤ h0.size) (S_C : tS0 Z h0 (.int zc)) (hzc : ¬ zc = 0) (S_F : tS1 Z h0 fm) (hfm : fm.isRef = true) (S_A : tS2 Z h0 (.int 1)) (S_H : tS3 Z h0 (.int 0)) (S_L : tS4 Z h0 (.int 8)) (V_a0 : Arv Z h0 a0 k0 .char (1 : Int32) [(.int c1)] (.int 0)) (h1 : p1 = 0) (h2 : p2 = (1 : Int32)) (y1 : 0 ≤ c1.toInt ∧ c1.toInt ≤ 65535)  (u1 : (255 : Int32) < c1) :
    MF l mN20 (Jvm.Cond.code mN20 jdk_52_method_16_code 6 (some (.array .byte)) :: ws) (rO 3 2 3 40) #[(.ref a0), (.int p1), (.int p2)] Z h0 (Q_c3_1_0 Z c1 h0 n0) := by
  refine MetFree.of_bodySF (plainFor_of_name pn_3) hisR ?_
  intro p e s m args below meth c s₁ Bd hml0 hP hK
  obtain ⟨rfl, hZ, hh⟩ := hP
  have hx := Bd.exec
  have hby := Bd.bytes
  have hlk : meth.locks = false := Bd.notSynchronized
  have hml : c.maxLocals = 6 := hml0
  have hown : s.vm.findClass "java/lang/StringUTF16" = some m.cls := findClass_of_methodNamed Bd.named
  have X0 : Stand p l e (rO 3 2 3 40) s m #[(.ref a0), (.int p1), (.int p2)] below meth c s₁ [] 0 0 := Stand.of_body Bd
  have e0 : s₁.heap = h0 := by rw [← hh, Bd.state]; rfl
  have N0 := Fr.nil n0
  show Go p e below s ((Q_c3_1_0 Z c1 h0 n0)) (rO 3 2 3 40).cells (rO 3 2 3 40).slots (s₁.setTop (entryFrame m #[(.ref a0), (.int p1), (.int p2)] 6))
  rw [ef_8 m a0 p1 p2]
  subst h1 h2
  have hix0 : ¬ ((0 : Int32) <<< ((1 : Int32) &&& 31)) < 0 ∧ ((0 : Int32) <<< ((1 : Int32) &&& 31)) < (2 : Int32) := by decide
  have hix1 : ¬ (((0 : Int32) <<< ((1 : Int32) &&& 31)) + (1 : Int32)) < 0 ∧ (((0 : Int32) <<< ((1 : Int32) &&& 31)) + (1 : Int32)) < (2 : Int32) := by decide
  refine Go.st (S' := s₁.setTop (mkF m 1 #[vr a0, vi 0, vi 1, .unset, .unset, .unset] [.int 1])) (fun _ kk => XS.iloadN X0.here hx rfl (hb hby d8_0) rfl kk) ?_
  obtain ⟨T1, h1, k1, X1, e1, E1, A1, E_b1, st1⟩ := newPE X0 hx hZ (ow hw 20 rfl) e0 (g := (mkF m 1 #[vr a0, vi 0, vi 1, .unset, .unset, .unset] [.int 1])) rfl (hb hby d8_1) rfl (by decide) (cap := 1) (by decide) (by decide) (by decide : 0 + 1 ≤ _) (by decide : 0 + 1 ≤ _) (ad := "[B") rfl
  obtain ⟨b1, g1⟩ : ∃ z, z = h0.size := ⟨_, rfl⟩
  rw [← g1] at A1 E_b1 st1
  have ne_a0_b1 : a0 ≠ b1 := Nat.ne_of_lt (Nat.lt_of_lt_of_le V_a0.lt (Nat.le_of_eq g1.symm))
  have g_b1 : n0 ≤ b1 := Nat.le_trans Z0 (Nat.le_of_eq g1.symm)
  have sz_b1 : h0.size ≤ b1 := Nat.le_trans (Keep.refl h0 []).1 (Nat.le_of_eq g1.symm)
  have S_C := S_C.ext E1
  have S_F := S_F.ext E1
  have S_A := S_A.ext E1
  have S_H := S_H.ext E1
  have S_L := S_L.ext E1
  have V_a0 := V_a0.ext E1
  have Zs2 := Nat.le_trans Z0 E1.1
  have Kp3 := (Keep.refl h0 []).ext E1
  have V_b1 : Arv Z h1 b1 k1 .byte (1 : Int32) [(.int 0)] (.int 0) := (Arv.new A1 (by decide)).pad (pad_rep [] (.int 0) 1)
  refine Go.st (S' := T1.setTop (mkF m 9 #[vr a0, vi 0, vi 1, vr b1, .unset, .unset] [.int 1, .int 0, .ref b1, .int 0, .ref a0])) (fun _ kk => st1 _ (XS.astoreN X1.here hx rfl (hb hby d8_3) rfl rfl (l' := #[vr a0, vi 0, vi 1, vr b1, .unset, .unset]) rfl (XS.aloadN X1.here hx rfl (hb hby d8_4) rfl rfl (XS.iloadN X1.here hx rfl (hb hby d8_5) rfl (XS.aloadN X1.here hx rfl (hb hby d8_6) rfl rfl (XS.iconst X1.here hx rfl (hb hby d8_7) (XS.iloadN X1.here hx rfl (hb hby d8_8) rfl kk))))))) ?_
  obtain ⟨_, _, ⟨T4, L4, k4, n4⟩, -, X4, ⟨Lc4, hQ4, l4, y4, z4⟩, st4⟩ := Jvm.LawKit.callS X1 hx (y := mN21) hown (mvT hZ (ow hw 46 rfl)) (mvT hZ (ow hw 47 rfl)) (mvT hZ (ow hw 44 rfl)) (mvT hZ (ow hw 48 rfl)) (by decide) (backOf (W := 0) (rmC5_1_0 l Z az hw [] a0 (0 : Int32) b1 (0 : Int32) (1 : Int32) k0 k1 c1 h1 n0 Zs2 V_a0 V_b1 ne_a0_b1 g_b1 rfl rfl rfl u1) hZ (ow hw 48 rfl) (ow hw 44 rfl) (by decide) (by decide)) (g := (mkF m 9 #[vr a0, vi 0, vi 1, vr b1, .unset, .unset] [.int 1, .int 0, .ref b1, .int 0, .ref a0])) rfl (by rw [hml]; rfl) (argsL := [.ref a0, .int 0, .ref b1, .int 0, .int 1]) (rest := []) (lenOf pd_8 rfl) rfl (oW rfl rfl) (hb hby d8_9) (fun _ _ => ⟨rfl, e1, (by decide : 1 + 0 ≤ _), (by decide : 1 + 0 ≤ _)⟩)
  dsimp only [Pt.U, Pt.locs, Pt.cells, Pt.slots] at X4 l4 y4 z4 st4 hQ4
  subst l4 y4 z4
  obtain ⟨rfl, N4q, K4, Va4⟩ := hQ4
  have N4 := Fr.app N0 N4q
  have S_C := own_stak K4 (allS (P := fun x => ∀ cell : Cell, (h1)[x]? = some cell → cell.vm.isStatics = false) (Exa.nostat E_b1) all0) S_C
  have S_F := own_stak K4 (allS (P := fun x => ∀ cell : Cell, (h1)[x]? = some cell → cell.vm.isStatics = false) (Exa.nostat E_b1) all0) S_F
  have S_A := own_stak K4 (allS (P := fun x => ∀ cell : Cell, (h1)[x]? = some cell → cell.vm.isStatics = false) (Exa.nostat E_b1) all0) S_A
  have S_H := own_stak K4 (allS (P := fun x => ∀ cell : Cell, (h1)[x]? = some cell → cell.vm.isStatics = false) (Exa.nostat E_b1) all0) S_H
  have S_L := own_stak K4 (allS (P := fun x => ∀ cell : Cell, (h1)[x]? = some cell → cell.vm.isStatics = false) (Exa.nostat E_b1) all0) S_L
  have V_a0 := V_a0.keep K4 (ninS ne_a0_b1 nin0)
  have E_b1 := E_b1.keep K4
  have Zs5 := Nat.le_trans Zs2 K4.1
  have Kp6 := Kp3.trans K4 (allS (Or.inr sz_b1) all0)
  refine Go.st (S' := T4.setTop (mkF m 23 #[vr a0, vi 0, vi 1, vr b1, vi 0, .unset] [.int 1, .int 0, .ref a0])) (fun _ kk => st4 _ (XS.istore X4.here hx rfl (hb hby d8_12) rfl (l' := #[vr a0, vi 0, vi 1, vr b1, vi 0, .unset]) rfl (XS.iload X4.here hx rfl (hb hby d8_14) rfl (XS.iloadN X4.here hx rfl (hb hby d8_16) rfl (XS.icmpNo X4.here hx rfl (hb hby d8_17) rfl (feq (by decide : ¬ ((0 : Int32) = (1 : Int32)))).1 (XS.aloadN X4.here hx rfl (hb hby d8_20) rfl rfl (XS.iloadN X4.here hx rfl (hb hby d8_21) rfl (XS.iloadN X4.here hx rfl (hb hby d8_22) rfl kk)))))))) ?_
  obtain ⟨_, _, ⟨T7, L7, k7, n7⟩, -, X7, ⟨Lc7, hQ7, l7, y7, z7⟩, st7⟩ := Jvm.LawKit.callS X4 hx (y := mN27) hown (mvT hZ (ow hw 96 rfl)) (mvT hZ (ow hw 97 rfl)) (mvT hZ (ow hw 44 rfl)) (mvT hZ (ow hw 98 rfl)) (by decide) (backOf (W := 0) (rmTB_1 l Z az hw [] a0 (0 : Int32) (1 : Int32) zc fm k0 c1 T4.heap n0 Zs5 S_C hzc S_F hfm S_A S_H S_L V_a0 rfl rfl) hZ (ow hw 98 rfl) (ow hw 44 rfl) (by decide) (by decide)) (g := (mkF m 23 #[vr a0, vi 0, vi 1, vr b1, vi 0, .unset] [.int 1, .int 0, .ref a0])) rfl (by rw [hml]; rfl) (argsL := [.ref a0, .int 0, .int 1]) (rest := []) (lenOf pd_7 rfl) rfl (oW rfl rfl) (hb hby d8_23) (fun _ _ => ⟨rfl, rfl, (by decide : 1 + 1 ≤ _), (by decide : 1 + 2 ≤ _)⟩)
  dsimp only [Pt.U, Pt.locs, Pt.cells, Pt.slots] at X7 l7 y7 z7 st7 hQ7
  subst l7 y7 z7
  obtain ⟨b7, kb7, rfl, N7q, K7, V_b7, E_b7, gb7⟩ := hQ7
  have Ex7 := own_extK K7
  have N7 := Fr.app N4 N7q
  have ne_a0_b7 : a0 ≠ b7 := Nat.ne_of_lt (Nat.lt_of_lt_of_le V_a0.lt gb7)
  have ne_b1_b7 : b1 ≠ b7 := Nat.ne_of_lt (Nat.lt_of_lt_of_le E_b1.lt gb7)
  have g_b7 : n0 ≤ b7 := Nat.le_trans Zs5 gb7
  have sz_b7 : h0.size ≤ b7 := Nat.le_trans Kp6.1 gb7
  have S_C := S_C.ext Ex7
  have S_F := S_F.ext Ex7
  have S_A := S_A.ext Ex7
  have S_H := S_H.ext Ex7
  have S_L := S_L.ext Ex7
  have V_a0 := V_a0.ext Ex7
  have E_b1 := E_b1.ext Ex7
  have Va4 := Va4.ext Ex7
  have Zs8 := Nat.le_trans Zs5 Ex7.1
  have Kp9 := Kp6.ext Ex7
  refine Go.st (S' := T7.setTop (mkF m 32 #[vr a0, vi 0, vi 1, vr b1, vi 0, vr b7] [.int 0, .ref b7])) (fun _ kk => st7 _ (XS.astore X7.here hx rfl (hb hby d8_26) rfl rfl (l' := #[vr a0, vi 0, vi 1, vr b1, vi 0, vr b7]) rfl (XS.aload X7.here hx rfl (hb hby d8_28) rfl rfl (XS.iload X7.here hx rfl (hb hby d8_30) rfl kk)))) ?_
  obtain ⟨_, _, ⟨T10, L10, k10, n10⟩, -, X10, ⟨Lc10, hQ10, l10, y10, z10⟩, st10⟩ := Jvm.LawKit.callS X7 hx (y := mN22) hown (mvT hZ (ow hw 112 rfl)) (mvT hZ (ow hw 113 rfl)) (mvT hZ (ow hw 44 rfl)) (mvT hZ (ow hw 114 rfl)) (by decide) (backOf (W := 0) (rmUg l Z az hw [] b7 (0 : Int32) zc fm kb7 (2 : Int32) [(((c1 >>> ((0 : Int32) &&& 31)).toInt8.toInt32).toInt8.toInt32), (((c1 >>> ((8 : Int32) &&& 31)).toInt8.toInt32).toInt8.toInt32)] T7.heap n0 Zs8 S_C hzc S_F hfm S_A S_H S_L V_b7 hix0 hix1) hZ (ow hw 114 rfl) (ow hw 44 rfl) (by decide) (by decide)) (g := (mkF m 32 #[vr a0, vi 0, vi 1, vr b1, vi 0, vr b7] [.int 0, .ref b7])) rfl (by rw [hml]; rfl) (argsL := [.ref b7, .int 0]) (rest := []) (lenOf pd_14 rfl) rfl (oW rfl rfl) (hb hby d8_32) (fun _ _ => ⟨rfl, rfl, (by decide : 2 + 0 ≤ _), (by decide : 3 + 0 ≤ _)⟩)
  dsimp only [Pt.U, Pt.locs, Pt.cells, Pt.slots] at X10 l10 y10 z10 st10 hQ10
  subst l10 y10 z10
  obtain ⟨hv10, N10q, e10⟩ := hQ10
  subst hv10
  have N10 := Fr.app N7 N10q
  refine Go.st (S' := T10.setTop (mkF m 35 #[vr a0, vi 0, vi 1, vr b1, vi 0, vr b7] [.int (own_g16 (bt [(((c1 >>> ((0 : Int32) &&& 31)).toInt8.toInt32).toInt8.toInt32), (((c1 >>> ((8 : Int32) &&& 31)).toInt8.toInt32).toInt8.toInt32)] ((0 : Int32) <<< ((1 : Int32) &&& 31))) (bt [(((c1 >>> ((0 : Int32) &&& 31)).toInt8.toInt32).toInt8.toInt32), (((c1 >>> ((8 : Int32) &&& 31)).toInt8.toInt32).toInt8.toInt32)] (((0 : Int32) <<< ((1 : Int32) &&& 31)) + (1 : Int32))))])) st10 ?_
  rw [show (own_g16 (bt [(((c1 >>> ((0 : Int32) &&& 31)).toInt8.toInt32).toInt8.toInt32), (((c1 >>> ((8 : Int32) &&& 31)).toInt8.toInt32).toInt8.toInt32)] ((0 : Int32) <<< ((1 : Int32) &&& 31))) (bt [(((c1 >>> ((0 : Int32) &&& 31)).toInt8.toInt32).toInt8.toInt32), (((c1 >>> ((8 : Int32) &&& 31)).toInt8.toInt32).toInt8.toInt32)] (((0 : Int32) <<< ((1 : Int32) &&& 31)) + (1 : Int32)))) = c1 from own_rtg y1]
  refine Go.st (S' := T10.setTop (mkF m 56 #[vr a0, vi 0, vi 1, vr b1, vi 0, vr b7] [.ref b7])) (fun _ kk => XS.sipush X10.here hx rfl (hb hby d8_35) (XS.icmpYes X10.here hx rfl (pc0 := 38) (pc' := 54) rfl (hb hby d8_38) rfl (tlt u1).2.2.1 (by decide) (by decide) (XS.aload X10.here hx rfl (hb hby d8_54) rfl rfl kk))) ?_
  exact Go.retA X10 hx hlk Bd.returns rfl rfl (hb hby d8_56) (by rw [e10]; exact ⟨_, _, rfl, N10, Kp9, V_b7, E_b7, sz_b7⟩) (by decide) (by decide)
theorem d10_0 : decode jdk_52_method_15_code 0 = .ok (.iload_n 1, 1) := by decide +kernel
theorem d10_1 : decode jdk_52_method_15_code 1 = .ok (.aload_n 0, 1) := by decide +kernel
theorem d10_2 : decode jdk_52_method_15_code 2 = .ok (.arraylength, 1) := by decide +kernel
theorem d10_3 : decode jdk_52_method_15_code 3 = .ok (.isub, 1) := by decide +kernel
theorem d10_4 : decode jdk_52_method_15_code 4 = .ok (.bipush 31, 2) := by decide +kernel
theorem d10_6 : decode jdk_52_method_15_code 6 = .ok (.iushr, 1) := by decide +kernel
theorem d10_7 : decode jdk_52_method_15_code 7 = .ok (.i2b, 1) := by decide +kernel
theorem d10_8 : decode jdk_52_method_15_code 8 = .ok (.ireturn, 1) := by decide +kernel
theorem ef_10 (m : MethodId) (a0 : Addr) (p1 : Int32) : entryFrame m #[(.ref a0), (.int p1)] 2 = mkF m 0 #[.val (.ref a0), .val (.int p1)] [] := by first | (simp [entryFrame, mkF, argsToLocals, Value.category]; done) | rfl
theorem rmCd_1_1 (l : Launch) (Z : State) (az : Array Value) (hw : HW az Z) (ws : List Jvm.Cond) (a0 : Addr) (p1 : Int32) (k0 : ClassId) (vs : List Value) (h0 : Heap) (n0 : Nat) (Z0 : n0 ≤ h0.size) (V_a0 : Arv Z h0 a0 k0 .byte (2 : Int32) vs (.int 0)) (h1 : p1 = (1 : Int32)) :
    MF l mN19 (Jvm.Cond.code mN19 jdk_52_method_15_code 2 (some .byte) :: ws) (rO 0 0 0 0) #[(.ref a0), (.int p1)] Z h0 (PQ (.int 1) n0 h0) := by
  refine MetFree.of_bodySF (plainFor_of_name pn_3) hisR ?_
  intro p e s m args below meth c s₁ Bd hml0 hP hK
  obtain ⟨rfl, hZ, hh⟩ := hP
  have hx := Bd.exec
  have hby := Bd.bytes
  have hlk : meth.locks = false := Bd.notSynchronized
  have hml : c.maxLocals = 2 := hml0
  have hown : s.vm.findClass "java/lang/StringUTF16" = some m.cls := findClass_of_methodNamed Bd.named
  have X0 : Stand p l e (rO 0 0 0 0) s m #[(.ref a0), (.int p1)] below meth c s₁ [] 0 0 := Stand.of_body Bd
  have e0 : s₁.heap = h0 := by rw [← hh, Bd.state]; rfl
  have N0 := Fr.nil n0
  show Go p e below s ((PQ (.int 1) n0 h0)) (rO 0 0 0 0).cells (rO 0 0 0 0).slots (s₁.setTop (entryFrame m #[(.ref a0), (.int p1)] 2))
  rw [ef_10 m a0 p1]
  subst h1
  refine Go.st (S' := s₁.setTop (mkF m 2 #[vr a0, vi 1] [.ref a0, .int 1])) (fun _ kk => XS.iloadN X0.here hx rfl (hb hby d10_0) rfl (XS.aloadN X0.here hx rfl (hb hby d10_1) rfl rfl kk)) ?_
  obtain ⟨cl1, Ar1, -, S1, Ng1, -, -⟩ := (id V_a0)
  refine Go.st (S' := s₁.setTop (mkF m 3 #[vr a0, vi 1] [.int 2, .int 1])) (fun _ kk => X0.arraylength hx (by rw [e0]; exact Ar1.1) (State.isArrayOf_alike hZ.alike Ar1.2.1) (g := (mkF m 2 #[vr a0, vi 1] [.ref a0, .int 1])) rfl rfl (hb hby d10_2) _ (by rw [len_of S1 Ng1]; exact kk)) ?_
  refine Go.st (S' := s₁.setTop (mkF m 8 #[vr a0, vi 1] [.int ((((-1 : Int32).toUInt32 >>> ((31 : Int32) &&& 31).toUInt32).toInt32).toInt8.toInt32)])) (fun _ kk => XS.isub X0.here hx rfl (hb hby d10_3) rfl (XS.bipush X0.here hx rfl (hb hby d10_4) (XS.iushr X0.here hx rfl (hb hby d10_6) rfl (XS.i2b X0.here hx rfl (hb hby d10_7) rfl kk)))) ?_
  exact Go.retN X0 hx hlk (t := .byte) Bd.returns (by simp) (hb hby d10_8) (⟨rfl, N0, e0⟩) (by decide) (by decide)
def Q_in_1 (Z : State) (a0 : Addr) (c1 : Int32) (h0 : Heap) (n0 : Nat) (v : Option Value) (h : Heap) (L : List Loc) : Prop := v = none ∧ Fr n0 L ∧ Keep h0 h [a0] ∧ CSt Z h a0 [c1]
theorem d3_0 : decode jdk_42_method_149_code 0 = .ok (.aload_n 0, 1) := by decide +kernel
theorem d3_1 : decode jdk_42_method_149_code 1 = .ok (.invokespecial 1, 3) := by decide +kernel
theorem d3_4 : decode jdk_42_method_149_code 4 = .ok (.iload_n 3, 1) := by decide +kernel
theorem d3_5 : decode jdk_42_method_149_code 5 = .ok (.ifCond .ne 22, 3) := by decide +kernel
theorem d3_8 : decode jdk_42_method_149_code 8 = .ok (.aload_n 0, 1) := by decide +kernel
theorem d3_9 : decode jdk_42_method_149_code 9 = .ok (.ldc 7, 2) := by decide +kernel
theorem d3_11 : decode jdk_42_method_149_code 11 = .ok (.getfield 9, 3) := by decide +kernel
theorem d3_14 : decode jdk_42_method_149_code 14 = .ok (.putfield 9, 3) := by decide +kernel
theorem d3_17 : decode jdk_42_method_149_code 17 = .ok (.aload_n 0, 1) := by decide +kernel
theorem d3_18 : decode jdk_42_method_149_code 18 = .ok (.ldc 7, 2) := by decide +kernel
theorem d3_20 : decode jdk_42_method_149_code 20 = .ok (.getfield 15, 3) := by decide +kernel
theorem d3_23 : decode jdk_42_method_149_code 23 = .ok (.putfield 15, 3) := by decide +kernel
theorem d3_26 : decode jdk_42_method_149_code 26 = .ok (.return_, 1) := by decide +kernel
theorem d3_27 : decode jdk_42_method_149_code 27 = .ok (.getstatic 38, 3) := by decide +kernel
theorem d3_30 : decode jdk_42_method_149_code 30 = .ok (.ifCond .eq 28, 3) := by decide +kernel
theorem d3_33 : decode jdk_42_method_149_code 33 = .ok (.aload_n 1, 1) := by decide +kernel
theorem d3_34 : decode jdk_42_method_149_code 34 = .ok (.iload_n 2, 1) := by decide +kernel
theorem d3_35 : decode jdk_42_method_149_code 35 = .ok (.iload_n 3, 1) := by decide +kernel
theorem d3_36 : decode jdk_42_method_149_code 36 = .ok (.invokestatic 177, 3) := by decide +kernel
theorem d3_39 : decode jdk_42_method_149_code 39 = .ok (.astore 5, 2) := by decide +kernel
theorem d3_41 : decode jdk_42_method_149_code 41 = .ok (.aload_n 0, 1) := by decide +kernel
theorem d3_42 : decode jdk_42_method_149_code 42 = .ok (.aload 5, 2) := by decide +kernel
theorem d3_44 : decode jdk_42_method_149_code 44 = .ok (.iload_n 3, 1) := by decide +kernel
theorem d3_45 : decode jdk_42_method_149_code 45 = .ok (.invokestatic 47, 3) := by decide +kernel
theorem d3_48 : decode jdk_42_method_149_code 48 = .ok (.putfield 15, 3) := by decide +kernel
theorem d3_51 : decode jdk_42_method_149_code 51 = .ok (.aload_n 0, 1) := by decide +kernel
theorem d3_52 : decode jdk_42_method_149_code 52 = .ok (.aload 5, 2) := by decide +kernel
theorem d3_54 : decode jdk_42_method_149_code 54 = .ok (.putfield 9, 3) := by decide +kernel
theorem d3_57 : decode jdk_42_method_149_code 57 = .ok (.return_, 1) := by decide +kernel
theorem ef_3n4 (m : MethodId) (a0 : Addr) (a1 : Addr) (p2 : Int32) (p3 : Int32) : entryFrame m #[(.ref a0), (.ref a1), (.int p2), (.int p3), .null] 6 = mkF m 0 #[.val (.ref a0), .val (.ref a1), .val (.int p2), .val (.int p3), .val .null, .unset] [] := by first | (simp [entryFrame, mkF, argsToLocals, Value.category]; done) | rfl
theorem rmI5_1_0 (l : Launch) (Z : State) (az : Array Value) (hw : HW az Z) (ws : List Jvm.Cond) (a0 : Addr) (a1 : Addr) (p2 : Int32) (p3 : Int32) (zc : Int32) (fm : Value) (k1 : ClassId) (c1 : Int32) (h0 : Heap) (n0 : Nat) (Z0 : n0 ≤ h0.size) (S_C : tS0 Z h0 (.int zc)) (hzc : ¬ zc = 0) (S_F : tS1 Z h0 fm) (hfm : fm.isRef = true) (S_A : tS2 Z h0 (.int 1)) (S_H : tS3 Z h0 (.int 0)) (S_L : tS4 Z h0 (.int 8)) (E_a0 : Exa Z h0 a0 "java/lang/String") (F_coder : tF0 Z h0 a0 (.int 0)) (F_value : tF1 Z h0 a0 .null) (g_a0 : n0 ≤ a0) (ne : a0 ≠ a1) (V_a1 : Arv Z h0 a1 k1 .char (1 : Int32) [(.int c1)] (.int 0)) (h2 : p2 = 0) (h3 : p3 = (1 : Int32)) (y1 : 0 ≤ c1.toInt ∧ c1.toInt ≤ 65535)  (u1 : (255 : Int32) < c1) :
    MF l mN10 (Jvm.Cond.code mN10 jdk_42_method_149_code 6 none :: ws) (rO 4 2 3 57) #[(.ref a0), (.ref a1), (.int p2), (.int p3), .null] Z h0 (Q_in_1 Z a0 c1 h0 n0) := by
  refine MetFree.of_bodySF (plainFor_of_name pn_1) hisR ?_
  intro p e s m args below meth c s₁ Bd hml0 hP hK
  obtain ⟨rfl, hZ, hh⟩ := hP
  have hx := Bd.exec
  have hby := Bd.bytes
  have hlk : meth.locks = false := Bd.notSynchronized
  have hml : c.maxLocals = 6 := hml0
  have hown : s.vm.findClass "java/lang/String" = some m.cls := findClass_of_methodNamed Bd.named
  have hnm := (name_of_methodNamed Bd.named Bd.method).1
  have X0 : Stand p l e (rO 4 2 3 57) s m #[(.ref a0), (.ref a1), (.int p2), (.int p3), .null] below meth c s₁ [] 0 0 := Stand.of_body Bd
  have e0 : s₁.heap = h0 := by rw [← hh, Bd.state]; rfl
  have N0 := Fr.nil n0
  show Go p e below s ((Q_in_1 Z a0 c1 h0 n0)) (rO 4 2 3 57).cells (rO 4 2 3 57).slots (s₁.setTop (entryFrame m #[(.ref a0), (.ref a1), (.int p2), (.int p3), .null] 6))
  rw [ef_3n4 m a0 a1 p2 p3]
  subst h2 h3
  refine Go.st (S' := s₁.setTop (mkF m 1 #[vr a0, vr a1, vi 0, vi 1, .val .null, .unset] [.ref a0])) (fun _ kk => XS.aloadN X0.here hx rfl (hb hby d3_0) rfl rfl kk) ?_
  obtain ⟨T1, X1, e1, st1⟩ := initO X0 hx hZ hown (ow hw 16 rfl) (ow hw 17 rfl) (ow hw 18 rfl) e0 (g := (mkF m 1 #[vr a0, vr a1, vi 0, vi 1, .val .null, .unset] [.ref a0])) rfl (by rw [hml]; rfl) rfl (hb hby d3_1) (by decide) (W := 0) (oW rfl rfl) (by decide)
  refine Go.st (S' := T1.setTop (mkF m 27 #[vr a0, vr a1, vi 0, vi 1, .val .null, .unset] [])) (fun _ kk => st1 _ (XS.iloadN X1.here hx rfl (hb hby d3_4) rfl (XS.ifYes X1.here hx rfl (pc0 := 5) (pc' := 27) rfl (hb hby d3_5) rfl ((if0 _ _).trans (feq (by decide : ¬ ((1 : Int32) = (0 : Int32)))).2) (by decide) (by decide) kk))) ?_
  obtain ⟨T2, X2, e2, st2⟩ := getS2 X1 hx hZ hown (host := "") (Or.inl (ow hw 41 rfl)) Via.refl e1 S_C (g := (mkF m 27 #[vr a0, vr a1, vi 0, vi 1, .val .null, .unset] [])) rfl (hb hby d3_27)
  refine Go.st (S' := T2.setTop (mkF m 36 #[vr a0, vr a1, vi 0, vi 1, .val .null, .unset] [.int 1, .int 0, .ref a1])) (fun _ kk => st2 _ (XS.ifNo X2.here hx rfl (hb hby d3_30) rfl ((if0 _ _).trans (feq hzc).1) (XS.aloadN X2.here hx rfl (hb hby d3_33) rfl rfl (XS.iloadN X2.here hx rfl (hb hby d3_34) rfl (XS.iloadN X2.here hx rfl (hb hby d3_35) rfl kk))))) ?_
  obtain ⟨_, _, ⟨T3, L3, k3, n3⟩, -, X3, ⟨Lc3, hQ3, l3, y3, z3⟩, st3⟩ := Jvm.LawKit.callS X2 hx (y := mN20) hown (mvT hZ (ow hw 42 rfl)) (mvT hZ (ow hw 43 rfl)) (mvT hZ (ow hw 44 rfl)) (mvT hZ (ow hw 45 rfl)) (by decide) (backOf (W := 0) (rmC3_1_0 l Z az hw [] a1 (0 : Int32) (1 : Int32) zc fm k1 c1 h0 n0 Z0 S_C hzc S_F hfm S_A S_H S_L V_a1 rfl rfl y1 u1) hZ (ow hw 45 rfl) (ow hw 44 rfl) (by decide) (by decide)) (g := (mkF m 36 #[vr a0, vr a1, vi 0, vi 1, .val .null, .unset] [.int 1, .int 0, .ref a1])) rfl (by rw [hml]; rfl) (argsL := [.ref a1, .int 0, .int 1]) (rest := []) (lenOf pd_7 rfl) rfl (oW rfl rfl) (hb hby d3_36) (fun _ _ => ⟨rfl, e2, (by decide : 0 + 2 ≤ _), (by decide : 0 + 3 ≤ _)⟩)
  dsimp only [Pt.U, Pt.locs, Pt.cells, Pt.slots] at X3 l3 y3 z3 st3 hQ3
  subst l3 y3 z3
  obtain ⟨b3, kb3, rfl, N3q, K3, V_b3, E_b3, gb3⟩ := hQ3
  have Ex3 := own_extK K3
  have N3 := Fr.app N0 N3q
  have ne_a0_b3 : a0 ≠ b3 := Nat.ne_of_lt (Nat.lt_of_lt_of_le E_a0.lt gb3)
  have ne_a1_b3 : a1 ≠ b3 := Nat.ne_of_lt (Nat.lt_of_lt_of_le V_a1.lt gb3)
  have g_b3 : n0 ≤ b3 := Nat.le_trans Z0 gb3
  have sz_b3 : h0.size ≤ b3 := Nat.le_trans (Keep.refl h0 [a0]).1 gb3
  have S_C := S_C.ext Ex3
  have S_F := S_F.ext Ex3
  have S_A := S_A.ext Ex3
  have S_H := S_H.ext Ex3
  have S_L := S_L.ext Ex3
  have E_a0 := E_a0.ext Ex3
  have F_coder := F_coder.ext Ex3
  have F_value := F_value.ext Ex3
  have V_a1 := V_a1.ext Ex3
  have Zs4 := Nat.le_trans Z0 Ex3.1
  have Kp5 := (Keep.refl h0 [a0]).ext Ex3
  refine Go.st (S' := T3.setTop (mkF m 45 #[vr a0, vr a1, vi 0, vi 1, .val .null, vr b3] [.int 1, .ref b3, .ref a0])) (fun _ kk => st3 _ (XS.astore X3.here hx rfl (hb hby d3_39) rfl rfl (l' := #[vr a0, vr a1, vi 0, vi 1, .val .null, vr b3]) rfl (XS.aloadN X3.here hx rfl (hb hby d3_41) rfl rfl (XS.aload X3.here hx rfl (hb hby d3_42) rfl rfl (XS.iloadN X3.here hx rfl (hb hby d3_44) rfl kk))))) ?_
  obtain ⟨_, _, ⟨T6, L6, k6, n6⟩, -, X6, ⟨Lc6, hQ6, l6, y6, z6⟩, st6⟩ := Jvm.LawKit.callS X3 hx (y := mN19) hown (mvT hZ (ow hw 49 rfl)) (mvT hZ (ow hw 50 rfl)) (mvT hZ (ow hw 44 rfl)) (mvT hZ (ow hw 51 rfl)) (by decide) (backOf (W := 1) (rmCd_1_1 l Z az hw [] b3 (1 : Int32) kb3 _ T3.heap n0 Zs4 V_b3 rfl) hZ (ow hw 51 rfl) (ow hw 44 rfl) (by decide) (by decide)) (g := (mkF m 45 #[vr a0, vr a1, vi 0, vi 1, .val .null, vr b3] [.int 1, .ref b3, .ref a0])) rfl (by rw [hml]; rfl) (argsL := [.ref b3, .int 1]) (rest := [.ref a0]) (lenOf pd_9 rfl) rfl (oW rfl rfl) (hb hby d3_45) (fun _ _ => ⟨rfl, rfl, (by decide : 2 + 0 ≤ _), (by decide : 3 + 0 ≤ _)⟩)
  dsimp only [Pt.U, Pt.locs, Pt.cells, Pt.slots] at X6 l6 y6 z6 st6 hQ6
  subst l6 y6 z6
  obtain ⟨hv6, N6q, e6⟩ := hQ6
  subst hv6
  have N6 := Fr.app N3 N6q
  refine Go.st (S' := T6.setTop (mkF m 48 #[vr a0, vr a1, vi 0, vi 1, .val .null, vr b3] [.int 1, .ref a0])) st6 ?_
  obtain ⟨T7, h7, X7, e7, W7, st7⟩ := putFN X6 hx hZ hown (ow hw 26 rfl) Via.refl e6 F_coder E_a0 (Or.inr ⟨(ow hw 22 rfl), rfl, hnm⟩) (ow hw 7 rfl) (ty := .byte) (v' := .int (nar .byte (1 : Int32))) (by decide) rfl (fits_nar_byte _) (g := (mkF m 48 #[vr a0, vr a1, vi 0, vi 1, .val .null, vr b3] [.int 1, .ref a0])) rfl rfl (hb hby d3_48)
  have N7 := Fr.snoc X7 N6 g_a0
  have F_coder := F_coder.same W7
  have S_C := S_C.wr W7
  have S_F := S_F.wr W7
  have S_A := S_A.wr W7
  have S_H := S_H.wr W7
  have S_L := S_L.wr W7
  have E_a0 := E_a0.wr W7
  have F_value := F_value.other W7 (Or.inr (slot_ne (Or.inr (ow hw 21 rfl)) (Or.inr (ow hw 22 rfl)) (by decide) (t := (.array .byte)) (t' := .byte) (by decide) (by decide)))
  have V_a1 := V_a1.other W7 (Ne.symm ne)
  have E_b3 := E_b3.wr W7
  have V_b3 := V_b3.other W7 (Ne.symm ne_a0_b3)
  have Zs8 := Nat.le_trans Zs4 (Keep.of_wr W7).1
  have Kp9 := Kp5.wr W7 (Or.inl (List.mem_of_getElem? (i := 0) rfl))
  refine Go.st (S' := T7.setTop (mkF m 54 #[vr a0, vr a1, vi 0, vi 1, .val .null, vr b3] [.ref b3, .ref a0])) (fun _ kk => st7 _ (XS.aloadN X7.here hx rfl (hb hby d3_51) rfl rfl (XS.aload X7.here hx rfl (hb hby d3_52) rfl rfl kk))) ?_
  obtain ⟨T10, h10, X10, e10, W10, st10⟩ := putF X7 hx hZ hown (host := "") (Or.inl (ow hw 25 rfl)) Via.refl e7 F_value E_a0 (Or.inr ⟨(ow hw 21 rfl), rfl, hnm⟩) (ow hw 7 rfl) (ty := (.array .byte)) (by decide) rfl rfl (g := (mkF m 54 #[vr a0, vr a1, vi 0, vi 1, .val .null, vr b3] [.ref b3, .ref a0])) rfl rfl (hb hby d3_54)
  have N10 := Fr.snoc X10 N7 g_a0
  have F_value := F_value.same W10
  have S_C := S_C.wr W10
  have S_F := S_F.wr W10
  have S_A := S_A.wr W10
  have S_H := S_H.wr W10
  have S_L := S_L.wr W10
  have E_a0 := E_a0.wr W10
  have F_coder := F_coder.other W10 (Or.inr (slot_ne (Or.inr (ow hw 22 rfl)) (Or.inr (ow hw 21 rfl)) (by decide) (t := .byte) (t' := (.array .byte)) (by decide) (by decide)))
  have V_a1 := V_a1.other W10 (Ne.symm ne)
  have E_b3 := E_b3.wr W10
  have V_b3 := V_b3.other W10 (Ne.symm ne_a0_b3)
  have Zs11 := Nat.le_trans Zs8 (Keep.of_wr W10).1
  have Kp12 := Kp9.wr W10 (Or.inl (List.mem_of_getElem? (i := 0) rfl))
  refine Go.st (S' := T10.setTop (mkF m 57 #[vr a0, vr a1, vi 0, vi 1, .val .null, vr b3] [])) st10 ?_
  exact Go.ret0 X10 hx hlk Bd.returns (hb hby d3_57) (by rw [e10]; exact ⟨rfl, N10, Kp12, E_a0, _, _, _, _, (own_u16 [c1]), F_coder, F_value, V_b3, Or.inr ⟨rfl, rfl, rfl, (List.forall_mem_cons.mpr ⟨y1, (fun _ hx => nomatch hx)⟩)⟩⟩) (by decide) (by decide)
def Q_c5_1_1 (Z : State) (a2 : Addr) (k2 : ClassId) (c1 : Int32) (h0 : Heap) (n0 : Nat) (v : Option Value) (h : Heap) (L : List Loc) : Prop := v = some (.int 1) ∧ Fr n0 L ∧ Keep h0 h [a2] ∧ Arv Z h a2 k2 .byte (1 : Int32) [(.int ((c1.toInt8.toInt32).toInt8.toInt32))] (.int 0)
theorem rmC5_1_1 (l : Launch) (Z : State) (az : Array Value) (hw : HW az Z) (ws : List Jvm.Cond) (a0 : Addr) (p1 : Int32) (a2 : Addr) (p3 : Int32) (p4 : Int32) (k0 k2 : ClassId) (c1 : Int32) (h0 : Heap) (n0 : Nat) (Z0 : n0 ≤ h0.size) (V_a0 : Arv Z h0 a0 k0 .char (1 : Int32) [(.int c1)] (.int 0)) (V_a2 : Arv Z h0 a2 k2 .byte (1 : Int32) [(.int 0)] (.int 0)) (ne : a0 ≠ a2) (g_a2 : n0 ≤ a2) (h1 : p1 = 0) (h3 : p3 = 0) (h4 : p4 = (1 : Int32)) (u1 : ¬ (255 : Int32) < c1) :
    MF l mN21 (Jvm.Cond.code mN21 jdk_52_method_21_code 7 (some .int) :: ws) (rO 0 0 0 0) #[(.ref a0), (.int p1), (.ref a2), (.int p3), (.int p4)] Z h0 (Q_c5_1_1 Z a2 k2 c1 h0 n0) := by
  refine MetFree.of_bodySF (plainFor_of_name pn_3) hisR ?_
  intro p e s m args below meth c s₁ Bd hml0 hP hK
  obtain ⟨rfl, hZ, hh⟩ := hP
  have hx := Bd.exec
  have hby := Bd.bytes
  have hlk : meth.locks = false := Bd.notSynchronized
  have hml : c.maxLocals = 7 := hml0
  have hown : s.vm.findClass "java/lang/StringUTF16" = some m.cls := findClass_of_methodNamed Bd.named
  have X0 : Stand p l e (rO 0 0 0 0) s m #[(.ref a0), (.int p1), (.ref a2), (.int p3), (.int p4)] below meth c s₁ [] 0 0 := Stand.of_body Bd
  have e0 : s₁.heap = h0 := by rw [← hh, Bd.state]; rfl
  have N0 := Fr.nil n0
  show Go p e below s ((Q_c5_1_1 Z a2 k2 c1 h0 n0)) (rO 0 0 0 0).cells (rO 0 0 0 0).slots (s₁.setTop (entryFrame m #[(.ref a0), (.int p1), (.ref a2), (.int p3), (.int p4)] 7))
  rw [ef_9 m a0 p1 a2 p3 p4]
  subst h1 h3 h4
  refine Go.st (S' := s₁.setTop (mkF m 12 #[vr a0, vi 0, vr a2, vi 0, vi 1, vi 0, .unset] [.int 0, .ref a0])) (fun _ kk => XS.iconst X0.here hx rfl (hb hby d9_0) (XS.istore X0.here hx rfl (hb hby d9_1) rfl (l' := #[vr a0, vi 0, vr a2, vi 0, vi 1, vi 0, .unset]) rfl (XS.iload X0.here hx rfl (hb hby d9_3) rfl (XS.iload X0.here hx rfl (hb hby d9_5) rfl (XS.icmpNo X0.here hx rfl (hb hby d9_7) rfl (tlt (by decide : (0 : Int32) < (1 : Int32))).2.1 (XS.aloadN X0.here hx rfl (hb hby d9_10) rfl rfl (XS.iloadN X0.here hx rfl (hb hby d9_11) rfl kk))))))) ?_
  obtain ⟨cl1, Ar1, qk1, S1, Ng1, H1, G1⟩ := (id V_a0)
  have hin1 : ¬ ((0 : Int32) < 0 ∨ cl1.slots.size ≤ ((0 : Int32)).toNatClampNeg) := inb_of S1 ⟨by decide, by decide⟩
  have hat1 : cl1.slots[((0 : Int32)).toNatClampNeg]? = some (.int c1) := Has.at H1 hin1 rfl
  refine Go.st (S' := s₁.setTop (mkF m 31 #[vr a0, vi 0, vr a2, vi 0, vi 1, vi 0, vi c1] [.int (c1.toInt8.toInt32), .int 0, .ref a2])) (fun _ kk => X0.caload hx (j := (0 : Int32)) (v := (.int c1)) (by rw [e0]; exact Ar1.1) (State.isArrayOf_alike hZ.alike Ar1.2.1) Ar1.2.2 hin1 hat1 (g := (mkF m 12 #[vr a0, vi 0, vr a2, vi 0, vi 1, vi 0, .unset] [.int 0, .ref a0])) rfl rfl (hb hby d9_12) _ (XS.istore X0.here hx rfl (hb hby d9_13) rfl (l' := #[vr a0, vi 0, vr a2, vi 0, vi 1, vi 0, vi c1]) rfl (XS.iload X0.here hx rfl (hb hby d9_15) rfl (XS.sipush X0.here hx rfl (hb hby d9_17) (XS.icmpYes X0.here hx rfl (pc0 := 20) (pc' := 26) rfl (hb hby d9_20) rfl (flt u1).2.2.2 (by decide) (by decide) (XS.aloadN X0.here hx rfl (hb hby d9_26) rfl rfl (XS.iloadN X0.here hx rfl (hb hby d9_27) rfl (XS.iload X0.here hx rfl (hb hby d9_28) rfl (XS.i2b X0.here hx rfl (hb hby d9_30) rfl kk))))))))) ?_
  obtain ⟨cl2, Ar2, qk2, S2, Ng2, H2, G2⟩ := (id V_a2)
  have hin2 : ¬ ((0 : Int32) < 0 ∨ cl2.slots.size ≤ ((0 : Int32)).toNatClampNeg) := inb_of S2 ⟨by decide, by decide⟩
  obtain ⟨T2, h2, X2, e2, W2, st2⟩ := stB X0 hx hZ e0 Ar2 (j := (0 : Int32)) hin2 (g := (mkF m 31 #[vr a0, vi 0, vr a2, vi 0, vi 1, vi 0, vi c1] [.int (c1.toInt8.toInt32), .int 0, .ref a2])) rfl rfl (hb hby d9_31)
  have V_a2 : Arv Z h2 a2 k2 .byte (1 : Int32) [(.int ((c1.toInt8.toInt32).toInt8.toInt32))] (.int 0) := Arv.set Ar2 qk2 S2 Ng2 H2 G2 (fits_nar_byte _) W2 0 rfl (Nat.le_of_ble_eq_true rfl)
  have N2 := Fr.snoc X2 N0 g_a2
  have V_a0 := V_a0.other W2 ne
  have Zs3 := Nat.le_trans Z0 (Keep.of_wr W2).1
  have Kp4 := (Keep.refl h0 [a2]).wr W2 (Or.inl (List.mem_of_getElem? (i := 0) rfl))
  refine Go.st (S' := T2.setTop (mkF m 46 #[vr a0, vi 1, vr a2, vi 1, vi 1, vi 1, vi c1] [.int 1])) (fun _ kk => st2 _ (XS.iinc X2.here hx rfl (hb hby d9_32) rfl (l' := #[vr a0, vi 1, vr a2, vi 0, vi 1, vi 0, vi c1]) rfl (XS.iinc X2.here hx rfl (hb hby d9_35) rfl (l' := #[vr a0, vi 1, vr a2, vi 1, vi 1, vi 0, vi c1]) rfl (XS.iinc X2.here hx rfl (hb hby d9_38) rfl (l' := #[vr a0, vi 1, vr a2, vi 1, vi 1, vi 1, vi c1]) rfl (XS.goto X2.here hx rfl (pc0 := 41) (pc' := 3) rfl (hb hby d9_41) (by decide) (by decide) (XS.iload X2.here hx rfl (hb hby d9_3) rfl (XS.iload X2.here hx rfl (hb hby d9_5) rfl (XS.icmpYes X2.here hx rfl (pc0 := 7) (pc' := 44) rfl (hb hby d9_7) rfl (flt (by decide : ¬ ((1 : Int32) < (1 : Int32)))).2.1 (by decide) (by decide) (XS.iload X2.here hx rfl (hb hby d9_44) rfl kk))))))))) ?_
  exact Go.retI X2 hx hlk Bd.returns (hb hby d9_46) (by rw [e2]; exact ⟨rfl, N2, Kp4, V_a2⟩) (by decide) (by decide)
def Q_c3_1_1 (Z : State) (c1 : Int32) (h0 : Heap) (n0 : Nat) (v : Option Value) (h : Heap) (L : List Loc) : Prop := ∃ (b : Addr) (k : ClassId), v = some (.ref b) ∧ Fr n0 L ∧ Keep h0 h [] ∧ Arv Z h b k .byte (1 : Int32) [(.int ((c1.toInt8.toInt32).toInt8.toInt32))] (.int 0) ∧ Exa Z h b "[B" ∧ h0.size ≤ b
theorem rmC3_1_1 (l : Launch) (Z : State) (az : Array Value) (hw : HW az Z) (ws : List Jvm.Cond) (a0 : Addr) (p1 : Int32) (p2 : Int32) (zc : Int32) (fm : Value) (k0 : ClassId) (c1 : Int32) (h0 : Heap) (n0 : Nat) (Z0 : n0 ≤ h0.size) (S_C : tS0 Z h0 (.int zc)) (hzc : ¬ zc = 0) (S_F : tS1 Z h0 fm) (hfm : fm.isRef = true) (S_A : tS2 Z h0 (.int 1)) (S_H : tS3 Z h0 (.int 0)) (S_L : tS4 Z h0 (.int 8)) (V_a0 : Arv Z h0 a0 k0 .char (1 : Int32) [(.int c1)] (.int 0)) (h1 : p1 = 0) (h2 : p2 = (1 : Int32)) (y1 : 0 ≤ c1.toInt ∧ c1.toInt ≤ 65535) (u1 : ¬ (255 : Int32) < c1) :
    MF l mN20 (Jvm.Cond.code mN20 jdk_52_method_16_code 6 (some (.array .byte)) :: ws) (rO 3 2 3 40) #[(.ref a0), (.int p1), (.int p2)] Z h0 (Q_c3_1_1 Z c1 h0 n0) := by
  refine MetFree.of_bodySF (plainFor_of_name pn_3) hisR ?_
  intro p e s m args below meth c s₁ Bd hml0 hP hK
  obtain ⟨rfl, hZ, hh⟩ := hP
  have hx := Bd.exec
  have hby := Bd.bytes
  have hlk : meth.locks = false := Bd.notSynchronized
  have hml : c.maxLocals = 6 := hml0
  have hown : s.vm.findClass "java/lang/StringUTF16" = some m.cls := findClass_of_methodNamed Bd.named
  have X0 : Stand p l e (rO 3 2 3 40) s m #[(.ref a0), (.int p1), (.int p2)] below meth c s₁ [] 0 0 := Stand.of_body Bd
  have e0 : s₁.heap = h0 := by rw [← hh, Bd.state]; rfl
  have N0 := Fr.nil n0
  show Go p e below s ((Q_c3_1_1 Z c1 h0 n0)) (rO 3 2 3 40).cells (rO 3 2 3 40).slots (s₁.setTop (entryFrame m #[(.ref a0), (.int p1), (.int p2)] 6))
  rw [ef_8 m a0 p1 p2]
  subst h1 h2
  refine Go.st (S' := s₁.setTop (mkF m 1 #[vr a0, vi 0, vi 1, .unset, .unset, .unset] [.int 1])) (fun _ kk => XS.iloadN X0.here hx rfl (hb hby d8_0) rfl kk) ?_
  obtain ⟨T1, h1, k1, X1, e1, E1, A1, E_b1, st1⟩ := newPE X0 hx hZ (ow hw 20 rfl) e0 (g := (mkF m 1 #[vr a0, vi 0, vi 1, .unset, .unset, .unset] [.int 1])) rfl (hb hby d8_1) rfl (by decide) (cap := 1) (by decide) (by decide) (by decide : 0 + 1 ≤ _) (by decide : 0 + 1 ≤ _) (ad := "[B") rfl
  obtain ⟨b1, g1⟩ : ∃ z, z = h0.size := ⟨_, rfl⟩
  rw [← g1] at A1 E_b1 st1
  have ne_a0_b1 : a0 ≠ b1 := Nat.ne_of_lt (Nat.lt_of_lt_of_le V_a0.lt (Nat.le_of_eq g1.symm))
  have g_b1 : n0 ≤ b1 := Nat.le_trans Z0 (Nat.le_of_eq g1.symm)
  have sz_b1 : h0.size ≤ b1 := Nat.le_trans (Keep.refl h0 []).1 (Nat.le_of_eq g1.symm)
  have S_C := S_C.ext E1
  have S_F := S_F.ext E1
  have S_A := S_A.ext E1
  have S_H := S_H.ext E1
  have S_L := S_L.ext E1
  have V_a0 := V_a0.ext E1
  have Zs2 := Nat.le_trans Z0 E1.1
  have Kp3 := (Keep.refl h0 []).ext E1
  have V_b1 : Arv Z h1 b1 k1 .byte (1 : Int32) [(.int 0)] (.int 0) := (Arv.new A1 (by decide)).pad (pad_rep [] (.int 0) 1)
  refine Go.st (S' := T1.setTop (mkF m 9 #[vr a0, vi 0, vi 1, vr b1, .unset, .unset] [.int 1, .int 0, .ref b1, .int 0, .ref a0])) (fun _ kk => st1 _ (XS.astoreN X1.here hx rfl (hb hby d8_3) rfl rfl (l' := #[vr a0, vi 0, vi 1, vr b1, .unset, .unset]) rfl (XS.aloadN X1.here hx rfl (hb hby d8_4) rfl rfl (XS.iloadN X1.here hx rfl (hb hby d8_5) rfl (XS.aloadN X1.here hx rfl (hb hby d8_6) rfl rfl (XS.iconst X1.here hx rfl (hb hby d8_7) (XS.iloadN X1.here hx rfl (hb hby d8_8) rfl kk))))))) ?_
  obtain ⟨_, _, ⟨T4, L4, k4, n4⟩, -, X4, ⟨Lc4, hQ4, l4, y4, z4⟩, st4⟩ := Jvm.LawKit.callS X1 hx (y := mN21) hown (mvT hZ (ow hw 46 rfl)) (mvT hZ (ow hw 47 rfl)) (mvT hZ (ow hw 44 rfl)) (mvT hZ (ow hw 48 rfl)) (by decide) (backOf (W := 0) (rmC5_1_1 l Z az hw [] a0 (0 : Int32) b1 (0 : Int32) (1 : Int32) k0 k1 c1 h1 n0 Zs2 V_a0 V_b1 ne_a0_b1 g_b1 rfl rfl rfl u1) hZ (ow hw 48 rfl) (ow hw 44 rfl) (by decide) (by decide)) (g := (mkF m 9 #[vr a0, vi 0, vi 1, vr b1, .unset, .unset] [.int 1, .int 0, .ref b1, .int 0, .ref a0])) rfl (by rw [hml]; rfl) (argsL := [.ref a0, .int 0, .ref b1, .int 0, .int 1]) (rest := []) (lenOf pd_8 rfl) rfl (oW rfl rfl) (hb hby d8_9) (fun _ _ => ⟨rfl, e1, (by decide : 1 + 0 ≤ _), (by decide : 1 + 0 ≤ _)⟩)
  dsimp only [Pt.U, Pt.locs, Pt.cells, Pt.slots] at X4 l4 y4 z4 st4 hQ4
  subst l4 y4 z4
  obtain ⟨rfl, N4q, K4, Va4⟩ := hQ4
  have N4 := Fr.app N0 N4q
  have S_C := own_stak K4 (allS (P := fun x => ∀ cell : Cell, (h1)[x]? = some cell → cell.vm.isStatics = false) (Exa.nostat E_b1) all0) S_C
  have S_F := own_stak K4 (allS (P := fun x => ∀ cell : Cell, (h1)[x]? = some cell → cell.vm.isStatics = false) (Exa.nostat E_b1) all0) S_F
  have S_A := own_stak K4 (allS (P := fun x => ∀ cell : Cell, (h1)[x]? = some cell → cell.vm.isStatics = false) (Exa.nostat E_b1) all0) S_A
  have S_H := own_stak K4 (allS (P := fun x => ∀ cell : Cell, (h1)[x]? = some cell → cell.vm.isStatics = false) (Exa.nostat E_b1) all0) S_H
  have S_L := own_stak K4 (allS (P := fun x => ∀ cell : Cell, (h1)[x]? = some cell → cell.vm.isStatics = false) (Exa.nostat E_b1) all0) S_L
  have V_a0 := V_a0.keep K4 (ninS ne_a0_b1 nin0)
  have E_b1 := E_b1.keep K4
  have Zs5 := Nat.le_trans Zs2 K4.1
  have Kp6 := Kp3.trans K4 (allS (Or.inr sz_b1) all0)
  refine Go.st (S' := T4.setTop (mkF m 58 #[vr a0, vi 0, vi 1, vr b1, vi 1, .unset] [.ref b1])) (fun _ kk => st4 _ (XS.istore X4.here hx rfl (hb hby d8_12) rfl (l' := #[vr a0, vi 0, vi 1, vr b1, vi 1, .unset]) rfl (XS.iload X4.here hx rfl (hb hby d8_14) rfl (XS.iloadN X4.here hx rfl (hb hby d8_16) rfl (XS.icmpYes X4.here hx rfl (pc0 := 17) (pc' := 57) rfl (hb hby d8_17) rfl (teq (by decide : (1 : Int32) = (1 : Int32))).1 (by decide) (by decide) (XS.aloadN X4.here hx rfl (hb hby d8_57) rfl rfl kk)))))) ?_
  exact Go.retA X4 hx hlk Bd.returns rfl rfl (hb hby d8_58) (by exact ⟨_, _, rfl, N4, Kp6, Va4, E_b1, sz_b1⟩) (by decide) (by decide)
theorem rmCd_1_0 (l : Launch) (Z : State) (az : Array Value) (hw : HW az Z) (ws : List Jvm.Cond) (a0 : Addr) (p1 : Int32) (k0 : ClassId) (vs : List Value) (h0 : Heap) (n0 : Nat) (Z0 : n0 ≤ h0.size) (V_a0 : Arv Z h0 a0 k0 .byte (1 : Int32) vs (.int 0)) (h1 : p1 = (1 : Int32)) :
    MF l mN19 (Jvm.Cond.code mN19 jdk_52_method_15_code 2 (some .byte) :: ws) (rO 0 0 0 0) #[(.ref a0), (.int p1)] Z h0 (PQ (.int 0) n0 h0) := by
  refine MetFree.of_bodySF (plainFor_of_name pn_3) hisR ?_
  intro p e s m args below meth c s₁ Bd hml0 hP hK
  obtain ⟨rfl, hZ, hh⟩ := hP
  have hx := Bd.exec
  have hby := Bd.bytes
  have hlk : meth.locks = false := Bd.notSynchronized
  have hml : c.maxLocals = 2 := hml0
  have hown : s.vm.findClass "java/lang/StringUTF16" = some m.cls := findClass_of_methodNamed Bd.named
  have X0 : Stand p l e (rO 0 0 0 0) s m #[(.ref a0), (.int p1)] below meth c s₁ [] 0 0 := Stand.of_body Bd
  have e0 : s₁.heap = h0 := by rw [← hh, Bd.state]; rfl
  have N0 := Fr.nil n0
  show Go p e below s ((PQ (.int 0) n0 h0)) (rO 0 0 0 0).cells (rO 0 0 0 0).slots (s₁.setTop (entryFrame m #[(.ref a0), (.int p1)] 2))
  rw [ef_10 m a0 p1]
  subst h1
  refine Go.st (S' := s₁.setTop (mkF m 2 #[vr a0, vi 1] [.ref a0, .int 1])) (fun _ kk => XS.iloadN X0.here hx rfl (hb hby d10_0) rfl (XS.aloadN X0.here hx rfl (hb hby d10_1) rfl rfl kk)) ?_
  obtain ⟨cl1, Ar1, -, S1, Ng1, -, -⟩ := (id V_a0)
  refine Go.st (S' := s₁.setTop (mkF m 3 #[vr a0, vi 1] [.int 1, .int 1])) (fun _ kk => X0.arraylength hx (by rw [e0]; exact Ar1.1) (State.isArrayOf_alike hZ.alike Ar1.2.1) (g := (mkF m 2 #[vr a0, vi 1] [.ref a0, .int 1])) rfl rfl (hb hby d10_2) _ (by rw [len_of S1 Ng1]; exact kk)) ?_
  refine Go.st (S' := s₁.setTop (mkF m 8 #[vr a0, vi 1] [.int ((((0 : Int32).toUInt32 >>> ((31 : Int32) &&& 31).toUInt32).toInt32).toInt8.toInt32)])) (fun _ kk => XS.isub X0.here hx rfl (hb hby d10_3) rfl (XS.bipush X0.here hx rfl (hb hby d10_4) (XS.iushr X0.here hx rfl (hb hby d10_6) rfl (XS.i2b X0.here hx rfl (hb hby d10_7) rfl kk)))) ?_
  exact Go.retN X0 hx hlk (t := .byte) Bd.returns (by simp) (hb hby d10_8) (⟨rfl, N0, e0⟩) (by decide) (by decide)
theorem rmI5_1_1 (l : Launch) (Z : State) (az : Array Value) (hw : HW az Z) (ws : List Jvm.Cond) (a0 : Addr) (a1 : Addr) (p2 : Int32) (p3 : Int32) (zc : Int32) (fm : Value) (k1 : ClassId) (c1 : Int32) (h0 : Heap) (n0 : Nat) (Z0 : n0 ≤ h0.size) (S_C : tS0 Z h0 (.int zc)) (hzc : ¬ zc = 0) (S_F : tS1 Z h0 fm) (hfm : fm.isRef = true) (S_A : tS2 Z h0 (.int 1)) (S_H : tS3 Z h0 (.int 0)) (S_L : tS4 Z h0 (.int 8)) (E_a0 : Exa Z h0 a0 "java/lang/String") (F_coder : tF0 Z h0 a0 (.int 0)) (F_value : tF1 Z h0 a0 .null) (g_a0 : n0 ≤ a0) (ne : a0 ≠ a1) (V_a1 : Arv Z h0 a1 k1 .char (1 : Int32) [(.int c1)] (.int 0)) (h2 : p2 = 0) (h3 : p3 = (1 : Int32)) (y1 : 0 ≤ c1.toInt ∧ c1.toInt ≤ 65535) (u1 : ¬ (255 : Int32) < c1) :
    MF l mN10 (Jvm.Cond.code mN10 jdk_42_method_149_code 6 none :: ws) (rO 4 2 3 57) #[(.ref a0), (.ref a1), (.int p2), (.int p3), .null] Z h0 (Q_in_1 Z a0 c1 h0 n0) := by
  refine MetFree.of_bodySF (plainFor_of_name pn_1) hisR ?_
  intro p e s m args below meth c s₁ Bd hml0 hP hK
  obtain ⟨rfl, hZ, hh⟩ := hP
  have hx := Bd.exec
  have hby := Bd.bytes
  have hlk : meth.locks = false := Bd.notSynchronized
  have hml : c.maxLocals = 6 := hml0
  have hown : s.vm.findClass "java/lang/String" = some m.cls := findClass_of_methodNamed Bd.named
  have hnm := (name_of_methodNamed Bd.named Bd.method).1
  have X0 : Stand p l e (rO 4 2 3 57) s m #[(.ref a0), (.ref a1), (.int p2), (.int p3), .null] below meth c s₁ [] 0 0 := Stand.of_body Bd
  have e0 : s₁.heap = h0 := by rw [← hh, Bd.state]; rfl
  have N0 := Fr.nil n0
  show Go p e below s ((Q_in_1 Z a0 c1 h0 n0)) (rO 4 2 3 57).cells (rO 4 2 3 57).slots (s₁.setTop (entryFrame m #[(.ref a0), (.ref a1), (.int p2), (.int p3), .null] 6))
  rw [ef_3n4 m a0 a1 p2 p3]
  subst h2 h3
  refine Go.st (S' := s₁.setTop (mkF m 1 #[vr a0, vr a1, vi 0, vi 1, .val .null, .unset] [.ref a0])) (fun _ kk => XS.aloadN X0.here hx rfl (hb hby d3_0) rfl rfl kk) ?_
  obtain ⟨T1, X1, e1, st1⟩ := initO X0 hx hZ hown (ow hw 16 rfl) (ow hw 17 rfl) (ow hw 18 rfl) e0 (g := (mkF m 1 #[vr a0, vr a1, vi 0, vi 1, .val .null, .unset] [.ref a0])) rfl (by rw [hml]; rfl) rfl (hb hby d3_1) (by decide) (W := 0) (oW rfl rfl) (by decide)
  refine Go.st (S' := T1.setTop (mkF m 27 #[vr a0, vr a1, vi 0, vi 1, .val .null, .unset] [])) (fun _ kk => st1 _ (XS.iloadN X1.here hx rfl (hb hby d3_4) rfl (XS.ifYes X1.here hx rfl (pc0 := 5) (pc' := 27) rfl (hb hby d3_5) rfl ((if0 _ _).trans (feq (by decide : ¬ ((1 : Int32) = (0 : Int32)))).2) (by decide) (by decide) kk))) ?_
  obtain ⟨T2, X2, e2, st2⟩ := getS2 X1 hx hZ hown (host := "") (Or.inl (ow hw 41 rfl)) Via.refl e1 S_C (g := (mkF m 27 #[vr a0, vr a1, vi 0, vi 1, .val .null, .unset] [])) rfl (hb hby d3_27)
  refine Go.st (S' := T2.setTop (mkF m 36 #[vr a0, vr a1, vi 0, vi 1, .val .null, .unset] [.int 1, .int 0, .ref a1])) (fun _ kk => st2 _ (XS.ifNo X2.here hx rfl (hb hby d3_30) rfl ((if0 _ _).trans (feq hzc).1) (XS.aloadN X2.here hx rfl (hb hby d3_33) rfl rfl (XS.iloadN X2.here hx rfl (hb hby d3_34) rfl (XS.iloadN X2.here hx rfl (hb hby d3_35) rfl kk))))) ?_
  obtain ⟨_, _, ⟨T3, L3, k3, n3⟩, -, X3, ⟨Lc3, hQ3, l3, y3, z3⟩, st3⟩ := Jvm.LawKit.callS X2 hx (y := mN20) hown (mvT hZ (ow hw 42 rfl)) (mvT hZ (ow hw 43 rfl)) (mvT hZ (ow hw 44 rfl)) (mvT hZ (ow hw 45 rfl)) (by decide) (backOf (W := 0) (rmC3_1_1 l Z az hw [] a1 (0 : Int32) (1 : Int32) zc fm k1 c1 h0 n0 Z0 S_C hzc S_F hfm S_A S_H S_L V_a1 rfl rfl y1 u1) hZ (ow hw 45 rfl) (ow hw 44 rfl) (by decide) (by decide)) (g := (mkF m 36 #[vr a0, vr a1, vi 0, vi 1, .val .null, .unset] [.int 1, .int 0, .ref a1])) rfl (by rw [hml]; rfl) (argsL := [.ref a1, .int 0, .int 1]) (rest := []) (lenOf pd_7 rfl) rfl (oW rfl rfl) (hb hby d3_36) (fun _ _ => ⟨rfl, e2, (by decide : 0 + 2 ≤ _), (by decide : 0 + 3 ≤ _)⟩)
  dsimp only [Pt.U, Pt.locs, Pt.cells, Pt.slots] at X3 l3 y3 z3 st3 hQ3
  subst l3 y3 z3
  obtain ⟨b3, kb3, rfl, N3q, K3, V_b3, E_b3, gb3⟩ := hQ3
  have Ex3 := own_extK K3
  have N3 := Fr.app N0 N3q
  have ne_a0_b3 : a0 ≠ b3 := Nat.ne_of_lt (Nat.lt_of_lt_of_le E_a0.lt gb3)
  have ne_a1_b3 : a1 ≠ b3 := Nat.ne_of_lt (Nat.lt_of_lt_of_le V_a1.lt gb3)
  have g_b3 : n0 ≤ b3 := Nat.le_trans Z0 gb3
  have sz_b3 : h0.size ≤ b3 := Nat.le_trans (Keep.refl h0 [a0]).1 gb3
  have S_C := S_C.ext Ex3
  have S_F := S_F.ext Ex3
  have S_A := S_A.ext Ex3
  have S_H := S_H.ext Ex3
  have S_L := S_L.ext Ex3
  have E_a0 := E_a0.ext Ex3
  have F_coder := F_coder.ext Ex3
  have F_value := F_value.ext Ex3
  have V_a1 := V_a1.ext Ex3
  have Zs4 := Nat.le_trans Z0 Ex3.1
  have Kp5 := (Keep.refl h0 [a0]).ext Ex3
  refine Go.st (S' := T3.setTop (mkF m 45 #[vr a0, vr a1, vi 0, vi 1, .val .null, vr b3] [.int 1, .ref b3, .ref a0])) (fun _ kk => st3 _ (XS.astore X3.here hx rfl (hb hby d3_39) rfl rfl (l' := #[vr a0, vr a1, vi 0, vi 1, .val .null, vr b3]) rfl (XS.aloadN X3.here hx rfl (hb hby d3_41) rfl rfl (XS.aload X3.here hx rfl (hb hby d3_42) rfl rfl (XS.iloadN X3.here hx rfl (hb hby d3_44) rfl kk))))) ?_
  obtain ⟨_, _, ⟨T6, L6, k6, n6⟩, -, X6, ⟨Lc6, hQ6, l6, y6, z6⟩, st6⟩ := Jvm.LawKit.callS X3 hx (y := mN19) hown (mvT hZ (ow hw 49 rfl)) (mvT hZ (ow hw 50 rfl)) (mvT hZ (ow hw 44 rfl)) (mvT hZ (ow hw 51 rfl)) (by decide) (backOf (W := 1) (rmCd_1_0 l Z az hw [] b3 (1 : Int32) kb3 _ T3.heap n0 Zs4 V_b3 rfl) hZ (ow hw 51 rfl) (ow hw 44 rfl) (by decide) (by decide)) (g := (mkF m 45 #[vr a0, vr a1, vi 0, vi 1, .val .null, vr b3] [.int 1, .ref b3, .ref a0])) rfl (by rw [hml]; rfl) (argsL := [.ref b3, .int 1]) (rest := [.ref a0]) (lenOf pd_9 rfl) rfl (oW rfl rfl) (hb hby d3_45) (fun _ _ => ⟨rfl, rfl, (by decide : 2 + 0 ≤ _), (by decide : 3 + 0 ≤ _)⟩)
  dsimp only [Pt.U, Pt.locs, Pt.cells, Pt.slots] at X6 l6 y6 z6 st6 hQ6
  subst l6 y6 z6
  obtain ⟨hv6, N6q, e6⟩ := hQ6
  subst hv6
  have N6 := Fr.app N3 N6q
  refine Go.st (S' := T6.setTop (mkF m 48 #[vr a0, vr a1, vi 0, vi 1, .val .null, vr b3] [.int 0, .ref a0])) st6 ?_
  obtain ⟨T7, h7, X7, e7, W7, st7⟩ := putFN X6 hx hZ hown (ow hw 26 rfl) Via.refl e6 F_coder E_a0 (Or.inr ⟨(ow hw 22 rfl), rfl, hnm⟩) (ow hw 7 rfl) (ty := .byte) (v' := .int (nar .byte (0 : Int32))) (by decide) rfl (fits_nar_byte _) (g := (mkF m 48 #[vr a0, vr a1, vi 0, vi 1, .val .null, vr b3] [.int 0, .ref a0])) rfl rfl (hb hby d3_48)
  have N7 := Fr.snoc X7 N6 g_a0
  have F_coder := F_coder.same W7
  have S_C := S_C.wr W7
  have S_F := S_F.wr W7
  have S_A := S_A.wr W7
  have S_H := S_H.wr W7
  have S_L := S_L.wr W7
  have E_a0 := E_a0.wr W7
  have F_value := F_value.other W7 (Or.inr (slot_ne (Or.inr (ow hw 21 rfl)) (Or.inr (ow hw 22 rfl)) (by decide) (t := (.array .byte)) (t' := .byte) (by decide) (by decide)))
  have V_a1 := V_a1.other W7 (Ne.symm ne)
  have E_b3 := E_b3.wr W7
  have V_b3 := V_b3.other W7 (Ne.symm ne_a0_b3)
  have Zs8 := Nat.le_trans Zs4 (Keep.of_wr W7).1
  have Kp9 := Kp5.wr W7 (Or.inl (List.mem_of_getElem? (i := 0) rfl))
  refine Go.st (S' := T7.setTop (mkF m 54 #[vr a0, vr a1, vi 0, vi 1, .val .null, vr b3] [.ref b3, .ref a0])) (fun _ kk => st7 _ (XS.aloadN X7.here hx rfl (hb hby d3_51) rfl rfl (XS.aload X7.here hx rfl (hb hby d3_52) rfl rfl kk))) ?_
  obtain ⟨T10, h10, X10, e10, W10, st10⟩ := putF X7 hx hZ hown (host := "") (Or.inl (ow hw 25 rfl)) Via.refl e7 F_value E_a0 (Or.inr ⟨(ow hw 21 rfl), rfl, hnm⟩) (ow hw 7 rfl) (ty := (.array .byte)) (by decide) rfl rfl (g := (mkF m 54 #[vr a0, vr a1, vi 0, vi 1, .val .null, vr b3] [.ref b3, .ref a0])) rfl rfl (hb hby d3_54)
  have N10 := Fr.snoc X10 N7 g_a0
  have F_value := F_value.same W10
  have S_C := S_C.wr W10
  have S_F := S_F.wr W10
  have S_A := S_A.wr W10
  have S_H := S_H.wr W10
  have S_L := S_L.wr W10
  have E_a0 := E_a0.wr W10
  have F_coder := F_coder.other W10 (Or.inr (slot_ne (Or.inr (ow hw 22 rfl)) (Or.inr (ow hw 21 rfl)) (by decide) (t := .byte) (t' := (.array .byte)) (by decide) (by decide)))
  have V_a1 := V_a1.other W10 (Ne.symm ne)
  have E_b3 := E_b3.wr W10
  have V_b3 := V_b3.other W10 (Ne.symm ne_a0_b3)
  have Zs11 := Nat.le_trans Zs8 (Keep.of_wr W10).1
  have Kp12 := Kp9.wr W10 (Or.inl (List.mem_of_getElem? (i := 0) rfl))
  refine Go.st (S' := T10.setTop (mkF m 57 #[vr a0, vr a1, vi 0, vi 1, .val .null, vr b3] [])) st10 ?_
  exact Go.ret0 X10 hx hlk Bd.returns (hb hby d3_57) (by rw [e10]; exact ⟨rfl, N10, Kp12, E_a0, _, _, _, _, (([c1] : List Int32).map own_lo8), F_coder, F_value, V_b3, Or.inl ⟨rfl, rfl, rfl, (List.forall_mem_cons.mpr ⟨own_sm y1 u1, (fun _ hx => nomatch hx)⟩)⟩⟩) (by decide) (by decide)
theorem d2_0 : decode jdk_42_method_3_code 0 = .ok (.aload_n 0, 1) := by decide +kernel
theorem d2_1 : decode jdk_42_method_3_code 1 = .ok (.aload_n 1, 1) := by decide +kernel
theorem d2_2 : decode jdk_42_method_3_code 2 = .ok (.iconst 0, 1) := by decide +kernel
theorem d2_3 : decode jdk_42_method_3_code 3 = .ok (.aload_n 1, 1) := by decide +kernel
theorem d2_4 : decode jdk_42_method_3_code 4 = .ok (.arraylength, 1) := by decide +kernel
theorem d2_5 : decode jdk_42_method_3_code 5 = .ok (.aconst_null, 1) := by decide +kernel
theorem d2_6 : decode jdk_42_method_3_code 6 = .ok (.invokespecial 27, 3) := by decide +kernel
theorem d2_9 : decode jdk_42_method_3_code 9 = .ok (.return_, 1) := by decide +kernel
theorem ef_2 (m : MethodId) (a0 : Addr) (a1 : Addr) : entryFrame m #[(.ref a0), (.ref a1)] 2 = mkF m 0 #[.val (.ref a0), .val (.ref a1)] [] := by first | (simp [entryFrame, mkF, argsToLocals, Value.category]; done) | rfl
theorem rmI1_1 (l : Launch) (Z : State) (az : Array Value) (hw : HW az Z) (ws : List Jvm.Cond) (a0 : Addr) (a1 : Addr) (zc : Int32) (fm : Value) (k1 : ClassId) (c1 : Int32) (h0 : Heap) (n0 : Nat) (Z0 : n0 ≤ h0.size) (S_C : tS0 Z h0 (.int zc)) (hzc : ¬ zc = 0) (S_F : tS1 Z h0 fm) (hfm : fm.isRef = true) (S_A : tS2 Z h0 (.int 1)) (S_H : tS3 Z h0 (.int 0)) (S_L : tS4 Z h0 (.int 8)) (E_a0 : Exa Z h0 a0 "java/lang/String") (F_coder : tF0 Z h0 a0 (.int 0)) (F_value : tF1 Z h0 a0 .null) (g_a0 : n0 ≤ a0) (ne : a0 ≠ a1) (V_a1 : Arv Z h0 a1 k1 .char (1 : Int32) [(.int c1)] (.int 0)) (y1 : 0 ≤ c1.toInt ∧ c1.toInt ≤ 65535) :
    MF l mN9 (Jvm.Cond.code mN9 jdk_42_method_3_code 2 none :: ws) (rO 5 2 3 74) #[(.ref a0), (.ref a1)] Z h0 (Q_in_1 Z a0 c1 h0 n0) := by
  refine MetFree.of_bodySF (plainFor_of_name pn_1) hisR ?_
  intro p e s m args below meth c s₁ Bd hml0 hP hK
  obtain ⟨rfl, hZ, hh⟩ := hP
  have hx := Bd.exec
  have hby := Bd.bytes
  have hlk : meth.locks = false := Bd.notSynchronized
  have hml : c.maxLocals = 2 := hml0
  have hown : s.vm.findClass "java/lang/String" = some m.cls := findClass_of_methodNamed Bd.named
  have X0 : Stand p l e (rO 5 2 3 74) s m #[(.ref a0), (.ref a1)] below meth c s₁ [] 0 0 := Stand.of_body Bd
  have e0 : s₁.heap = h0 := by rw [← hh, Bd.state]; rfl
  have N0 := Fr.nil n0
  show Go p e below s ((Q_in_1 Z a0 c1 h0 n0)) (rO 5 2 3 74).cells (rO 5 2 3 74).slots (s₁.setTop (entryFrame m #[(.ref a0), (.ref a1)] 2))
  rw [ef_2 m a0 a1]
  refine Go.st (S' := s₁.setTop (mkF m 4 #[vr a0, vr a1] [.ref a1, .int 0, .ref a1, .ref a0])) (fun _ kk => XS.aloadN X0.here hx rfl (hb hby d2_0) rfl rfl (XS.aloadN X0.here hx rfl (hb hby d2_1) rfl rfl (XS.iconst X0.here hx rfl (hb hby d2_2) (XS.aloadN X0.here hx rfl (hb hby d2_3) rfl rfl kk)))) ?_
  obtain ⟨cl1, Ar1, -, S1, Ng1, -, -⟩ := (id V_a1)
  refine Go.st (S' := s₁.setTop (mkF m 5 #[vr a0, vr a1] [.int 1, .int 0, .ref a1, .ref a0])) (fun _ kk => X0.arraylength hx (by rw [e0]; exact Ar1.1) (State.isArrayOf_alike hZ.alike Ar1.2.1) (g := (mkF m 4 #[vr a0, vr a1] [.ref a1, .int 0, .ref a1, .ref a0])) rfl rfl (hb hby d2_4) _ (by rw [len_of S1 Ng1]; exact kk)) ?_
  refine Go.st (S' := s₁.setTop (mkF m 6 #[vr a0, vr a1] [.null, .int 1, .int 0, .ref a1, .ref a0])) (fun _ kk => XS.aconstNull X0.here hx rfl (hb hby d2_5) kk) ?_
  by_cases hc2 : (255 : Int32) < c1
  · obtain ⟨_, _, ⟨T3, L3, k3, n3⟩, -, X3, ⟨Lc3, hQ3, l3, y3, z3⟩, st3⟩ := X0.specialBack hx (y := mN10) rfl hown (mvT hZ (ow hw 12 rfl)) (mvT hZ (ow hw 13 rfl)) (mvT hZ (ow hw 15 rfl)) (by decide) (backOf (W := 0) (rmI5_1_0 l Z az hw [] a0 a1 (0 : Int32) (1 : Int32) zc fm k1 c1 h0 n0 Z0 S_C hzc S_F hfm S_A S_H S_L E_a0 F_coder F_value g_a0 ne V_a1 rfl rfl y1 hc2) hZ (ow hw 15 rfl) (ow hw 8 rfl) (by decide) (by decide)) (g := (mkF m 6 #[vr a0, vr a1] [.null, .int 1, .int 0, .ref a1, .ref a0])) rfl (by rw [hml]; rfl) (Steps.refl _) (a := a0) (argsL := [.ref a1, .int 0, .int 1, .null]) (rest := []) (lenOf pd_2 rfl) rfl (oW rfl rfl) (hb hby d2_6) (fun _ _ => ⟨rfl, e0, (by decide : 0 + 2 ≤ _), (by decide : 0 + 3 ≤ _)⟩)
    dsimp only [Pt.U, Pt.locs, Pt.cells, Pt.slots] at X3 l3 y3 z3 st3 hQ3
    subst l3 y3 z3
    obtain ⟨rfl, N3q, K3, CS3⟩ := hQ3
    have N3 := Fr.app N0 N3q
    have S_C := own_stak K3 (allS (P := fun x => ∀ cell : Cell, (h0)[x]? = some cell → cell.vm.isStatics = false) (Exa.nostat E_a0) all0) S_C
    have S_F := own_stak K3 (allS (P := fun x => ∀ cell : Cell, (h0)[x]? = some cell → cell.vm.isStatics = false) (Exa.nostat E_a0) all0) S_F
    have S_A := own_stak K3 (allS (P := fun x => ∀ cell : Cell, (h0)[x]? = some cell → cell.vm.isStatics = false) (Exa.nostat E_a0) all0) S_A
    have S_H := own_stak K3 (allS (P := fun x => ∀ cell : Cell, (h0)[x]? = some cell → cell.vm.isStatics = false) (Exa.nostat E_a0) all0) S_H
    have S_L := own_stak K3 (allS (P := fun x => ∀ cell : Cell, (h0)[x]? = some cell → cell.vm.isStatics = false) (Exa.nostat E_a0) all0) S_L
    have E_a0 := E_a0.keep K3
    have V_a1 := V_a1.keep K3 (ninS (Ne.symm ne) nin0)
    have Zs4 := Nat.le_trans Z0 K3.1
    have Kp5 := (Keep.refl h0 [a0]).trans K3 (allS (Or.inl (List.mem_of_getElem? (i := 0) rfl)) all0)
    have Ec3 := CS3.1
    refine Go.tr (S' := T3.setTop (mkF m 9 #[vr a0, vr a1] [])) st3 ?_
    exact Go.ret0 X3 hx hlk Bd.returns (hb hby d2_9) (by exact ⟨rfl, N3, Kp5, CS3⟩) (by decide) (by decide)
  · obtain ⟨_, _, ⟨T6, L6, k6, n6⟩, -, X6, ⟨Lc6, hQ6, l6, y6, z6⟩, st6⟩ := X0.specialBack hx (y := mN10) rfl hown (mvT hZ (ow hw 12 rfl)) (mvT hZ (ow hw 13 rfl)) (mvT hZ (ow hw 15 rfl)) (by decide) (backOf (W := 0) (rmI5_1_1 l Z az hw [] a0 a1 (0 : Int32) (1 : Int32) zc fm k1 c1 h0 n0 Z0 S_C hzc S_F hfm S_A S_H S_L E_a0 F_coder F_value g_a0 ne V_a1 rfl rfl y1 hc2) hZ (ow hw 15 rfl) (ow hw 8 rfl) (by decide) (by decide)) (g := (mkF m 6 #[vr a0, vr a1] [.null, .int 1, .int 0, .ref a1, .ref a0])) rfl (by rw [hml]; rfl) (Steps.refl _) (a := a0) (argsL := [.ref a1, .int 0, .int 1, .null]) (rest := []) (lenOf pd_2 rfl) rfl (oW rfl rfl) (hb hby d2_6) (fun _ _ => ⟨rfl, e0, (by decide : 0 + 2 ≤ _), (by decide : 0 + 3 ≤ _)⟩)
    dsimp only [Pt.U, Pt.locs, Pt.cells, Pt.slots] at X6 l6 y6 z6 st6 hQ6
    subst l6 y6 z6
    obtain ⟨rfl, N6q, K6, CS6⟩ := hQ6
    have N6 := Fr.app N0 N6q
    have S_C := own_stak K6 (allS (P := fun x => ∀ cell : Cell, (h0)[x]? = some cell → cell.vm.isStatics = false) (Exa.nostat E_a0) all0) S_C
    have S_F := own_stak K6 (allS (P := fun x => ∀ cell : Cell, (h0)[x]? = some cell → cell.vm.isStatics = false) (Exa.nostat E_a0) all0) S_F
    have S_A := own_stak K6 (allS (P := fun x => ∀ cell : Cell, (h0)[x]? = some cell → cell.vm.isStatics = false) (Exa.nostat E_a0) all0) S_A
    have S_H := own_stak K6 (allS (P := fun x => ∀ cell : Cell, (h0)[x]? = some cell → cell.vm.isStatics = false) (Exa.nostat E_a0) all0) S_H
    have S_L := own_stak K6 (allS (P := fun x => ∀ cell : Cell, (h0)[x]? = some cell → cell.vm.isStatics = false) (Exa.nostat E_a0) all0) S_L
    have E_a0 := E_a0.keep K6
    have V_a1 := V_a1.keep K6 (ninS (Ne.symm ne) nin0)
    have Zs7 := Nat.le_trans Z0 K6.1
    have Kp8 := (Keep.refl h0 [a0]).trans K6 (allS (Or.inl (List.mem_of_getElem? (i := 0) rfl)) all0)
    have Ec6 := CS6.1
    refine Go.tr (S' := T6.setTop (mkF m 9 #[vr a0, vr a1] [])) st6 ?_
    exact Go.ret0 X6 hx hlk Bd.returns (hb hby d2_9) (by exact ⟨rfl, N6, Kp8, CS6⟩) (by decide) (by decide)
def Q_nf_2 (Z : State)  (h0 : Heap) (n0 : Nat) (v : Option Value) (h : Heap) (L : List Loc) : Prop := ∃ (b : Addr) (k : ClassId), v = some (.ref b) ∧ Fr n0 L ∧ Keep h0 h [] ∧ Arv Z h b k .byte (4 : Int32) [(.int 0), (.int 0), (.int 0), (.int 0)] (.int 0) ∧ Exa Z h b "[B" ∧ h0.size ≤ b
theorem rmNF_2 (l : Launch) (Z : State) (az : Array Value) (hw : HW az Z) (ws : List Jvm.Cond) (p0 : Int32)  (h0 : Heap) (n0 : Nat) (Z0 : n0 ≤ h0.size) (h1 : p0 = (2 : Int32)) :
    MF l mN24 (Jvm.Cond.code mN24 jdk_52_method_2_code 1 (some (.array .byte)) :: ws) (rO 1 1 4 12) #[(.int p0)] Z h0 (Q_nf_2 Z h0 n0) := by
  refine MetFree.of_bodySF (plainFor_of_name pn_3) hisR ?_
  intro p e s m args below meth c s₁ Bd hml0 hP hK
  obtain ⟨rfl, hZ, hh⟩ := hP
  have hx := Bd.exec
  have hby := Bd.bytes
  have hlk : meth.locks = false := Bd.notSynchronized
  have hml : c.maxLocals = 1 := hml0
  have hown : s.vm.findClass "java/lang/StringUTF16" = some m.cls := findClass_of_methodNamed Bd.named
  have X0 : Stand p l e (rO 1 1 4 12) s m #[(.int p0)] below meth c s₁ [] 0 0 := Stand.of_body Bd
  have e0 : s₁.heap = h0 := by rw [← hh, Bd.state]; rfl
  have N0 := Fr.nil n0
  show Go p e below s ((Q_nf_2 Z h0 n0)) (rO 1 1 4 12).cells (rO 1 1 4 12).slots (s₁.setTop (entryFrame m #[(.int p0)] 1))
  rw [ef_23 m p0]
  subst h1
  refine Go.st (S' := s₁.setTop (mkF m 1 #[vi 2] [.int 2])) (fun _ kk => XS.iloadN X0.here hx rfl (hb hby d23_0) rfl kk) ?_
  obtain ⟨_, _, ⟨T1, L1, k1, n1⟩, -, X1, ⟨Lc1, hQ1, l1, y1, z1⟩, st1⟩ := Jvm.LawKit.callS X0 hx (y := mN25) hown (mvT hZ (ow hw 102 rfl)) (mvT hZ (ow hw 103 rfl)) (mvT hZ (ow hw 44 rfl)) (mvT hZ (ow hw 104 rfl)) (by decide) (backOf (W := 0) (rmNL l Z az hw [] (2 : Int32) h0 n0 Z0 (by decide) (by decide)) hZ (ow hw 104 rfl) (ow hw 44 rfl) (by decide) (by decide)) (g := (mkF m 1 #[vi 2] [.int 2])) rfl (by rw [hml]; rfl) (argsL := [.int 2]) (rest := []) (lenOf pd_18 rfl) rfl (oW rfl rfl) (hb hby d23_1) (fun _ _ => ⟨rfl, e0, (by decide : 0 + 0 ≤ _), (by decide : 0 + 0 ≤ _)⟩)
  dsimp only [Pt.U, Pt.locs, Pt.cells, Pt.slots] at X1 l1 y1 z1 st1 hQ1
  subst l1 y1 z1
  obtain ⟨hv1, N1q, e1⟩ := hQ1
  subst hv1
  have N1 := Fr.app N0 N1q
  refine Go.st (S' := T1.setTop (mkF m 4 #[vi 2] [.int ((2 : Int32) <<< ((1 : Int32) &&& 31))])) st1 ?_
  rw [show ((2 : Int32) <<< ((1 : Int32) &&& 31)) = (4 : Int32) from by decide]
  obtain ⟨T2, h2, k2, X2, e2, E2, A2, E_b2, st2⟩ := newPE X1 hx hZ (ow hw 20 rfl) e1 (g := (mkF m 4 #[vi 2] [.int 4])) rfl (hb hby d23_4) rfl (by decide) (cap := 4) (by decide) (by decide) (by decide : 0 + 1 ≤ _) (by decide : 0 + 4 ≤ _) (ad := "[B") rfl
  obtain ⟨b2, g2⟩ : ∃ z, z = h0.size := ⟨_, rfl⟩
  rw [← g2] at A2 E_b2 st2
  have g_b2 : n0 ≤ b2 := Nat.le_trans Z0 (Nat.le_of_eq g2.symm)
  have sz_b2 : h0.size ≤ b2 := Nat.le_trans (Keep.refl h0 []).1 (Nat.le_of_eq g2.symm)
  have Zs3 := Nat.le_trans Z0 E2.1
  have Kp4 := (Keep.refl h0 []).ext E2
  have V_b2 : Arv Z h2 b2 k2 .byte (4 : Int32) [(.int 0), (.int 0), (.int 0), (.int 0)] (.int 0) := (Arv.new A2 (by decide)).pad (pad_rep [] (.int 0) 4)
  refine Go.st (S' := T2.setTop (mkF m 6 #[vi 2] [.ref b2])) st2 ?_
  exact Go.retA X2 hx hlk Bd.returns rfl rfl (hb hby d23_6) (by rw [e2]; exact ⟨_, _, rfl, N1, Kp4, V_b2, E_b2, sz_b2⟩) (by decide) (by decide)
def Q_pc_2_0 (Z : State) (a0 : Addr) (k0 : ClassId) (p2 : Int32) (eb1 : Int32) (eb2 : Int32) (eb3 : Int32) (eb4 : Int32) (h0 : Heap) (n0 : Nat) (v : Option Value) (h : Heap) (L : List Loc) : Prop := v = none ∧ Fr n0 L ∧ Keep h0 h [a0] ∧ Arv Z h a0 k0 .byte (4 : Int32) [(.int (((p2 >>> ((0 : Int32) &&& 31)).toInt8.toInt32).toInt8.toInt32)), (.int (((p2 >>> ((8 : Int32) &&& 31)).toInt8.toInt32).toInt8.toInt32)), (.int eb3), (.int eb4)] (.int 0)
theorem rmPC_2_0 (l : Launch) (Z : State) (az : Array Value) (hw : HW az Z) (ws : List Jvm.Cond) (a0 : Addr) (p1 : Int32) (p2 : Int32) (zc : Int32) (fm : Value) (k0 : ClassId) (eb1 : Int32) (eb2 : Int32) (eb3 : Int32) (eb4 : Int32) (h0 : Heap) (n0 : Nat) (Z0 : n0 ≤ h0.size) (S_C : tS0 Z h0 (.int zc)) (hzc : ¬ zc = 0) (S_F : tS1 Z h0 fm) (hfm : fm.isRef = true) (S_A : tS2 Z h0 (.int 1)) (S_H : tS3 Z h0 (.int 0)) (S_L : tS4 Z h0 (.int 8)) (V_a0 : Arv Z h0 a0 k0 .byte (4 : Int32) [(.int eb1), (.int eb2), (.int eb3), (.int eb4)] (.int 0)) (E_a0 : Exa Z h0 a0 "[B") (g_a0 : n0 ≤ a0) (h1 : p1 = (0 : Int32)) :
    MF l mN26 (Jvm.Cond.code mN26 jdk_52_method_4_code 3 none :: ws) (rO 0 0 0 0) #[(.ref a0), (.int p1), (.int p2)] Z h0 (Q_pc_2_0 Z a0 k0 p2 eb1 eb2 eb3 eb4 h0 n0) := by
  refine MetFree.of_bodySF (plainFor_of_name pn_3) hisR ?_
  intro p e s m args below meth c s₁ Bd hml0 hP hK
  obtain ⟨rfl, hZ, hh⟩ := hP
  have hx := Bd.exec
  have hby := Bd.bytes
  have hlk : meth.locks = false := Bd.notSynchronized
  have hml : c.maxLocals = 3 := hml0
  have hown : s.vm.findClass "java/lang/StringUTF16" = some m.cls := findClass_of_methodNamed Bd.named
  have X0 : Stand p l e (rO 0 0 0 0) s m #[(.ref a0), (.int p1), (.int p2)] below meth c s₁ [] 0 0 := Stand.of_body Bd
  have e0 : s₁.heap = h0 := by rw [← hh, Bd.state]; rfl
  have N0 := Fr.nil n0
  show Go p e below s ((Q_pc_2_0 Z a0 k0 p2 eb1 eb2 eb3 eb4 h0 n0)) (rO 0 0 0 0).cells (rO 0 0 0 0).slots (s₁.setTop (entryFrame m #[(.ref a0), (.int p1), (.int p2)] 3))
  rw [ef_25 m a0 p1 p2]
  subst h1
  obtain ⟨T1, X1, e1, st1⟩ := getS2 X0 hx hZ hown (host := "") (Or.inl (ow hw 109 rfl)) Via.refl e0 S_A (g := (mkF m 0 #[vr a0, vi 0, vi p2] [])) rfl (hb hby d25_0)
  refine Go.st (S' := T1.setTop (mkF m 31 #[vr a0, vi 0, vi p2] [.int ((0 : Int32) <<< ((1 : Int32) &&& 31))])) (fun _ kk => st1 _ (XS.ifYes X1.here hx rfl (pc0 := 3) (pc' := 28) rfl (hb hby d25_3) rfl ((if0 _ _).trans (feq (by decide : ¬ ((1 : Int32) = (0 : Int32)))).2) (by decide) (by decide) (XS.iloadN X1.here hx rfl (hb hby d25_28) rfl (XS.iconst X1.here hx rfl (hb hby d25_29) (XS.ishl X1.here hx rfl (hb hby d25_30) rfl kk))))) ?_
  rw [show ((0 : Int32) <<< ((1 : Int32) &&& 31)) = (0 : Int32) from by decide]
  refine Go.st (S' := T1.setTop (mkF m 38 #[vr a0, vi 1, vi p2] [.int p2, .int 0, .ref a0])) (fun _ kk => XS.istoreN X1.here hx rfl (hb hby d25_31) rfl (l' := #[vr a0, vi 0, vi p2]) rfl (XS.aloadN X1.here hx rfl (hb hby d25_32) rfl rfl (XS.iloadN X1.here hx rfl (hb hby d25_33) rfl (XS.iinc X1.here hx rfl (hb hby d25_34) rfl (l' := #[vr a0, vi 1, vi p2]) rfl (XS.iloadN X1.here hx rfl (hb hby d25_37) rfl kk))))) ?_
  obtain ⟨T2, X2, e2, st2⟩ := getS2 X1 hx hZ hown (host := "") (Or.inl (ow hw 110 rfl)) Via.refl e1 S_H (g := (mkF m 38 #[vr a0, vi 1, vi p2] [.int p2, .int 0, .ref a0])) rfl (hb hby d25_38)
  refine Go.st (S' := T2.setTop (mkF m 43 #[vr a0, vi 1, vi p2] [.int ((p2 >>> ((0 : Int32) &&& 31)).toInt8.toInt32), .int 0, .ref a0])) (fun _ kk => st2 _ (XS.ishr X2.here hx rfl (hb hby d25_41) rfl (XS.i2b X2.here hx rfl (hb hby d25_42) rfl kk))) ?_
  obtain ⟨cl3, Ar3, qk3, S3, Ng3, H3, G3⟩ := (id V_a0)
  have hin3 : ¬ ((0 : Int32) < 0 ∨ cl3.slots.size ≤ ((0 : Int32)).toNatClampNeg) := inb_of S3 ⟨by decide, by decide⟩
  obtain ⟨T3, h3, X3, e3, W3, st3⟩ := stB X2 hx hZ e2 Ar3 (j := (0 : Int32)) hin3 (g := (mkF m 43 #[vr a0, vi 1, vi p2] [.int ((p2 >>> ((0 : Int32) &&& 31)).toInt8.toInt32), .int 0, .ref a0])) rfl rfl (hb hby d25_43)
  have V_a0 : Arv Z h3 a0 k0 .byte (4 : Int32) [(.int (((p2 >>> ((0 : Int32) &&& 31)).toInt8.toInt32).toInt8.toInt32)), (.int eb2), (.int eb3), (.int eb4)] (.int 0) := Arv.set Ar3 qk3 S3 Ng3 H3 G3 (fits_nar_byte _) W3 0 rfl (Nat.le_of_ble_eq_true rfl)
  have N3 := Fr.snoc X3 N0 g_a0
  have S_C := S_C.wr W3
  have S_F := S_F.wr W3
  have S_A := S_A.wr W3
  have S_H := S_H.wr W3
  have S_L := S_L.wr W3
  have E_a0 := E_a0.wr W3
  have Zs4 := Nat.le_trans Z0 (Keep.of_wr W3).1
  have Kp5 := (Keep.refl h0 [a0]).wr W3 (Or.inl (List.mem_of_getElem? (i := 0) rfl))
  refine Go.st (S' := T3.setTop (mkF m 47 #[vr a0, vi 1, vi p2] [.int p2, .int 1, .ref a0])) (fun _ kk => st3 _ (XS.aloadN X3.here hx rfl (hb hby d25_44) rfl rfl (XS.iloadN X3.here hx rfl (hb hby d25_45) rfl (XS.iloadN X3.here hx rfl (hb hby d25_46) rfl kk)))) ?_
  obtain ⟨T6, X6, e6, st6⟩ := getS2 X3 hx hZ hown (host := "") (Or.inl (ow hw 111 rfl)) Via.refl e3 S_L (g := (mkF m 47 #[vr a0, vi 1, vi p2] [.int p2, .int 1, .ref a0])) rfl (hb hby d25_47)
  refine Go.st (S' := T6.setTop (mkF m 52 #[vr a0, vi 1, vi p2] [.int ((p2 >>> ((8 : Int32) &&& 31)).toInt8.toInt32), .int 1, .ref a0])) (fun _ kk => st6 _ (XS.ishr X6.here hx rfl (hb hby d25_50) rfl (XS.i2b X6.here hx rfl (hb hby d25_51) rfl kk))) ?_
  obtain ⟨cl7, Ar7, qk7, S7, Ng7, H7, G7⟩ := (id V_a0)
  have hin7 : ¬ ((1 : Int32) < 0 ∨ cl7.slots.size ≤ ((1 : Int32)).toNatClampNeg) := inb_of S7 ⟨by decide, by decide⟩
  obtain ⟨T7, h7, X7, e7, W7, st7⟩ := stB X6 hx hZ e6 Ar7 (j := (1 : Int32)) hin7 (g := (mkF m 52 #[vr a0, vi 1, vi p2] [.int ((p2 >>> ((8 : Int32) &&& 31)).toInt8.toInt32), .int 1, .ref a0])) rfl rfl (hb hby d25_52)
  have V_a0 : Arv Z h7 a0 k0 .byte (4 : Int32) [(.int (((p2 >>> ((0 : Int32) &&& 31)).toInt8.toInt32).toInt8.toInt32)), (.int (((p2 >>> ((8 : Int32) &&& 31)).toInt8.toInt32).toInt8.toInt32)), (.int eb3), (.int eb4)] (.int 0) := Arv.set Ar7 qk7 S7 Ng7 H7 G7 (fits_nar_byte _) W7 1 rfl (Nat.le_of_ble_eq_true rfl)
  have N7 := Fr.snoc X7 N3 g_a0
  have S_C := S_C.wr W7
  have S_F := S_F.wr W7
  have S_A := S_A.wr W7
  have S_H := S_H.wr W7
  have S_L := S_L.wr W7
  have E_a0 := E_a0.wr W7
  have Zs8 := Nat.le_trans Zs4 (Keep.of_wr W7).1
  have Kp9 := Kp5.wr W7 (Or.inl (List.mem_of_getElem? (i := 0) rfl))
  refine Go.st (S' := T7.setTop (mkF m 53 #[vr a0, vi 1, vi p2] [])) st7 ?_
  exact Go.ret0 X7 hx hlk Bd.returns (hb hby d25_53) (by rw [e7]; exact ⟨rfl, N7, Kp9, V_a0⟩) (by decide) (by decide)
def Q_pc_2_1 (Z : State) (a0 : Addr) (k0 : ClassId) (p2 : Int32) (eb1 : Int32) (eb2 : Int32) (eb3 : Int32) (eb4 : Int32) (h0 : Heap) (n0 : Nat) (v : Option Value) (h : Heap) (L : List Loc) : Prop := v = none ∧ Fr n0 L ∧ Keep h0 h [a0] ∧ Arv Z h a0 k0 .byte (4 : Int32) [(.int eb1), (.int eb2), (.int (((p2 >>> ((0 : Int32) &&& 31)).toInt8.toInt32).toInt8.toInt32)), (.int (((p2 >>> ((8 : Int32) &&& 31)).toInt8.toInt32).toInt8.toInt32))] (.int 0)
theorem rmPC_2_1 (l : Launch) (Z : State) (az : Array Value) (hw : HW az Z) (ws : List Jvm.Cond) (a0 : Addr) (p1 : Int32) (p2 : Int32) (zc : Int32) (fm : Value) (k0 : ClassId) (eb1 : Int32) (eb2 : Int32) (eb3 : Int32) (eb4 : Int32) (h0 : Heap) (n0 : Nat) (Z0 : n0 ≤ h0.size) (S_C : tS0 Z h0 (.int zc)) (hzc : ¬ zc = 0) (S_F : tS1 Z h0 fm) (hfm : fm.isRef = true) (S_A : tS2 Z h0 (.int 1)) (S_H : tS3 Z h0 (.int 0)) (S_L : tS4 Z h0 (.int 8)) (V_a0 : Arv Z h0 a0 k0 .byte (4 : Int32) [(.int eb1), (.int eb2), (.int eb3), (.int eb4)] (.int 0)) (E_a0 : Exa Z h0 a0 "[B") (g_a0 : n0 ≤ a0) (h1 : p1 = (1 : Int32)) :
    MF l mN26 (Jvm.Cond.code mN26 jdk_52_method_4_code 3 none :: ws) (rO 0 0 0 0) #[(.ref a0), (.int p1), (.int p2)] Z h0 (Q_pc_2_1 Z a0 k0 p2 eb1 eb2 eb3 eb4 h0 n0) := by
  refine MetFree.of_bodySF (plainFor_of_name pn_3) hisR ?_
  intro p e s m args below meth c s₁ Bd hml0 hP hK
  obtain ⟨rfl, hZ, hh⟩ := hP
  have hx := Bd.exec
  have hby := Bd.bytes
  have hlk : meth.locks = false := Bd.notSynchronized
  have hml : c.maxLocals = 3 := hml0
  have hown : s.vm.findClass "java/lang/StringUTF16" = some m.cls := findClass_of_methodNamed Bd.named
  have X0 : Stand p l e (rO 0 0 0 0) s m #[(.ref a0), (.int p1), (.int p2)] below meth c s₁ [] 0 0 := Stand.of_body Bd
  have e0 : s₁.heap = h0 := by rw [← hh, Bd.state]; rfl
  have N0 := Fr.nil n0
  show Go p e below s ((Q_pc_2_1 Z a0 k0 p2 eb1 eb2 eb3 eb4 h0 n0)) (rO 0 0 0 0).cells (rO 0 0 0 0).slots (s₁.setTop (entryFrame m #[(.ref a0), (.int p1), (.int p2)] 3))
  rw [ef_25 m a0 p1 p2]
  subst h1
  obtain ⟨T1, X1, e1, st1⟩ := getS2 X0 hx hZ hown (host := "") (Or.inl (ow hw 109 rfl)) Via.refl e0 S_A (g := (mkF m 0 #[vr a0, vi 1, vi p2] [])) rfl (hb hby d25_0)
  refine Go.st (S' := T1.setTop (mkF m 31 #[vr a0, vi 1, vi p2] [.int ((1 : Int32) <<< ((1 : Int32) &&& 31))])) (fun _ kk => st1 _ (XS.ifYes X1.here hx rfl (pc0 := 3) (pc' := 28) rfl (hb hby d25_3) rfl ((if0 _ _).trans (feq (by decide : ¬ ((1 : Int32) = (0 : Int32)))).2) (by decide) (by decide) (XS.iloadN X1.here hx rfl (hb hby d25_28) rfl (XS.iconst X1.here hx rfl (hb hby d25_29) (XS.ishl X1.here hx rfl (hb hby d25_30) rfl kk))))) ?_
  rw [show ((1 : Int32) <<< ((1 : Int32) &&& 31)) = (2 : Int32) from by decide]
  refine Go.st (S' := T1.setTop (mkF m 38 #[vr a0, vi 3, vi p2] [.int p2, .int 2, .ref a0])) (fun _ kk => XS.istoreN X1.here hx rfl (hb hby d25_31) rfl (l' := #[vr a0, vi 2, vi p2]) rfl (XS.aloadN X1.here hx rfl (hb hby d25_32) rfl rfl (XS.iloadN X1.here hx rfl (hb hby d25_33) rfl (XS.iinc X1.here hx rfl (hb hby d25_34) rfl (l' := #[vr a0, vi 3, vi p2]) rfl (XS.iloadN X1.here hx rfl (hb hby d25_37) rfl kk))))) ?_
  obtain ⟨T2, X2, e2, st2⟩ := getS2 X1 hx hZ hown (host := "") (Or.inl (ow hw 110 rfl)) Via.refl e1 S_H (g := (mkF m 38 #[vr a0, vi 3, vi p2] [.int p2, .int 2, .ref a0])) rfl (hb hby d25_38)
  refine Go.st (S' := T2.setTop (mkF m 43 #[vr a0, vi 3, vi p2] [.int ((p2 >>> ((0 : Int32) &&& 31)).toInt8.toInt32), .int 2, .ref a0])) (fun _ kk => st2 _ (XS.ishr X2.here hx rfl (hb hby d25_41) rfl (XS.i2b X2.here hx rfl (hb hby d25_42) rfl kk))) ?_
  obtain ⟨cl3, Ar3, qk3, S3, Ng3, H3, G3⟩ := (id V_a0)
  have hin3 : ¬ ((2 : Int32) < 0 ∨ cl3.slots.size ≤ ((2 : Int32)).toNatClampNeg) := inb_of S3 ⟨by decide, by decide⟩
  obtain ⟨T3, h3, X3, e3, W3, st3⟩ := stB X2 hx hZ e2 Ar3 (j := (2 : Int32)) hin3 (g := (mkF m 43 #[vr a0, vi 3, vi p2] [.int ((p2 >>> ((0 : Int32) &&& 31)).toInt8.toInt32), .int 2, .ref a0])) rfl rfl (hb hby d25_43)
  have V_a0 : Arv Z h3 a0 k0 .byte (4 : Int32) [(.int eb1), (.int eb2), (.int (((p2 >>> ((0 : Int32) &&& 31)).toInt8.toInt32).toInt8.toInt32)), (.int eb4)] (.int 0) := Arv.set Ar3 qk3 S3 Ng3 H3 G3 (fits_nar_byte _) W3 2 rfl (Nat.le_of_ble_eq_true rfl)
  have N3 := Fr.snoc X3 N0 g_a0
  have S_C := S_C.wr W3
  have S_F := S_F.wr W3
  have S_A := S_A.wr W3
  have S_H := S_H.wr W3
  have S_L := S_L.wr W3
  have E_a0 := E_a0.wr W3
  have Zs4 := Nat.le_trans Z0 (Keep.of_wr W3).1
  have Kp5 := (Keep.refl h0 [a0]).wr W3 (Or.inl (List.mem_of_getElem? (i := 0) rfl))
  refine Go.st (S' := T3.setTop (mkF m 47 #[vr a0, vi 3, vi p2] [.int p2, .int 3, .ref a0])) (fun _ kk => st3 _ (XS.aloadN X3.here hx rfl (hb hby d25_44) rfl rfl (XS.iloadN X3.here hx rfl (hb hby d25_45) rfl (XS.iloadN X3.here hx rfl (hb hby d25_46) rfl kk)))) ?_
  obtain ⟨T6, X6, e6, st6⟩ := getS2 X3 hx hZ hown (host := "") (Or.inl (ow hw 111 rfl)) Via.refl e3 S_L (g := (mkF m 47 #[vr a0, vi 3, vi p2] [.int p2, .int 3, .ref a0])) rfl (hb hby d25_47)
  refine Go.st (S' := T6.setTop (mkF m 52 #[vr a0, vi 3, vi p2] [.int ((p2 >>> ((8 : Int32) &&& 31)).toInt8.toInt32), .int 3, .ref a0])) (fun _ kk => st6 _ (XS.ishr X6.here hx rfl (hb hby d25_50) rfl (XS.i2b X6.here hx rfl (hb hby d25_51) rfl kk))) ?_
  obtain ⟨cl7, Ar7, qk7, S7, Ng7, H7, G7⟩ := (id V_a0)
  have hin7 : ¬ ((3 : Int32) < 0 ∨ cl7.slots.size ≤ ((3 : Int32)).toNatClampNeg) := inb_of S7 ⟨by decide, by decide⟩
  obtain ⟨T7, h7, X7, e7, W7, st7⟩ := stB X6 hx hZ e6 Ar7 (j := (3 : Int32)) hin7 (g := (mkF m 52 #[vr a0, vi 3, vi p2] [.int ((p2 >>> ((8 : Int32) &&& 31)).toInt8.toInt32), .int 3, .ref a0])) rfl rfl (hb hby d25_52)
  have V_a0 : Arv Z h7 a0 k0 .byte (4 : Int32) [(.int eb1), (.int eb2), (.int (((p2 >>> ((0 : Int32) &&& 31)).toInt8.toInt32).toInt8.toInt32)), (.int (((p2 >>> ((8 : Int32) &&& 31)).toInt8.toInt32).toInt8.toInt32))] (.int 0) := Arv.set Ar7 qk7 S7 Ng7 H7 G7 (fits_nar_byte _) W7 3 rfl (Nat.le_of_ble_eq_true rfl)
  have N7 := Fr.snoc X7 N3 g_a0
  have S_C := S_C.wr W7
  have S_F := S_F.wr W7
  have S_A := S_A.wr W7
  have S_H := S_H.wr W7
  have S_L := S_L.wr W7
  have E_a0 := E_a0.wr W7
  have Zs8 := Nat.le_trans Zs4 (Keep.of_wr W7).1
  have Kp9 := Kp5.wr W7 (Or.inl (List.mem_of_getElem? (i := 0) rfl))
  refine Go.st (S' := T7.setTop (mkF m 53 #[vr a0, vi 3, vi p2] [])) st7 ?_
  exact Go.ret0 X7 hx hlk Bd.returns (hb hby d25_53) (by rw [e7]; exact ⟨rfl, N7, Kp9, V_a0⟩) (by decide) (by decide)
def Q_tb_2 (Z : State) (c1 : Int32) (c2 : Int32) (h0 : Heap) (n0 : Nat) (v : Option Value) (h : Heap) (L : List Loc) : Prop := ∃ (b : Addr) (k : ClassId), v = some (.ref b) ∧ Fr n0 L ∧ Keep h0 h [] ∧ Arv Z h b k .byte (4 : Int32) [(.int (((c1 >>> ((0 : Int32) &&& 31)).toInt8.toInt32).toInt8.toInt32)), (.int (((c1 >>> ((8 : Int32) &&& 31)).toInt8.toInt32).toInt8.toInt32)), (.int (((c2 >>> ((0 : Int32) &&& 31)).toInt8.toInt32).toInt8.toInt32)), (.int (((c2 >>> ((8 : Int32) &&& 31)).toInt8.toInt32).toInt8.toInt32))] (.int 0) ∧ Exa Z h b "[B" ∧ h0.size ≤ b
theorem rmTB_2 (l : Launch) (Z : State) (az : Array Value) (hw : HW az Z) (ws : List Jvm.Cond) (a0 : Addr) (p1 : Int32) (p2 : Int32) (zc : Int32) (fm : Value) (k0 : ClassId) (c1 : Int32) (c2 : Int32) (h0 : Heap) (n0 : Nat) (Z0 : n0 ≤ h0.size) (S_C : tS0 Z h0 (.int zc)) (hzc : ¬ zc = 0) (S_F : tS1 Z h0 fm) (hfm : fm.isRef = true) (S_A : tS2 Z h0 (.int 1)) (S_H : tS3 Z h0 (.int 0)) (S_L : tS4 Z h0 (.int 8)) (V_a0 : Arv Z h0 a0 k0 .char (2 : Int32) [(.int c1), (.int c2)] (.int 0)) (h1 : p1 = 0) (h2 : p2 = (2 : Int32)) :
    MF l mN27 (Jvm.Cond.code mN27 jdk_52_method_14_code 5 (some (.array .byte)) :: ws) (rO 2 1 4 24) #[(.ref a0), (.int p1), (.int p2)] Z h0 (Q_tb_2 Z c1 c2 h0 n0) := by
  refine MetFree.of_bodySF (plainFor_of_name pn_3) hisR ?_
  intro p e s m args below meth c s₁ Bd hml0 hP hK
  obtain ⟨rfl, hZ, hh⟩ := hP
  have hx := Bd.exec
  have hby := Bd.bytes
  have hlk : meth.locks = false := Bd.notSynchronized
  have hml : c.maxLocals = 5 := hml0
  have hown : s.vm.findClass "java/lang/StringUTF16" = some m.cls := findClass_of_methodNamed Bd.named
  have X0 : Stand p l e (rO 2 1 4 24) s m #[(.ref a0), (.int p1), (.int p2)] below meth c s₁ [] 0 0 := Stand.of_body Bd
  have e0 : s₁.heap = h0 := by rw [← hh, Bd.state]; rfl
  have N0 := Fr.nil n0
  show Go p e below s ((Q_tb_2 Z c1 c2 h0 n0)) (rO 2 1 4 24).cells (rO 2 1 4 24).slots (s₁.setTop (entryFrame m #[(.ref a0), (.int p1), (.int p2)] 5))
  rw [ef_22 m a0 p1 p2]
  subst h1 h2
  refine Go.st (S' := s₁.setTop (mkF m 1 #[vr a0, vi 0, vi 2, .unset, .unset] [.int 2])) (fun _ kk => XS.iloadN X0.here hx rfl (hb hby d22_0) rfl kk) ?_
  obtain ⟨_, _, ⟨T1, L1, k1, n1⟩, -, X1, ⟨Lc1, hQ1, l1, y1, z1⟩, st1⟩ := Jvm.LawKit.callS X0 hx (y := mN24) hown (mvT hZ (ow hw 99 rfl)) (mvT hZ (ow hw 100 rfl)) (mvT hZ (ow hw 44 rfl)) (mvT hZ (ow hw 101 rfl)) (by decide) (backOf (W := 0) (rmNF_2 l Z az hw [] (2 : Int32) h0 n0 Z0 rfl) hZ (ow hw 101 rfl) (ow hw 44 rfl) (by decide) (by decide)) (g := (mkF m 1 #[vr a0, vi 0, vi 2, .unset, .unset] [.int 2])) rfl (by rw [hml]; rfl) (argsL := [.int 2]) (rest := []) (lenOf pd_17 rfl) rfl (oW rfl rfl) (hb hby d22_1) (fun _ _ => ⟨rfl, e0, (by decide : 0 + 1 ≤ _), (by decide : 0 + 4 ≤ _)⟩)
  dsimp only [Pt.U, Pt.locs, Pt.cells, Pt.slots] at X1 l1 y1 z1 st1 hQ1
  subst l1 y1 z1
  obtain ⟨b1, kb1, rfl, N1q, K1, V_b1, E_b1, gb1⟩ := hQ1
  have Ex1 := own_extK K1
  have N1 := Fr.app N0 N1q
  have ne_a0_b1 : a0 ≠ b1 := Nat.ne_of_lt (Nat.lt_of_lt_of_le V_a0.lt gb1)
  have g_b1 : n0 ≤ b1 := Nat.le_trans Z0 gb1
  have sz_b1 : h0.size ≤ b1 := Nat.le_trans (Keep.refl h0 []).1 gb1
  have S_C := S_C.ext Ex1
  have S_F := S_F.ext Ex1
  have S_A := S_A.ext Ex1
  have S_H := S_H.ext Ex1
  have S_L := S_L.ext Ex1
  have V_a0 := V_a0.ext Ex1
  have Zs2 := Nat.le_trans Z0 Ex1.1
  have Kp3 := (Keep.refl h0 []).ext Ex1
  refine Go.st (S' := T1.setTop (mkF m 19 #[vr a0, vi 0, vi 2, vr b1, vi 0] [.int 0, .ref a0, .int 0, .ref b1])) (fun _ kk => st1 _ (XS.astoreN X1.here hx rfl (hb hby d22_4) rfl rfl (l' := #[vr a0, vi 0, vi 2, vr b1, .unset]) rfl (XS.iconst X1.here hx rfl (hb hby d22_5) (XS.istore X1.here hx rfl (hb hby d22_6) rfl (l' := #[vr a0, vi 0, vi 2, vr b1, vi 0]) rfl (XS.iload X1.here hx rfl (hb hby d22_8) rfl (XS.iloadN X1.here hx rfl (hb hby d22_10) rfl (XS.icmpNo X1.here hx rfl (hb hby d22_11) rfl (tlt (by decide : (0 : Int32) < (2 : Int32))).2.1 (XS.aloadN X1.here hx rfl (hb hby d22_14) rfl rfl (XS.iload X1.here hx rfl (hb hby d22_15) rfl (XS.aloadN X1.here hx rfl (hb hby d22_17) rfl rfl (XS.iloadN X1.here hx rfl (hb hby d22_18) rfl kk))))))))))) ?_
  obtain ⟨cl4, Ar4, qk4, S4, Ng4, H4, G4⟩ := (id V_a0)
  have hin4 : ¬ ((0 : Int32) < 0 ∨ cl4.slots.size ≤ ((0 : Int32)).toNatClampNeg) := inb_of S4 ⟨by decide, by decide⟩
  have hat4 : cl4.slots[((0 : Int32)).toNatClampNeg]? = some (.int c1) := Has.at H4 hin4 rfl
  refine Go.st (S' := T1.setTop (mkF m 20 #[vr a0, vi 0, vi 2, vr b1, vi 0] [.int c1, .int 0, .ref b1])) (fun _ kk => X1.caload hx (j := (0 : Int32)) (v := (.int c1)) Ar4.1 (State.isArrayOf_alike hZ.alike Ar4.2.1) Ar4.2.2 hin4 hat4 (g := (mkF m 19 #[vr a0, vi 0, vi 2, vr b1, vi 0] [.int 0, .ref a0, .int 0, .ref b1])) rfl rfl (hb hby d22_19) _ kk) ?_
  obtain ⟨_, _, ⟨T5, L5, k5, n5⟩, -, X5, ⟨Lc5, hQ5, l5, y5, z5⟩, st5⟩ := Jvm.LawKit.callS X1 hx (y := mN26) hown (mvT hZ (ow hw 106 rfl)) (mvT hZ (ow hw 107 rfl)) (mvT hZ (ow hw 44 rfl)) (mvT hZ (ow hw 108 rfl)) (by decide) (backOf (W := 0) (rmPC_2_0 l Z az hw [] b1 (0 : Int32) c1 zc fm kb1 (0 : Int32) (0 : Int32) (0 : Int32) (0 : Int32) T1.heap n0 Zs2 S_C hzc S_F hfm S_A S_H S_L V_b1 E_b1 g_b1 rfl) hZ (ow hw 108 rfl) (ow hw 44 rfl) (by decide) (by decide)) (g := (mkF m 20 #[vr a0, vi 0, vi 2, vr b1, vi 0] [.int c1, .int 0, .ref b1])) rfl (by rw [hml]; rfl) (argsL := [.ref b1, .int 0, .int c1]) (rest := []) (lenOf pd_19 rfl) rfl (oW rfl rfl) (hb hby d22_20) (fun _ _ => ⟨rfl, rfl, (by decide : 1 + 0 ≤ _), (by decide : 4 + 0 ≤ _)⟩)
  dsimp only [Pt.U, Pt.locs, Pt.cells, Pt.slots] at X5 l5 y5 z5 st5 hQ5
  subst l5 y5 z5
  obtain ⟨rfl, N5q, K5, Va5⟩ := hQ5
  have N5 := Fr.app N1 N5q
  have S_C := own_stak K5 (allS (P := fun x => ∀ cell : Cell, (T1.heap)[x]? = some cell → cell.vm.isStatics = false) (Exa.nostat E_b1) all0) S_C
  have S_F := own_stak K5 (allS (P := fun x => ∀ cell : Cell, (T1.heap)[x]? = some cell → cell.vm.isStatics = false) (Exa.nostat E_b1) all0) S_F
  have S_A := own_stak K5 (allS (P := fun x => ∀ cell : Cell, (T1.heap)[x]? = some cell → cell.vm.isStatics = false) (Exa.nostat E_b1) all0) S_A
  have S_H := own_stak K5 (allS (P := fun x => ∀ cell : Cell, (T1.heap)[x]? = some cell → cell.vm.isStatics = false) (Exa.nostat E_b1) all0) S_H
  have S_L := own_stak K5 (allS (P := fun x => ∀ cell : Cell, (T1.heap)[x]? = some cell → cell.vm.isStatics = false) (Exa.nostat E_b1) all0) S_L
  have V_a0 := V_a0.keep K5 (ninS ne_a0_b1 nin0)
  have E_b1 := E_b1.keep K5
  have Zs6 := Nat.le_trans Zs2 K5.1
  have Kp7 := Kp3.trans K5 (allS (Or.inr sz_b1) all0)
  refine Go.st (S' := T5.setTop (mkF m 19 #[vr a0, vi 1, vi 2, vr b1, vi 1] [.int 1, .ref a0, .int 1, .ref b1])) (fun _ kk => st5 _ (XS.iinc X5.here hx rfl (hb hby d22_23) rfl (l' := #[vr a0, vi 1, vi 2, vr b1, vi 0]) rfl (XS.iinc X5.here hx rfl (hb hby d22_26) rfl (l' := #[vr a0, vi 1, vi 2, vr b1, vi 1]) rfl (XS.goto X5.here hx rfl (pc0 := 29) (pc' := 8) rfl (hb hby d22_29) (by decide) (by decide) (XS.iload X5.here hx rfl (hb hby d22_8) rfl (XS.iloadN X5.here hx rfl (hb hby d22_10) rfl (XS.icmpNo X5.here hx rfl (hb hby d22_11) rfl (tlt (by decide : (1 : Int32) < (2 : Int32))).2.1 (XS.aloadN X5.here hx rfl (hb hby d22_14) rfl rfl (XS.iload X5.here hx rfl (hb hby d22_15) rfl (XS.aloadN X5.here hx rfl (hb hby d22_17) rfl rfl (XS.iloadN X5.here hx rfl (hb hby d22_18) rfl kk))))))))))) ?_
  obtain ⟨cl8, Ar8, qk8, S8, Ng8, H8, G8⟩ := (id V_a0)
  have hin8 : ¬ ((1 : Int32) < 0 ∨ cl8.slots.size ≤ ((1 : Int32)).toNatClampNeg) := inb_of S8 ⟨by decide, by decide⟩
  have hat8 : cl8.slots[((1 : Int32)).toNatClampNeg]? = some (.int c2) := Has.at H8 hin8 rfl
  refine Go.st (S' := T5.setTop (mkF m 20 #[vr a0, vi 1, vi 2, vr b1, vi 1] [.int c2, .int 1, .ref b1])) (fun _ kk => X5.caload hx (j := (1 : Int32)) (v := (.int c2)) Ar8.1 (State.isArrayOf_alike hZ.alike Ar8.2.1) Ar8.2.2 hin8 hat8 (g := (mkF m 19 #[vr a0, vi 1, vi 2, vr b1, vi 1] [.int 1, .ref a0, .int 1, .ref b1])) rfl rfl (hb hby d22_19) _ kk) ?_
  obtain ⟨_, _, ⟨T9, L9, k9, n9⟩, -, X9, ⟨Lc9, hQ9, l9, y9, z9⟩, st9⟩ := Jvm.LawKit.callS X5 hx (y := mN26) hown (mvT hZ (ow hw 106 rfl)) (mvT hZ (ow hw 107 rfl)) (mvT hZ (ow hw 44 rfl)) (mvT hZ (ow hw 108 rfl)) (by decide) (backOf (W := 0) (rmPC_2_1 l Z az hw [] b1 (1 : Int32) c2 zc fm kb1 (((c1 >>> ((0 : Int32) &&& 31)).toInt8.toInt32).toInt8.toInt32) (((c1 >>> ((8 : Int32) &&& 31)).toInt8.toInt32).toInt8.toInt32) (0 : Int32) (0 : Int32) T5.heap n0 Zs6 S_C hzc S_F hfm S_A S_H S_L Va5 E_b1 g_b1 rfl) hZ (ow hw 108 rfl) (ow hw 44 rfl) (by decide) (by decide)) (g := (mkF m 20 #[vr a0, vi 1, vi 2, vr b1, vi 1] [.int c2, .int 1, .ref b1])) rfl (by rw [hml]; rfl) (argsL := [.ref b1, .int 1, .int c2]) (rest := []) (lenOf pd_19 rfl) rfl (oW rfl rfl) (hb hby d22_20) (fun _ _ => ⟨rfl, rfl, (by decide : 1 + 0 ≤ _), (by decide : 4 + 0 ≤ _)⟩)
  dsimp only [Pt.U, Pt.locs, Pt.cells, Pt.slots] at X9 l9 y9 z9 st9 hQ9
  subst l9 y9 z9
  obtain ⟨rfl, N9q, K9, Va9⟩ := hQ9
  have N9 := Fr.app N5 N9q
  have S_C := own_stak K9 (allS (P := fun x => ∀ cell : Cell, (T5.heap)[x]? = some cell → cell.vm.isStatics = false) (Exa.nostat E_b1) all0) S_C
  have S_F := own_stak K9 (allS (P := fun x => ∀ cell : Cell, (T5.heap)[x]? = some cell → cell.vm.isStatics = false) (Exa.nostat E_b1) all0) S_F
  have S_A := own_stak K9 (allS (P := fun x => ∀ cell : Cell, (T5.heap)[x]? = some cell → cell.vm.isStatics = false) (Exa.nostat E_b1) all0) S_A
  have S_H := own_stak K9 (allS (P := fun x => ∀ cell : Cell, (T5.heap)[x]? = some cell → cell.vm.isStatics = false) (Exa.nostat E_b1) all0) S_H
  have S_L := own_stak K9 (allS (P := fun x => ∀ cell : Cell, (T5.heap)[x]? = some cell → cell.vm.isStatics = false) (Exa.nostat E_b1) all0) S_L
  have V_a0 := V_a0.keep K9 (ninS ne_a0_b1 nin0)
  have E_b1 := E_b1.keep K9
  have Zs10 := Nat.le_trans Zs6 K9.1
  have Kp11 := Kp7.trans K9 (allS (Or.inr sz_b1) all0)
  refine Go.st (S' := T9.setTop (mkF m 33 #[vr a0, vi 2, vi 2, vr b1, vi 2] [.ref b1])) (fun _ kk => st9 _ (XS.iinc X9.here hx rfl (hb hby d22_23) rfl (l' := #[vr a0, vi 2, vi 2, vr b1, vi 1]) rfl (XS.iinc X9.here hx rfl (hb hby d22_26) rfl (l' := #[vr a0, vi 2, vi 2, vr b1, vi 2]) rfl (XS.goto X9.here hx rfl (pc0 := 29) (pc' := 8) rfl (hb hby d22_29) (by decide) (by decide) (XS.iload X9.here hx rfl (hb hby d22_8) rfl (XS.iloadN X9.here hx rfl (hb hby d22_10) rfl (XS.icmpYes X9.here hx rfl (pc0 := 11) (pc' := 32) rfl (hb hby d22_11) rfl (flt (by decide : ¬ ((2 : Int32) < (2 : Int32)))).2.1 (by decide) (by decide) (XS.aloadN X9.here hx rfl (hb hby d22_32) rfl rfl kk)))))))) ?_
  exact Go.retA X9 hx hlk Bd.returns rfl rfl (hb hby d22_33) (by exact ⟨_, _, rfl, N9, Kp11, Va9, E_b1, sz_b1⟩) (by decide) (by decide)
def Q_c5_2_0 (Z : State) (a2 : Addr) (k2 : ClassId) (c1 : Int32) (c2 : Int32) (h0 : Heap) (n0 : Nat) (v : Option Value) (h : Heap) (L : List Loc) : Prop := v = some (.int 0) ∧ Fr n0 L ∧ Keep h0 h [a2] ∧ Arv Z h a2 k2 .byte (2 : Int32) [(.int 0), (.int 0)] (.int 0)
theorem rmC5_2_0 (l : Launch) (Z : State) (az : Array Value) (hw : HW az Z) (ws : List Jvm.Cond) (a0 : Addr) (p1 : Int32) (a2 : Addr) (p3 : Int32) (p4 : Int32) (k0 k2 : ClassId) (c1 : Int32) (c2 : Int32) (h0 : Heap) (n0 : Nat) (Z0 : n0 ≤ h0.size) (V_a0 : Arv Z h0 a0 k0 .char (2 : Int32) [(.int c1), (.int c2)] (.int 0)) (V_a2 : Arv Z h0 a2 k2 .byte (2 : Int32) [(.int 0), (.int 0)] (.int 0)) (ne : a0 ≠ a2) (g_a2 : n0 ≤ a2) (h1 : p1 = 0) (h3 : p3 = 0) (h4 : p4 = (2 : Int32))  (u1 : (255 : Int32) < c1) :
    MF l mN21 (Jvm.Cond.code mN21 jdk_52_method_21_code 7 (some .int) :: ws) (rO 0 0 0 0) #[(.ref a0), (.int p1), (.ref a2), (.int p3), (.int p4)] Z h0 (Q_c5_2_0 Z a2 k2 c1 c2 h0 n0) := by
  refine MetFree.of_bodySF (plainFor_of_name pn_3) hisR ?_
  intro p e s m args below meth c s₁ Bd hml0 hP hK
  obtain ⟨rfl, hZ, hh⟩ := hP
  have hx := Bd.exec
  have hby := Bd.bytes
  have hlk : meth.locks = false := Bd.notSynchronized
  have hml : c.maxLocals = 7 := hml0
  have hown : s.vm.findClass "java/lang/StringUTF16" = some m.cls := findClass_of_methodNamed Bd.named
  have X0 : Stand p l e (rO 0 0 0 0) s m #[(.ref a0), (.int p1), (.ref a2), (.int p3), (.int p4)] below meth c s₁ [] 0 0 := Stand.of_body Bd
  have e0 : s₁.heap = h0 := by rw [← hh, Bd.state]; rfl
  have N0 := Fr.nil n0
  show Go p e below s ((Q_c5_2_0 Z a2 k2 c1 c2 h0 n0)) (rO 0 0 0 0).cells (rO 0 0 0 0).slots (s₁.setTop (entryFrame m #[(.ref a0), (.int p1), (.ref a2), (.int p3), (.int p4)] 7))
  rw [ef_9 m a0 p1 a2 p3 p4]
  subst h1 h3 h4
  refine Go.st (S' := s₁.setTop (mkF m 12 #[vr a0, vi 0, vr a2, vi 0, vi 2, vi 0, .unset] [.int 0, .ref a0])) (fun _ kk => XS.iconst X0.here hx rfl (hb hby d9_0) (XS.istore X0.here hx rfl (hb hby d9_1) rfl (l' := #[vr a0, vi 0, vr a2, vi 0, vi 2, vi 0, .unset]) rfl (XS.iload X0.here hx rfl (hb hby d9_3) rfl (XS.iload X0.here hx rfl (hb hby d9_5) rfl (XS.icmpNo X0.here hx rfl (hb hby d9_7) rfl (tlt (by decide : (0 : Int32) < (2 : Int32))).2.1 (XS.aloadN X0.here hx rfl (hb hby d9_10) rfl rfl (XS.iloadN X0.here hx rfl (hb hby d9_11) rfl kk))))))) ?_
  obtain ⟨cl1, Ar1, qk1, S1, Ng1, H1, G1⟩ := (id V_a0)
  have hin1 : ¬ ((0 : Int32) < 0 ∨ cl1.slots.size ≤ ((0 : Int32)).toNatClampNeg) := inb_of S1 ⟨by decide, by decide⟩
  have hat1 : cl1.slots[((0 : Int32)).toNatClampNeg]? = some (.int c1) := Has.at H1 hin1 rfl
  refine Go.st (S' := s₁.setTop (mkF m 25 #[vr a0, vi 0, vr a2, vi 0, vi 2, vi 0, vi c1] [.int 0])) (fun _ kk => X0.caload hx (j := (0 : Int32)) (v := (.int c1)) (by rw [e0]; exact Ar1.1) (State.isArrayOf_alike hZ.alike Ar1.2.1) Ar1.2.2 hin1 hat1 (g := (mkF m 12 #[vr a0, vi 0, vr a2, vi 0, vi 2, vi 0, .unset] [.int 0, .ref a0])) rfl rfl (hb hby d9_12) _ (XS.istore X0.here hx rfl (hb hby d9_13) rfl (l' := #[vr a0, vi 0, vr a2, vi 0, vi 2, vi 0, vi c1]) rfl (XS.iload X0.here hx rfl (hb hby d9_15) rfl (XS.sipush X0.here hx rfl (hb hby d9_17) (XS.icmpNo X0.here hx rfl (hb hby d9_20) rfl (tlt u1).2.2.2 (XS.iload X0.here hx rfl (hb hby d9_23) rfl kk)))))) ?_
  exact Go.retI X0 hx hlk Bd.returns (hb hby d9_25) (by rw [e0]; exact ⟨rfl, N0, (Keep.refl h0 [a2]), V_a2⟩) (by decide) (by decide)
def Q_c3_2_0 (Z : State) (c1 : Int32) (c2 : Int32) (h0 : Heap) (n0 : Nat) (v : Option Value) (h : Heap) (L : List Loc) : Prop := ∃ (b : Addr) (k : ClassId), v = some (.ref b) ∧ Fr n0 L ∧ Keep h0 h [] ∧ Arv Z h b k .byte (4 : Int32) [(.int (((c1 >>> ((0 : Int32) &&& 31)).toInt8.toInt32).toInt8.toInt32)), (.int (((c1 >>> ((8 : Int32) &&& 31)).toInt8.toInt32).toInt8.toInt32)), (.int (((c2 >>> ((0 : Int32) &&& 31)).toInt8.toInt32).toInt8.toInt32)), (.int (((c2 >>> ((8 : Int32) &&& 31)).toInt8.toInt32).toInt8.toInt32))] (.int 0) ∧ Exa Z h b "[B" ∧ h0.size ≤ b
theorem rmC3_2_0 (l : Launch) (Z : State) (az : Array Value) (hw : HW az Z) (ws : List Jvm.Cond) (a0 : Addr) (p1 : Int32) (p2 : Int32) (zc : Int32) (fm : Value) (k0 : ClassId) (c1 : Int32) (c2 : Int32) (h0 : Heap) (n0 : Nat) (Z0 : n0 ≤ h0.size) (S_C : tS0 Z h0 (.int zc)) (hzc : ¬ zc = 0) (S_F : tS1 Z h0 fm) (hfm : fm.isRef = true) (S_A : tS2 Z h0 (.int 1)) (S_H : tS3 Z h0 (.int 0)) (S_L : tS4 Z h0 (.int 8)) (V_a0 : Arv Z h0 a0 k0 .char (2 : Int32) [(.int c1), (.int c2)] (.int 0)) (h1 : p1 = 0) (h2 : p2 = (2 : Int32)) (y1 : 0 ≤ c1.toInt ∧ c1.toInt ≤ 65535) (y2 : 0 ≤ c2.toInt ∧ c2.toInt ≤ 65535)  (u1 : (255 : Int32) < c1) :
    MF l mN20 (Jvm.Cond.code mN20 jdk_52_method_16_code 6 (some (.array .byte)) :: ws) (rO 3 2 6 40) #[(.ref a0), (.int p1), (.int p2)] Z h0 (Q_c3_2_0 Z c1 c2 h0 n0) := by
  refine MetFree.of_bodySF (plainFor_of_name pn_3) hisR ?_
  intro p e s m args below meth c s₁ Bd hml0 hP hK
  obtain ⟨rfl, hZ, hh⟩ := hP
  have hx := Bd.exec
  have hby := Bd.bytes
  have hlk : meth.locks = false := Bd.notSynchronized
  have hml : c.maxLocals = 6 := hml0
  have hown : s.vm.findClass "java/lang/StringUTF16" = some m.cls := findClass_of_methodNamed Bd.named
  have X0 : Stand p l e (rO 3 2 6 40) s m #[(.ref a0), (.int p1), (.int p2)] below meth c s₁ [] 0 0 := Stand.of_body Bd
  have e0 : s₁.heap = h0 := by rw [← hh, Bd.state]; rfl
  have N0 := Fr.nil n0
  show Go p e below s ((Q_c3_2_0 Z c1 c2 h0 n0)) (rO 3 2 6 40).cells (rO 3 2 6 40).slots (s₁.setTop (entryFrame m #[(.ref a0), (.int p1), (.int p2)] 6))
  rw [ef_8 m a0 p1 p2]
  subst h1 h2
  have hix0 : ¬ ((0 : Int32) <<< ((1 : Int32) &&& 31)) < 0 ∧ ((0 : Int32) <<< ((1 : Int32) &&& 31)) < (4 : Int32) := by decide
  have hix1 : ¬ (((0 : Int32) <<< ((1 : Int32) &&& 31)) + (1 : Int32)) < 0 ∧ (((0 : Int32) <<< ((1 : Int32) &&& 31)) + (1 : Int32)) < (4 : Int32) := by decide
  refine Go.st (S' := s₁.setTop (mkF m 1 #[vr a0, vi 0, vi 2, .unset, .unset, .unset] [.int 2])) (fun _ kk => XS.iloadN X0.here hx rfl (hb hby d8_0) rfl kk) ?_
  obtain ⟨T1, h1, k1, X1, e1, E1, A1, E_b1, st1⟩ := newPE X0 hx hZ (ow hw 20 rfl) e0 (g := (mkF m 1 #[vr a0, vi 0, vi 2, .unset, .unset, .unset] [.int 2])) rfl (hb hby d8_1) rfl (by decide) (cap := 2) (by decide) (by decide) (by decide : 0 + 1 ≤ _) (by decide : 0 + 2 ≤ _) (ad := "[B") rfl
  obtain ⟨b1, g1⟩ : ∃ z, z = h0.size := ⟨_, rfl⟩
  rw [← g1] at A1 E_b1 st1
  have ne_a0_b1 : a0 ≠ b1 := Nat.ne_of_lt (Nat.lt_of_lt_of_le V_a0.lt (Nat.le_of_eq g1.symm))
  have g_b1 : n0 ≤ b1 := Nat.le_trans Z0 (Nat.le_of_eq g1.symm)
  have sz_b1 : h0.size ≤ b1 := Nat.le_trans (Keep.refl h0 []).1 (Nat.le_of_eq g1.symm)
  have S_C := S_C.ext E1
  have S_F := S_F.ext E1
  have S_A := S_A.ext E1
  have S_H := S_H.ext E1
  have S_L := S_L.ext E1
  have V_a0 := V_a0.ext E1
  have Zs2 := Nat.le_trans Z0 E1.1
  have Kp3 := (Keep.refl h0 []).ext E1
  have V_b1 : Arv Z h1 b1 k1 .byte (2 : Int32) [(.int 0), (.int 0)] (.int 0) := (Arv.new A1 (by decide)).pad (pad_rep [] (.int 0) 2)
  refine Go.st (S' := T1.setTop (mkF m 9 #[vr a0, vi 0, vi 2, vr b1, .unset, .unset] [.int 2, .int 0, .ref b1, .int 0, .ref a0])) (fun _ kk => st1 _ (XS.astoreN X1.here hx rfl (hb hby d8_3) rfl rfl (l' := #[vr a0, vi 0, vi 2, vr b1, .unset, .unset]) rfl (XS.aloadN X1.here hx rfl (hb hby d8_4) rfl rfl (XS.iloadN X1.here hx rfl (hb hby d8_5) rfl (XS.aloadN X1.here hx rfl (hb hby d8_6) rfl rfl (XS.iconst X1.here hx rfl (hb hby d8_7) (XS.iloadN X1.here hx rfl (hb hby d8_8) rfl kk))))))) ?_
  obtain ⟨_, _, ⟨T4, L4, k4, n4⟩, -, X4, ⟨Lc4, hQ4, l4, y4, z4⟩, st4⟩ := Jvm.LawKit.callS X1 hx (y := mN21) hown (mvT hZ (ow hw 46 rfl)) (mvT hZ (ow hw 47 rfl)) (mvT hZ (ow hw 44 rfl)) (mvT hZ (ow hw 48 rfl)) (by decide) (backOf (W := 0) (rmC5_2_0 l Z az hw [] a0 (0 : Int32) b1 (0 : Int32) (2 : Int32) k0 k1 c1 c2 h1 n0 Zs2 V_a0 V_b1 ne_a0_b1 g_b1 rfl rfl rfl u1) hZ (ow hw 48 rfl) (ow hw 44 rfl) (by decide) (by decide)) (g := (mkF m 9 #[vr a0, vi 0, vi 2, vr b1, .unset, .unset] [.int 2, .int 0, .ref b1, .int 0, .ref a0])) rfl (by rw [hml]; rfl) (argsL := [.ref a0, .int 0, .ref b1, .int 0, .int 2]) (rest := []) (lenOf pd_8 rfl) rfl (oW rfl rfl) (hb hby d8_9) (fun _ _ => ⟨rfl, e1, (by decide : 1 + 0 ≤ _), (by decide : 2 + 0 ≤ _)⟩)
  dsimp only [Pt.U, Pt.locs, Pt.cells, Pt.slots] at X4 l4 y4 z4 st4 hQ4
  subst l4 y4 z4
  obtain ⟨rfl, N4q, K4, Va4⟩ := hQ4
  have N4 := Fr.app N0 N4q
  have S_C := own_stak K4 (allS (P := fun x => ∀ cell : Cell, (h1)[x]? = some cell → cell.vm.isStatics = false) (Exa.nostat E_b1) all0) S_C
  have S_F := own_stak K4 (allS (P := fun x => ∀ cell : Cell, (h1)[x]? = some cell → cell.vm.isStatics = false) (Exa.nostat E_b1) all0) S_F
  have S_A := own_stak K4 (allS (P := fun x => ∀ cell : Cell, (h1)[x]? = some cell → cell.vm.isStatics = false) (Exa.nostat E_b1) all0) S_A
  have S_H := own_stak K4 (allS (P := fun x => ∀ cell : Cell, (h1)[x]? = some cell → cell.vm.isStatics = false) (Exa.nostat E_b1) all0) S_H
  have S_L := own_stak K4 (allS (P := fun x => ∀ cell : Cell, (h1)[x]? = some cell → cell.vm.isStatics = false) (Exa.nostat E_b1) all0) S_L
  have V_a0 := V_a0.keep K4 (ninS ne_a0_b1 nin0)
  have E_b1 := E_b1.keep K4
  have Zs5 := Nat.le_trans Zs2 K4.1
  have Kp6 := Kp3.trans K4 (allS (Or.inr sz_b1) all0)
  refine Go.st (S' := T4.setTop (mkF m 23 #[vr a0, vi 0, vi 2, vr b1, vi 0, .unset] [.int 2, .int 0, .ref a0])) (fun _ kk => st4 _ (XS.istore X4.here hx rfl (hb hby d8_12) rfl (l' := #[vr a0, vi 0, vi 2, vr b1, vi 0, .unset]) rfl (XS.iload X4.here hx rfl (hb hby d8_14) rfl (XS.iloadN X4.here hx rfl (hb hby d8_16) rfl (XS.icmpNo X4.here hx rfl (hb hby d8_17) rfl (feq (by decide : ¬ ((0 : Int32) = (2 : Int32)))).1 (XS.aloadN X4.here hx rfl (hb hby d8_20) rfl rfl (XS.iloadN X4.here hx rfl (hb hby d8_21) rfl (XS.iloadN X4.here hx rfl (hb hby d8_22) rfl kk)))))))) ?_
  obtain ⟨_, _, ⟨T7, L7, k7, n7⟩, -, X7, ⟨Lc7, hQ7, l7, y7, z7⟩, st7⟩ := Jvm.LawKit.callS X4 hx (y := mN27) hown (mvT hZ (ow hw 96 rfl)) (mvT hZ (ow hw 97 rfl)) (mvT hZ (ow hw 44 rfl)) (mvT hZ (ow hw 98 rfl)) (by decide) (backOf (W := 0) (rmTB_2 l Z az hw [] a0 (0 : Int32) (2 : Int32) zc fm k0 c1 c2 T4.heap n0 Zs5 S_C hzc S_F hfm S_A S_H S_L V_a0 rfl rfl) hZ (ow hw 98 rfl) (ow hw 44 rfl) (by decide) (by decide)) (g := (mkF m 23 #[vr a0, vi 0, vi 2, vr b1, vi 0, .unset] [.int 2, .int 0, .ref a0])) rfl (by rw [hml]; rfl) (argsL := [.ref a0, .int 0, .int 2]) (rest := []) (lenOf pd_7 rfl) rfl (oW rfl rfl) (hb hby d8_23) (fun _ _ => ⟨rfl, rfl, (by decide : 1 + 1 ≤ _), (by decide : 2 + 4 ≤ _)⟩)
  dsimp only [Pt.U, Pt.locs, Pt.cells, Pt.slots] at X7 l7 y7 z7 st7 hQ7
  subst l7 y7 z7
  obtain ⟨b7, kb7, rfl, N7q, K7, V_b7, E_b7, gb7⟩ := hQ7
  have Ex7 := own_extK K7
  have N7 := Fr.app N4 N7q
  have ne_a0_b7 : a0 ≠ b7 := Nat.ne_of_lt (Nat.lt_of_lt_of_le V_a0.lt gb7)
  have ne_b1_b7 : b1 ≠ b7 := Nat.ne_of_lt (Nat.lt_of_lt_of_le E_b1.lt gb7)
  have g_b7 : n0 ≤ b7 := Nat.le_trans Zs5 gb7
  have sz_b7 : h0.size ≤ b7 := Nat.le_trans Kp6.1 gb7
  have S_C := S_C.ext Ex7
  have S_F := S_F.ext Ex7
  have S_A := S_A.ext Ex7
  have S_H := S_H.ext Ex7
  have S_L := S_L.ext Ex7
  have V_a0 := V_a0.ext Ex7
  have E_b1 := E_b1.ext Ex7
  have Va4 := Va4.ext Ex7
  have Zs8 := Nat.le_trans Zs5 Ex7.1
  have Kp9 := Kp6.ext Ex7
  refine Go.st (S' := T7.setTop (mkF m 32 #[vr a0, vi 0, vi 2, vr b1, vi 0, vr b7] [.int 0, .ref b7])) (fun _ kk => st7 _ (XS.astore X7.here hx rfl (hb hby d8_26) rfl rfl (l' := #[vr a0, vi 0, vi 2, vr b1, vi 0, vr b7]) rfl (XS.aload X7.here hx rfl (hb hby d8_28) rfl rfl (XS.iload X7.here hx rfl (hb hby d8_30) rfl kk)))) ?_
  obtain ⟨_, _, ⟨T10, L10, k10, n10⟩, -, X10, ⟨Lc10, hQ10, l10, y10, z10⟩, st10⟩ := Jvm.LawKit.callS X7 hx (y := mN22) hown (mvT hZ (ow hw 112 rfl)) (mvT hZ (ow hw 113 rfl)) (mvT hZ (ow hw 44 rfl)) (mvT hZ (ow hw 114 rfl)) (by decide) (backOf (W := 0) (rmUg l Z az hw [] b7 (0 : Int32) zc fm kb7 (4 : Int32) [(((c1 >>> ((0 : Int32) &&& 31)).toInt8.toInt32).toInt8.toInt32), (((c1 >>> ((8 : Int32) &&& 31)).toInt8.toInt32).toInt8.toInt32), (((c2 >>> ((0 : Int32) &&& 31)).toInt8.toInt32).toInt8.toInt32), (((c2 >>> ((8 : Int32) &&& 31)).toInt8.toInt32).toInt8.toInt32)] T7.heap n0 Zs8 S_C hzc S_F hfm S_A S_H S_L V_b7 hix0 hix1) hZ (ow hw 114 rfl) (ow hw 44 rfl) (by decide) (by decide)) (g := (mkF m 32 #[vr a0, vi 0, vi 2, vr b1, vi 0, vr b7] [.int 0, .ref b7])) rfl (by rw [hml]; rfl) (argsL := [.ref b7, .int 0]) (rest := []) (lenOf pd_14 rfl) rfl (oW rfl rfl) (hb hby d8_32) (fun _ _ => ⟨rfl, rfl, (by decide : 2 + 0 ≤ _), (by decide : 6 + 0 ≤ _)⟩)
  dsimp only [Pt.U, Pt.locs, Pt.cells, Pt.slots] at X10 l10 y10 z10 st10 hQ10
  subst l10 y10 z10
  obtain ⟨hv10, N10q, e10⟩ := hQ10
  subst hv10
  have N10 := Fr.app N7 N10q
  refine Go.st (S' := T10.setTop (mkF m 35 #[vr a0, vi 0, vi 2, vr b1, vi 0, vr b7] [.int (own_g16 (bt [(((c1 >>> ((0 : Int32) &&& 31)).toInt8.toInt32).toInt8.toInt32), (((c1 >>> ((8 : Int32) &&& 31)).toInt8.toInt32).toInt8.toInt32), (((c2 >>> ((0 : Int32) &&& 31)).toInt8.toInt32).toInt8.toInt32), (((c2 >>> ((8 : Int32) &&& 31)).toInt8.toInt32).toInt8.toInt32)] ((0 : Int32) <<< ((1 : Int32) &&& 31))) (bt [(((c1 >>> ((0 : Int32) &&& 31)).toInt8.toInt32).toInt8.toInt32), (((c1 >>> ((8 : Int32) &&& 31)).toInt8.toInt32).toInt8.toInt32), (((c2 >>> ((0 : Int32) &&& 31)).toInt8.toInt32).toInt8.toInt32), (((c2 >>> ((8 : Int32) &&& 31)).toInt8.toInt32).toInt8.toInt32)] (((0 : Int32) <<< ((1 : Int32) &&& 31)) + (1 : Int32))))])) st10 ?_
  rw [show (own_g16 (bt [(((c1 >>> ((0 : Int32) &&& 31)).toInt8.toInt32).toInt8.toInt32), (((c1 >>> ((8 : Int32) &&& 31)).toInt8.toInt32).toInt8.toInt32), (((c2 >>> ((0 : Int32) &&& 31)).toInt8.toInt32).toInt8.toInt32), (((c2 >>> ((8 : Int32) &&& 31)).toInt8.toInt32).toInt8.toInt32)] ((0 : Int32) <<< ((1 : Int32) &&& 31))) (bt [(((c1 >>> ((0 : Int32) &&& 31)).toInt8.toInt32).toInt8.toInt32), (((c1 >>> ((8 : Int32) &&& 31)).toInt8.toInt32).toInt8.toInt32), (((c2 >>> ((0 : Int32) &&& 31)).toInt8.toInt32).toInt8.toInt32), (((c2 >>> ((8 : Int32) &&& 31)).toInt8.toInt32).toInt8.toInt32)] (((0 : Int32) <<< ((1 : Int32) &&& 31)) + (1 : Int32)))) = c1 from own_rtg y1]
  refine Go.st (S' := T10.setTop (mkF m 56 #[vr a0, vi 0, vi 2, vr b1, vi 0, vr b7] [.ref b7])) (fun _ kk => XS.sipush X10.here hx rfl (hb hby d8_35) (XS.icmpYes X10.here hx rfl (pc0 := 38) (pc' := 54) rfl (hb hby d8_38) rfl (tlt u1).2.2.1 (by decide) (by decide) (XS.aload X10.here hx rfl (hb hby d8_54) rfl rfl kk))) ?_
  exact Go.retA X10 hx hlk Bd.returns rfl rfl (hb hby d8_56) (by rw [e10]; exact ⟨_, _, rfl, N10, Kp9, V_b7, E_b7, sz_b7⟩) (by decide) (by decide)
theorem rmCd_2_1 (l : Launch) (Z : State) (az : Array Value) (hw : HW az Z) (ws : List Jvm.Cond) (a0 : Addr) (p1 : Int32) (k0 : ClassId) (vs : List Value) (h0 : Heap) (n0 : Nat) (Z0 : n0 ≤ h0.size) (V_a0 : Arv Z h0 a0 k0 .byte (4 : Int32) vs (.int 0)) (h1 : p1 = (2 : Int32)) :
    MF l mN19 (Jvm.Cond.code mN19 jdk_52_method_15_code 2 (some .byte) :: ws) (rO 0 0 0 0) #[(.ref a0), (.int p1)] Z h0 (PQ (.int 1) n0 h0) := by
  refine MetFree.of_bodySF (plainFor_of_name pn_3) hisR ?_
  intro p e s m args below meth c s₁ Bd hml0 hP hK
  obtain ⟨rfl, hZ, hh⟩ := hP
  have hx := Bd.exec
  have hby := Bd.bytes
  have hlk : meth.locks = false := Bd.notSynchronized
  have hml : c.maxLocals = 2 := hml0
  have hown : s.vm.findClass "java/lang/StringUTF16" = some m.cls := findClass_of_methodNamed Bd.named
  have X0 : Stand p l e (rO 0 0 0 0) s m #[(.ref a0), (.int p1)] below meth c s₁ [] 0 0 := Stand.of_body Bd
  have e0 : s₁.heap = h0 := by rw [← hh, Bd.state]; rfl
  have N0 := Fr.nil n0
  show Go p e below s ((PQ (.int 1) n0 h0)) (rO 0 0 0 0).cells (rO 0 0 0 0).slots (s₁.setTop (entryFrame m #[(.ref a0), (.int p1)] 2))
  rw [ef_10 m a0 p1]
  subst h1
  refine Go.st (S' := s₁.setTop (mkF m 2 #[vr a0, vi 2] [.ref a0, .int 2])) (fun _ kk => XS.iloadN X0.here hx rfl (hb hby d10_0) rfl (XS.aloadN X0.here hx rfl (hb hby d10_1) rfl rfl kk)) ?_
  obtain ⟨cl1, Ar1, -, S1, Ng1, -, -⟩ := (id V_a0)
  refine Go.st (S' := s₁.setTop (mkF m 3 #[vr a0, vi 2] [.int 4, .int 2])) (fun _ kk => X0.arraylength hx (by rw [e0]; exact Ar1.1) (State.isArrayOf_alike hZ.alike Ar1.2.1) (g := (mkF m 2 #[vr a0, vi 2] [.ref a0, .int 2])) rfl rfl (hb hby d10_2) _ (by rw [len_of S1 Ng1]; exact kk)) ?_
  refine Go.st (S' := s₁.setTop (mkF m 8 #[vr a0, vi 2] [.int ((((-2 : Int32).toUInt32 >>> ((31 : Int32) &&& 31).toUInt32).toInt32).toInt8.toInt32)])) (fun _ kk => XS.isub X0.here hx rfl (hb hby d10_3) rfl (XS.bipush X0.here hx rfl (hb hby d10_4) (XS.iushr X0.here hx rfl (hb hby d10_6) rfl (XS.i2b X0.here hx rfl (hb hby d10_7) rfl kk)))) ?_
  exact Go.retN X0 hx hlk (t := .byte) Bd.returns (by simp) (hb hby d10_8) (⟨rfl, N0, e0⟩) (by decide) (by decide)
def Q_in_2 (Z : State) (a0 : Addr) (c1 : Int32) (c2 : Int32) (h0 : Heap) (n0 : Nat) (v : Option Value) (h : Heap) (L : List Loc) : Prop := v = none ∧ Fr n0 L ∧ Keep h0 h [a0] ∧ CSt Z h a0 [c1, c2]
theorem rmI5_2_0 (l : Launch) (Z : State) (az : Array Value) (hw : HW az Z) (ws : List Jvm.Cond) (a0 : Addr) (a1 : Addr) (p2 : Int32) (p3 : Int32) (zc : Int32) (fm : Value) (k1 : ClassId) (c1 : Int32) (c2 : Int32) (h0 : Heap) (n0 : Nat) (Z0 : n0 ≤ h0.size) (S_C : tS0 Z h0 (.int zc)) (hzc : ¬ zc = 0) (S_F : tS1 Z h0 fm) (hfm : fm.isRef = true) (S_A : tS2 Z h0 (.int 1)) (S_H : tS3 Z h0 (.int 0)) (S_L : tS4 Z h0 (.int 8)) (E_a0 : Exa Z h0 a0 "java/lang/String") (F_coder : tF0 Z h0 a0 (.int 0)) (F_value : tF1 Z h0 a0 .null) (g_a0 : n0 ≤ a0) (ne : a0 ≠ a1) (V_a1 : Arv Z h0 a1 k1 .char (2 : Int32) [(.int c1), (.int c2)] (.int 0)) (h2 : p2 = 0) (h3 : p3 = (2 : Int32)) (y1 : 0 ≤ c1.toInt ∧ c1.toInt ≤ 65535) (y2 : 0 ≤ c2.toInt ∧ c2.toInt ≤ 65535)  (u1 : (255 : Int32) < c1) :
    MF l mN10 (Jvm.Cond.code mN10 jdk_42_method_149_code 6 none :: ws) (rO 4 2 6 57) #[(.ref a0), (.ref a1), (.int p2), (.int p3), .null] Z h0 (Q_in_2 Z a0 c1 c2 h0 n0) := by
  refine MetFree.of_bodySF (plainFor_of_name pn_1) hisR ?_
  intro p e s m args below meth c s₁ Bd hml0 hP hK
  obtain ⟨rfl, hZ, hh⟩ := hP
  have hx := Bd.exec
  have hby := Bd.bytes
  have hlk : meth.locks = false := Bd.notSynchronized
  have hml : c.maxLocals = 6 := hml0
  have hown : s.vm.findClass "java/lang/String" = some m.cls := findClass_of_methodNamed Bd.named
  have hnm := (name_of_methodNamed Bd.named Bd.method).1
  have X0 : Stand p l e (rO 4 2 6 57) s m #[(.ref a0), (.ref a1), (.int p2), (.int p3), .null] below meth c s₁ [] 0 0 := Stand.of_body Bd
  have e0 : s₁.heap = h0 := by rw [← hh, Bd.state]; rfl
  have N0 := Fr.nil n0
  show Go p e below s ((Q_in_2 Z a0 c1 c2 h0 n0)) (rO 4 2 6 57).cells (rO 4 2 6 57).slots (s₁.setTop (entryFrame m #[(.ref a0), (.ref a1), (.int p2), (.int p3), .null] 6))
  rw [ef_3n4 m a0 a1 p2 p3]
  subst h2 h3
  refine Go.st (S' := s₁.setTop (mkF m 1 #[vr a0, vr a1, vi 0, vi 2, .val .null, .unset] [.ref a0])) (fun _ kk => XS.aloadN X0.here hx rfl (hb hby d3_0) rfl rfl kk) ?_
  obtain ⟨T1, X1, e1, st1⟩ := initO X0 hx hZ hown (ow hw 16 rfl) (ow hw 17 rfl) (ow hw 18 rfl) e0 (g := (mkF m 1 #[vr a0, vr a1, vi 0, vi 2, .val .null, .unset] [.ref a0])) rfl (by rw [hml]; rfl) rfl (hb hby d3_1) (by decide) (W := 0) (oW rfl rfl) (by decide)
  refine Go.st (S' := T1.setTop (mkF m 27 #[vr a0, vr a1, vi 0, vi 2, .val .null, .unset] [])) (fun _ kk => st1 _ (XS.iloadN X1.here hx rfl (hb hby d3_4) rfl (XS.ifYes X1.here hx rfl (pc0 := 5) (pc' := 27) rfl (hb hby d3_5) rfl ((if0 _ _).trans (feq (by decide : ¬ ((2 : Int32) = (0 : Int32)))).2) (by decide) (by decide) kk))) ?_
  obtain ⟨T2, X2, e2, st2⟩ := getS2 X1 hx hZ hown (host := "") (Or.inl (ow hw 41 rfl)) Via.refl e1 S_C (g := (mkF m 27 #[vr a0, vr a1, vi 0, vi 2, .val .null, .unset] [])) rfl (hb hby d3_27)
  refine Go.st (S' := T2.setTop (mkF m 36 #[vr a0, vr a1, vi 0, vi 2, .val .null, .unset] [.int 2, .int 0, .ref a1])) (fun _ kk => st2 _ (XS.ifNo X2.here hx rfl (hb hby d3_30) rfl ((if0 _ _).trans (feq hzc).1) (XS.aloadN X2.here hx rfl (hb hby d3_33) rfl rfl (XS.iloadN X2.here hx rfl (hb hby d3_34) rfl (XS.iloadN X2.here hx rfl (hb hby d3_35) rfl kk))))) ?_
  obtain ⟨_, _, ⟨T3, L3, k3, n3⟩, -, X3, ⟨Lc3, hQ3, l3, y3, z3⟩, st3⟩ := Jvm.LawKit.callS X2 hx (y := mN20) hown (mvT hZ (ow hw 42 rfl)) (mvT hZ (ow hw 43 rfl)) (mvT hZ (ow hw 44 rfl)) (mvT hZ (ow hw 45 rfl)) (by decide) (backOf (W := 0) (rmC3_2_0 l Z az hw [] a1 (0 : Int32) (2 : Int32) zc fm k1 c1 c2 h0 n0 Z0 S_C hzc S_F hfm S_A S_H S_L V_a1 rfl rfl y1 y2 u1) hZ (ow hw 45 rfl) (ow hw 44 rfl) (by decide) (by decide)) (g := (mkF m 36 #[vr a0, vr a1, vi 0, vi 2, .val .null, .unset] [.int 2, .int 0, .ref a1])) rfl (by rw [hml]; rfl) (argsL := [.ref a1, .int 0, .int 2]) (rest := []) (lenOf pd_7 rfl) rfl (oW rfl rfl) (hb hby d3_36) (fun _ _ => ⟨rfl, e2, (by decide : 0 + 2 ≤ _), (by decide : 0 + 6 ≤ _)⟩)
  dsimp only [Pt.U, Pt.locs, Pt.cells, Pt.slots] at X3 l3 y3 z3 st3 hQ3
  subst l3 y3 z3
  obtain ⟨b3, kb3, rfl, N3q, K3, V_b3, E_b3, gb3⟩ := hQ3
  have Ex3 := own_extK K3
  have N3 := Fr.app N0 N3q
  have ne_a0_b3 : a0 ≠ b3 := Nat.ne_of_lt (Nat.lt_of_lt_of_le E_a0.lt gb3)
  have ne_a1_b3 : a1 ≠ b3 := Nat.ne_of_lt (Nat.lt_of_lt_of_le V_a1.lt gb3)
  have g_b3 : n0 ≤ b3 := Nat.le_trans Z0 gb3
  have sz_b3 : h0.size ≤ b3 := Nat.le_trans (Keep.refl h0 [a0]).1 gb3
  have S_C := S_C.ext Ex3
  have S_F := S_F.ext Ex3
  have S_A := S_A.ext Ex3
  have S_H := S_H.ext Ex3
  have S_L := S_L.ext Ex3
  have E_a0 := E_a0.ext Ex3
  have F_coder := F_coder.ext Ex3
  have F_value := F_value.ext Ex3
  have V_a1 := V_a1.ext Ex3
  have Zs4 := Nat.le_trans Z0 Ex3.1
  have Kp5 := (Keep.refl h0 [a0]).ext Ex3
  refine Go.st (S' := T3.setTop (mkF m 45 #[vr a0, vr a1, vi 0, vi 2, .val .null, vr b3] [.int 2, .ref b3, .ref a0])) (fun _ kk => st3 _ (XS.astore X3.here hx rfl (hb hby d3_39) rfl rfl (l' := #[vr a0, vr a1, vi 0, vi 2, .val .null, vr b3]) rfl (XS.aloadN X3.here hx rfl (hb hby d3_41) rfl rfl (XS.aload X3.here hx rfl (hb hby d3_42) rfl rfl (XS.iloadN X3.here hx rfl (hb hby d3_44) rfl kk))))) ?_
  obtain ⟨_, _, ⟨T6, L6, k6, n6⟩, -, X6, ⟨Lc6, hQ6, l6, y6, z6⟩, st6⟩ := Jvm.LawKit.callS X3 hx (y := mN19) hown (mvT hZ (ow hw 49 rfl)) (mvT hZ (ow hw 50 rfl)) (mvT hZ (ow hw 44 rfl)) (mvT hZ (ow hw 51 rfl)) (by decide) (backOf (W := 1) (rmCd_2_1 l Z az hw [] b3 (2 : Int32) kb3 _ T3.heap n0 Zs4 V_b3 rfl) hZ (ow hw 51 rfl) (ow hw 44 rfl) (by decide) (by decide)) (g := (mkF m 45 #[vr a0, vr a1, vi 0, vi 2, .val .null, vr b3] [.int 2, .ref b3, .ref a0])) rfl (by rw [hml]; rfl) (argsL := [.ref b3, .int 2]) (rest := [.ref a0]) (lenOf pd_9 rfl) rfl (oW rfl rfl) (hb hby d3_45) (fun _ _ => ⟨rfl, rfl, (by decide : 2 + 0 ≤ _), (by decide : 6 + 0 ≤ _)⟩)
  dsimp only [Pt.U, Pt.locs, Pt.cells, Pt.slots] at X6 l6 y6 z6 st6 hQ6
  subst l6 y6 z6
  obtain ⟨hv6, N6q, e6⟩ := hQ6
  subst hv6
  have N6 := Fr.app N3 N6q
  refine Go.st (S' := T6.setTop (mkF m 48 #[vr a0, vr a1, vi 0, vi 2, .val .null, vr b3] [.int 1, .ref a0])) st6 ?_
  obtain ⟨T7, h7, X7, e7, W7, st7⟩ := putFN X6 hx hZ hown (ow hw 26 rfl) Via.refl e6 F_coder E_a0 (Or.inr ⟨(ow hw 22 rfl), rfl, hnm⟩) (ow hw 7 rfl) (ty := .byte) (v' := .int (nar .byte (1 : Int32))) (by decide) rfl (fits_nar_byte _) (g := (mkF m 48 #[vr a0, vr a1, vi 0, vi 2, .val .null, vr b3] [.int 1, .ref a0])) rfl rfl (hb hby d3_48)
  have N7 := Fr.snoc X7 N6 g_a0
  have F_coder := F_coder.same W7
  have S_C := S_C.wr W7
  have S_F := S_F.wr W7
  have S_A := S_A.wr W7
  have S_H := S_H.wr W7
  have S_L := S_L.wr W7
  have E_a0 := E_a0.wr W7
  have F_value := F_value.other W7 (Or.inr (slot_ne (Or.inr (ow hw 21 rfl)) (Or.inr (ow hw 22 rfl)) (by decide) (t := (.array .byte)) (t' := .byte) (by decide) (by decide)))
  have V_a1 := V_a1.other W7 (Ne.symm ne)
  have E_b3 := E_b3.wr W7
  have V_b3 := V_b3.other W7 (Ne.symm ne_a0_b3)
  have Zs8 := Nat.le_trans Zs4 (Keep.of_wr W7).1
  have Kp9 := Kp5.wr W7 (Or.inl (List.mem_of_getElem? (i := 0) rfl))
  refine Go.st (S' := T7.setTop (mkF m 54 #[vr a0, vr a1, vi 0, vi 2, .val .null, vr b3] [.ref b3, .ref a0])) (fun _ kk => st7 _ (XS.aloadN X7.here hx rfl (hb hby d3_51) rfl rfl (XS.aload X7.here hx rfl (hb hby d3_52) rfl rfl kk))) ?_
  obtain ⟨T10, h10, X10, e10, W10, st10⟩ := putF X7 hx hZ hown (host := "") (Or.inl (ow hw 25 rfl)) Via.refl e7 F_value E_a0 (Or.inr ⟨(ow hw 21 rfl), rfl, hnm⟩) (ow hw 7 rfl) (ty := (.array .byte)) (by decide) rfl rfl (g := (mkF m 54 #[vr a0, vr a1, vi 0, vi 2, .val .null, vr b3] [.ref b3, .ref a0])) rfl rfl (hb hby d3_54)
  have N10 := Fr.snoc X10 N7 g_a0
  have F_value := F_value.same W10
  have S_C := S_C.wr W10
  have S_F := S_F.wr W10
  have S_A := S_A.wr W10
  have S_H := S_H.wr W10
  have S_L := S_L.wr W10
  have E_a0 := E_a0.wr W10
  have F_coder := F_coder.other W10 (Or.inr (slot_ne (Or.inr (ow hw 22 rfl)) (Or.inr (ow hw 21 rfl)) (by decide) (t := .byte) (t' := (.array .byte)) (by decide) (by decide)))
  have V_a1 := V_a1.other W10 (Ne.symm ne)
  have E_b3 := E_b3.wr W10
  have V_b3 := V_b3.other W10 (Ne.symm ne_a0_b3)
  have Zs11 := Nat.le_trans Zs8 (Keep.of_wr W10).1
  have Kp12 := Kp9.wr W10 (Or.inl (List.mem_of_getElem? (i := 0) rfl))
  refine Go.st (S' := T10.setTop (mkF m 57 #[vr a0, vr a1, vi 0, vi 2, .val .null, vr b3] [])) st10 ?_
  exact Go.ret0 X10 hx hlk Bd.returns (hb hby d3_57) (by rw [e10]; exact ⟨rfl, N10, Kp12, E_a0, _, _, _, _, (own_u16 [c1, c2]), F_coder, F_value, V_b3, Or.inr ⟨rfl, rfl, rfl, (List.forall_mem_cons.mpr ⟨y1, (List.forall_mem_cons.mpr ⟨y2, (fun _ hx => nomatch hx)⟩)⟩)⟩⟩) (by decide) (by decide)
def Q_c5_2_1 (Z : State) (a2 : Addr) (k2 : ClassId) (c1 : Int32) (c2 : Int32) (h0 : Heap) (n0 : Nat) (v : Option Value) (h : Heap) (L : List Loc) : Prop := v = some (.int 1) ∧ Fr n0 L ∧ Keep h0 h [a2] ∧ Arv Z h a2 k2 .byte (2 : Int32) [(.int ((c1.toInt8.toInt32).toInt8.toInt32)), (.int 0)] (.int 0)
theorem rmC5_2_1 (l : Launch) (Z : State) (az : Array Value) (hw : HW az Z) (ws : List Jvm.Cond) (a0 : Addr) (p1 : Int32) (a2 : Addr) (p3 : Int32) (p4 : Int32) (k0 k2 : ClassId) (c1 : Int32) (c2 : Int32) (h0 : Heap) (n0 : Nat) (Z0 : n0 ≤ h0.size) (V_a0 : Arv Z h0 a0 k0 .char (2 : Int32) [(.int c1), (.int c2)] (.int 0)) (V_a2 : Arv Z h0 a2 k2 .byte (2 : Int32) [(.int 0), (.int 0)] (.int 0)) (ne : a0 ≠ a2) (g_a2 : n0 ≤ a2) (h1 : p1 = 0) (h3 : p3 = 0) (h4 : p4 = (2 : Int32)) (u1 : ¬ (255 : Int32) < c1) (u2 : (255 : Int32) < c2) :
    MF l mN21 (Jvm.Cond.code mN21 jdk_52_method_21_code 7 (some .int) :: ws) (rO 0 0 0 0) #[(.ref a0), (.int p1), (.ref a2), (.int p3), (.int p4)] Z h0 (Q_c5_2_1 Z a2 k2 c1 c2 h0 n0) := by
  refine MetFree.of_bodySF (plainFor_of_name pn_3) hisR ?_
  intro p e s m args below meth c s₁ Bd hml0 hP hK
  obtain ⟨rfl, hZ, hh⟩ := hP
  have hx := Bd.exec
  have hby := Bd.bytes
  have hlk : meth.locks = false := Bd.notSynchronized
  have hml : c.maxLocals = 7 := hml0
  have hown : s.vm.findClass "java/lang/StringUTF16" = some m.cls := findClass_of_methodNamed Bd.named
  have X0 : Stand p l e (rO 0 0 0 0) s m #[(.ref a0), (.int p1), (.ref a2), (.int p3), (.int p4)] below meth c s₁ [] 0 0 := Stand.of_body Bd
  have e0 : s₁.heap = h0 := by rw [← hh, Bd.state]; rfl
  have N0 := Fr.nil n0
  show Go p e below s ((Q_c5_2_1 Z a2 k2 c1 c2 h0 n0)) (rO 0 0 0 0).cells (rO 0 0 0 0).slots (s₁.setTop (entryFrame m #[(.ref a0), (.int p1), (.ref a2), (.int p3), (.int p4)] 7))
  rw [ef_9 m a0 p1 a2 p3 p4]
  subst h1 h3 h4
  refine Go.st (S' := s₁.setTop (mkF m 12 #[vr a0, vi 0, vr a2, vi 0, vi 2, vi 0, .unset] [.int 0, .ref a0])) (fun _ kk => XS.iconst X0.here hx rfl (hb hby d9_0) (XS.istore X0.here hx rfl (hb hby d9_1) rfl (l' := #[vr a0, vi 0, vr a2, vi 0, vi 2, vi 0, .unset]) rfl (XS.iload X0.here hx rfl (hb hby d9_3) rfl (XS.iload X0.here hx rfl (hb hby d9_5) rfl (XS.icmpNo X0.here hx rfl (hb hby d9_7) rfl (tlt (by decide : (0 : Int32) < (2 : Int32))).2.1 (XS.aloadN X0.here hx rfl (hb hby d9_10) rfl rfl (XS.iloadN X0.here hx rfl (hb hby d9_11) rfl kk))))))) ?_
  obtain ⟨cl1, Ar1, qk1, S1, Ng1, H1, G1⟩ := (id V_a0)
  have hin1 : ¬ ((0 : Int32) < 0 ∨ cl1.slots.size ≤ ((0 : Int32)).toNatClampNeg) := inb_of S1 ⟨by decide, by decide⟩
  have hat1 : cl1.slots[((0 : Int32)).toNatClampNeg]? = some (.int c1) := Has.at H1 hin1 rfl
  refine Go.st (S' := s₁.setTop (mkF m 31 #[vr a0, vi 0, vr a2, vi 0, vi 2, vi 0, vi c1] [.int (c1.toInt8.toInt32), .int 0, .ref a2])) (fun _ kk => X0.caload hx (j := (0 : Int32)) (v := (.int c1)) (by rw [e0]; exact Ar1.1) (State.isArrayOf_alike hZ.alike Ar1.2.1) Ar1.2.2 hin1 hat1 (g := (mkF m 12 #[vr a0, vi 0, vr a2, vi 0, vi 2, vi 0, .unset] [.int 0, .ref a0])) rfl rfl (hb hby d9_12) _ (XS.istore X0.here hx rfl (hb hby d9_13) rfl (l' := #[vr a0, vi 0, vr a2, vi 0, vi 2, vi 0, vi c1]) rfl (XS.iload X0.here hx rfl (hb hby d9_15) rfl (XS.sipush X0.here hx rfl (hb hby d9_17) (XS.icmpYes X0.here hx rfl (pc0 := 20) (pc' := 26) rfl (hb hby d9_20) rfl (flt u1).2.2.2 (by decide) (by decide) (XS.aloadN X0.here hx rfl (hb hby d9_26) rfl rfl (XS.iloadN X0.here hx rfl (hb hby d9_27) rfl (XS.iload X0.here hx rfl (hb hby d9_28) rfl (XS.i2b X0.here hx rfl (hb hby d9_30) rfl kk))))))))) ?_
  obtain ⟨cl2, Ar2, qk2, S2, Ng2, H2, G2⟩ := (id V_a2)
  have hin2 : ¬ ((0 : Int32) < 0 ∨ cl2.slots.size ≤ ((0 : Int32)).toNatClampNeg) := inb_of S2 ⟨by decide, by decide⟩
  obtain ⟨T2, h2, X2, e2, W2, st2⟩ := stB X0 hx hZ e0 Ar2 (j := (0 : Int32)) hin2 (g := (mkF m 31 #[vr a0, vi 0, vr a2, vi 0, vi 2, vi 0, vi c1] [.int (c1.toInt8.toInt32), .int 0, .ref a2])) rfl rfl (hb hby d9_31)
  have V_a2 : Arv Z h2 a2 k2 .byte (2 : Int32) [(.int ((c1.toInt8.toInt32).toInt8.toInt32)), (.int 0)] (.int 0) := Arv.set Ar2 qk2 S2 Ng2 H2 G2 (fits_nar_byte _) W2 0 rfl (Nat.le_of_ble_eq_true rfl)
  have N2 := Fr.snoc X2 N0 g_a2
  have V_a0 := V_a0.other W2 ne
  have Zs3 := Nat.le_trans Z0 (Keep.of_wr W2).1
  have Kp4 := (Keep.refl h0 [a2]).wr W2 (Or.inl (List.mem_of_getElem? (i := 0) rfl))
  refine Go.st (S' := T2.setTop (mkF m 12 #[vr a0, vi 1, vr a2, vi 1, vi 2, vi 1, vi c1] [.int 1, .ref a0])) (fun _ kk => st2 _ (XS.iinc X2.here hx rfl (hb hby d9_32) rfl (l' := #[vr a0, vi 1, vr a2, vi 0, vi 2, vi 0, vi c1]) rfl (XS.iinc X2.here hx rfl (hb hby d9_35) rfl (l' := #[vr a0, vi 1, vr a2, vi 1, vi 2, vi 0, vi c1]) rfl (XS.iinc X2.here hx rfl (hb hby d9_38) rfl (l' := #[vr a0, vi 1, vr a2, vi 1, vi 2, vi 1, vi c1]) rfl (XS.goto X2.here hx rfl (pc0 := 41) (pc' := 3) rfl (hb hby d9_41) (by decide) (by decide) (XS.iload X2.here hx rfl (hb hby d9_3) rfl (XS.iload X2.here hx rfl (hb hby d9_5) rfl (XS.icmpNo X2.here hx rfl (hb hby d9_7) rfl (tlt (by decide : (1 : Int32) < (2 : Int32))).2.1 (XS.aloadN X2.here hx rfl (hb hby d9_10) rfl rfl (XS.iloadN X2.here hx rfl (hb hby d9_11) rfl kk)))))))))) ?_
  obtain ⟨cl5, Ar5, qk5, S5, Ng5, H5, G5⟩ := (id V_a0)
  have hin5 : ¬ ((1 : Int32) < 0 ∨ cl5.slots.size ≤ ((1 : Int32)).toNatClampNeg) := inb_of S5 ⟨by decide, by decide⟩
  have hat5 : cl5.slots[((1 : Int32)).toNatClampNeg]? = some (.int c2) := Has.at H5 hin5 rfl
  refine Go.st (S' := T2.setTop (mkF m 25 #[vr a0, vi 1, vr a2, vi 1, vi 2, vi 1, vi c2] [.int 1])) (fun _ kk => X2.caload hx (j := (1 : Int32)) (v := (.int c2)) (by rw [e2]; exact Ar5.1) (State.isArrayOf_alike hZ.alike Ar5.2.1) Ar5.2.2 hin5 hat5 (g := (mkF m 12 #[vr a0, vi 1, vr a2, vi 1, vi 2, vi 1, vi c1] [.int 1, .ref a0])) rfl rfl (hb hby d9_12) _ (XS.istore X2.here hx rfl (hb hby d9_13) rfl (l' := #[vr a0, vi 1, vr a2, vi 1, vi 2, vi 1, vi c2]) rfl (XS.iload X2.here hx rfl (hb hby d9_15) rfl (XS.sipush X2.here hx rfl (hb hby d9_17) (XS.icmpNo X2.here hx rfl (hb hby d9_20) rfl (tlt u2).2.2.2 (XS.iload X2.here hx rfl (hb hby d9_23) rfl kk)))))) ?_
  exact Go.retI X2 hx hlk Bd.returns (hb hby d9_25) (by rw [e2]; exact ⟨rfl, N2, Kp4, V_a2⟩) (by decide) (by decide)
def Q_c3_2_1 (Z : State) (c1 : Int32) (c2 : Int32) (h0 : Heap) (n0 : Nat) (v : Option Value) (h : Heap) (L : List Loc) : Prop := ∃ (b : Addr) (k : ClassId), v = some (.ref b) ∧ Fr n0 L ∧ Keep h0 h [] ∧ Arv Z h b k .byte (4 : Int32) [(.int (((c1 >>> ((0 : Int32) &&& 31)).toInt8.toInt32).toInt8.toInt32)), (.int (((c1 >>> ((8 : Int32) &&& 31)).toInt8.toInt32).toInt8.toInt32)), (.int (((c2 >>> ((0 : Int32) &&& 31)).toInt8.toInt32).toInt8.toInt32)), (.int (((c2 >>> ((8 : Int32) &&& 31)).toInt8.toInt32).toInt8.toInt32))] (.int 0) ∧ Exa Z h b "[B" ∧ h0.size ≤ b
theorem rmC3_2_1 (l : Launch) (Z : State) (az : Array Value) (hw : HW az Z) (ws : List Jvm.Cond) (a0 : Addr) (p1 : Int32) (p2 : Int32) (zc : Int32) (fm : Value) (k0 : ClassId) (c1 : Int32) (c2 : Int32) (h0 : Heap) (n0 : Nat) (Z0 : n0 ≤ h0.size) (S_C : tS0 Z h0 (.int zc)) (hzc : ¬ zc = 0) (S_F : tS1 Z h0 fm) (hfm : fm.isRef = true) (S_A : tS2 Z h0 (.int 1)) (S_H : tS3 Z h0 (.int 0)) (S_L : tS4 Z h0 (.int 8)) (V_a0 : Arv Z h0 a0 k0 .char (2 : Int32) [(.int c1), (.int c2)] (.int 0)) (h1 : p1 = 0) (h2 : p2 = (2 : Int32)) (y1 : 0 ≤ c1.toInt ∧ c1.toInt ≤ 65535) (y2 : 0 ≤ c2.toInt ∧ c2.toInt ≤ 65535) (u1 : ¬ (255 : Int32) < c1) (u2 : (255 : Int32) < c2) :
    MF l mN20 (Jvm.Cond.code mN20 jdk_52_method_16_code 6 (some (.array .byte)) :: ws) (rO 3 2 6 40) #[(.ref a0), (.int p1), (.int p2)] Z h0 (Q_c3_2_1 Z c1 c2 h0 n0) := by
  refine MetFree.of_bodySF (plainFor_of_name pn_3) hisR ?_
  intro p e s m args below meth c s₁ Bd hml0 hP hK
  obtain ⟨rfl, hZ, hh⟩ := hP
  have hx := Bd.exec
  have hby := Bd.bytes
  have hlk : meth.locks = false := Bd.notSynchronized
  have hml : c.maxLocals = 6 := hml0
  have hown : s.vm.findClass "java/lang/StringUTF16" = some m.cls := findClass_of_methodNamed Bd.named
  have X0 : Stand p l e (rO 3 2 6 40) s m #[(.ref a0), (.int p1), (.int p2)] below meth c s₁ [] 0 0 := Stand.of_body Bd
  have e0 : s₁.heap = h0 := by rw [← hh, Bd.state]; rfl
  have N0 := Fr.nil n0
  show Go p e below s ((Q_c3_2_1 Z c1 c2 h0 n0)) (rO 3 2 6 40).cells (rO 3 2 6 40).slots (s₁.setTop (entryFrame m #[(.ref a0), (.int p1), (.int p2)] 6))
  rw [ef_8 m a0 p1 p2]
  subst h1 h2
  have hix0 : ¬ ((1 : Int32) <<< ((1 : Int32) &&& 31)) < 0 ∧ ((1 : Int32) <<< ((1 : Int32) &&& 31)) < (4 : Int32) := by decide
  have hix1 : ¬ (((1 : Int32) <<< ((1 : Int32) &&& 31)) + (1 : Int32)) < 0 ∧ (((1 : Int32) <<< ((1 : Int32) &&& 31)) + (1 : Int32)) < (4 : Int32) := by decide
  refine Go.st (S' := s₁.setTop (mkF m 1 #[vr a0, vi 0, vi 2, .unset, .unset, .unset] [.int 2])) (fun _ kk => XS.iloadN X0.here hx rfl (hb hby d8_0) rfl kk) ?_
  obtain ⟨T1, h1, k1, X1, e1, E1, A1, E_b1, st1⟩ := newPE X0 hx hZ (ow hw 20 rfl) e0 (g := (mkF m 1 #[vr a0, vi 0, vi 2, .unset, .unset, .unset] [.int 2])) rfl (hb hby d8_1) rfl (by decide) (cap := 2) (by decide) (by decide) (by decide : 0 + 1 ≤ _) (by decide : 0 + 2 ≤ _) (ad := "[B") rfl
  obtain ⟨b1, g1⟩ : ∃ z, z = h0.size := ⟨_, rfl⟩
  rw [← g1] at A1 E_b1 st1
  have ne_a0_b1 : a0 ≠ b1 := Nat.ne_of_lt (Nat.lt_of_lt_of_le V_a0.lt (Nat.le_of_eq g1.symm))
  have g_b1 : n0 ≤ b1 := Nat.le_trans Z0 (Nat.le_of_eq g1.symm)
  have sz_b1 : h0.size ≤ b1 := Nat.le_trans (Keep.refl h0 []).1 (Nat.le_of_eq g1.symm)
  have S_C := S_C.ext E1
  have S_F := S_F.ext E1
  have S_A := S_A.ext E1
  have S_H := S_H.ext E1
  have S_L := S_L.ext E1
  have V_a0 := V_a0.ext E1
  have Zs2 := Nat.le_trans Z0 E1.1
  have Kp3 := (Keep.refl h0 []).ext E1
  have V_b1 : Arv Z h1 b1 k1 .byte (2 : Int32) [(.int 0), (.int 0)] (.int 0) := (Arv.new A1 (by decide)).pad (pad_rep [] (.int 0) 2)
  refine Go.st (S' := T1.setTop (mkF m 9 #[vr a0, vi 0, vi 2, vr b1, .unset, .unset] [.int 2, .int 0, .ref b1, .int 0, .ref a0])) (fun _ kk => st1 _ (XS.astoreN X1.here hx rfl (hb hby d8_3) rfl rfl (l' := #[vr a0, vi 0, vi 2, vr b1, .unset, .unset]) rfl (XS.aloadN X1.here hx rfl (hb hby d8_4) rfl rfl (XS.iloadN X1.here hx rfl (hb hby d8_5) rfl (XS.aloadN X1.here hx rfl (hb hby d8_6) rfl rfl (XS.iconst X1.here hx rfl (hb hby d8_7) (XS.iloadN X1.here hx rfl (hb hby d8_8) rfl kk))))))) ?_
  obtain ⟨_, _, ⟨T4, L4, k4, n4⟩, -, X4, ⟨Lc4, hQ4, l4, y4, z4⟩, st4⟩ := Jvm.LawKit.callS X1 hx (y := mN21) hown (mvT hZ (ow hw 46 rfl)) (mvT hZ (ow hw 47 rfl)) (mvT hZ (ow hw 44 rfl)) (mvT hZ (ow hw 48 rfl)) (by decide) (backOf (W := 0) (rmC5_2_1 l Z az hw [] a0 (0 : Int32) b1 (0 : Int32) (2 : Int32) k0 k1 c1 c2 h1 n0 Zs2 V_a0 V_b1 ne_a0_b1 g_b1 rfl rfl rfl u1 u2) hZ (ow hw 48 rfl) (ow hw 44 rfl) (by decide) (by decide)) (g := (mkF m 9 #[vr a0, vi 0, vi 2, vr b1, .unset, .unset] [.int 2, .int 0, .ref b1, .int 0, .ref a0])) rfl (by rw [hml]; rfl) (argsL := [.ref a0, .int 0, .ref b1, .int 0, .int 2]) (rest := []) (lenOf pd_8 rfl) rfl (oW rfl rfl) (hb hby d8_9) (fun _ _ => ⟨rfl, e1, (by decide : 1 + 0 ≤ _), (by decide : 2 + 0 ≤ _)⟩)
  dsimp only [Pt.U, Pt.locs, Pt.cells, Pt.slots] at X4 l4 y4 z4 st4 hQ4
  subst l4 y4 z4
  obtain ⟨rfl, N4q, K4, Va4⟩ := hQ4
  have N4 := Fr.app N0 N4q
  have S_C := own_stak K4 (allS (P := fun x => ∀ cell : Cell, (h1)[x]? = some cell → cell.vm.isStatics = false) (Exa.nostat E_b1) all0) S_C
  have S_F := own_stak K4 (allS (P := fun x => ∀ cell : Cell, (h1)[x]? = some cell → cell.vm.isStatics = false) (Exa.nostat E_b1) all0) S_F
  have S_A := own_stak K4 (allS (P := fun x => ∀ cell : Cell, (h1)[x]? = some cell → cell.vm.isStatics = false) (Exa.nostat E_b1) all0) S_A
  have S_H := own_stak K4 (allS (P := fun x => ∀ cell : Cell, (h1)[x]? = some cell → cell.vm.isStatics = false) (Exa.nostat E_b1) all0) S_H
  have S_L := own_stak K4 (allS (P := fun x => ∀ cell : Cell, (h1)[x]? = some cell → cell.vm.isStatics = false) (Exa.nostat E_b1) all0) S_L
  have V_a0 := V_a0.keep K4 (ninS ne_a0_b1 nin0)
  have E_b1 := E_b1.keep K4
  have Zs5 := Nat.le_trans Zs2 K4.1
  have Kp6 := Kp3.trans K4 (allS (Or.inr sz_b1) all0)
  refine Go.st (S' := T4.setTop (mkF m 23 #[vr a0, vi 0, vi 2, vr b1, vi 1, .unset] [.int 2, .int 0, .ref a0])) (fun _ kk => st4 _ (XS.istore X4.here hx rfl (hb hby d8_12) rfl (l' := #[vr a0, vi 0, vi 2, vr b1, vi 1, .unset]) rfl (XS.iload X4.here hx rfl (hb hby d8_14) rfl (XS.iloadN X4.here hx rfl (hb hby d8_16) rfl (XS.icmpNo X4.here hx rfl (hb hby d8_17) rfl (feq (by decide : ¬ ((1 : Int32) = (2 : Int32)))).1 (XS.aloadN X4.here hx rfl (hb hby d8_20) rfl rfl (XS.iloadN X4.here hx rfl (hb hby d8_21) rfl (XS.iloadN X4.here hx rfl (hb hby d8_22) rfl kk)))))))) ?_
  obtain ⟨_, _, ⟨T7, L7, k7, n7⟩, -, X7, ⟨Lc7, hQ7, l7, y7, z7⟩, st7⟩ := Jvm.LawKit.callS X4 hx (y := mN27) hown (mvT hZ (ow hw 96 rfl)) (mvT hZ (ow hw 97 rfl)) (mvT hZ (ow hw 44 rfl)) (mvT hZ (ow hw 98 rfl)) (by decide) (backOf (W := 0) (rmTB_2 l Z az hw [] a0 (0 : Int32) (2 : Int32) zc fm k0 c1 c2 T4.heap n0 Zs5 S_C hzc S_F hfm S_A S_H S_L V_a0 rfl rfl) hZ (ow hw 98 rfl) (ow hw 44 rfl) (by decide) (by decide)) (g := (mkF m 23 #[vr a0, vi 0, vi 2, vr b1, vi 1, .unset] [.int 2, .int 0, .ref a0])) rfl (by rw [hml]; rfl) (argsL := [.ref a0, .int 0, .int 2]) (rest := []) (lenOf pd_7 rfl) rfl (oW rfl rfl) (hb hby d8_23) (fun _ _ => ⟨rfl, rfl, (by decide : 1 + 1 ≤ _), (by decide : 2 + 4 ≤ _)⟩)
  dsimp only [Pt.U, Pt.locs, Pt.cells, Pt.slots] at X7 l7 y7 z7 st7 hQ7
  subst l7 y7 z7
  obtain ⟨b7, kb7, rfl, N7q, K7, V_b7, E_b7, gb7⟩ := hQ7
  have Ex7 := own_extK K7
  have N7 := Fr.app N4 N7q
  have ne_a0_b7 : a0 ≠ b7 := Nat.ne_of_lt (Nat.lt_of_lt_of_le V_a0.lt gb7)
  have ne_b1_b7 : b1 ≠ b7 := Nat.ne_of_lt (Nat.lt_of_lt_of_le E_b1.lt gb7)
  have g_b7 : n0 ≤ b7 := Nat.le_trans Zs5 gb7
  have sz_b7 : h0.size ≤ b7 := Nat.le_trans Kp6.1 gb7
  have S_C := S_C.ext Ex7
  have S_F := S_F.ext Ex7
  have S_A := S_A.ext Ex7
  have S_H := S_H.ext Ex7
  have S_L := S_L.ext Ex7
  have V_a0 := V_a0.ext Ex7
  have E_b1 := E_b1.ext Ex7
  have Va4 := Va4.ext Ex7
  have Zs8 := Nat.le_trans Zs5 Ex7.1
  have Kp9 := Kp6.ext Ex7
  refine Go.st (S' := T7.setTop (mkF m 32 #[vr a0, vi 0, vi 2, vr b1, vi 1, vr b7] [.int 1, .ref b7])) (fun _ kk => st7 _ (XS.astore X7.here hx rfl (hb hby d8_26) rfl rfl (l' := #[vr a0, vi 0, vi 2, vr b1, vi 1, vr b7]) rfl (XS.aload X7.here hx rfl (hb hby d8_28) rfl rfl (XS.iload X7.here hx rfl (hb hby d8_30) rfl kk)))) ?_
  obtain ⟨_, _, ⟨T10, L10, k10, n10⟩, -, X10, ⟨Lc10, hQ10, l10, y10, z10⟩, st10⟩ := Jvm.LawKit.callS X7 hx (y := mN22) hown (mvT hZ (ow hw 112 rfl)) (mvT hZ (ow hw 113 rfl)) (mvT hZ (ow hw 44 rfl)) (mvT hZ (ow hw 114 rfl)) (by decide) (backOf (W := 0) (rmUg l Z az hw [] b7 (1 : Int32) zc fm kb7 (4 : Int32) [(((c1 >>> ((0 : Int32) &&& 31)).toInt8.toInt32).toInt8.toInt32), (((c1 >>> ((8 : Int32) &&& 31)).toInt8.toInt32).toInt8.toInt32), (((c2 >>> ((0 : Int32) &&& 31)).toInt8.toInt32).toInt8.toInt32), (((c2 >>> ((8 : Int32) &&& 31)).toInt8.toInt32).toInt8.toInt32)] T7.heap n0 Zs8 S_C hzc S_F hfm S_A S_H S_L V_b7 hix0 hix1) hZ (ow hw 114 rfl) (ow hw 44 rfl) (by decide) (by decide)) (g := (mkF m 32 #[vr a0, vi 0, vi 2, vr b1, vi 1, vr b7] [.int 1, .ref b7])) rfl (by rw [hml]; rfl) (argsL := [.ref b7, .int 1]) (rest := []) (lenOf pd_14 rfl) rfl (oW rfl rfl) (hb hby d8_32) (fun _ _ => ⟨rfl, rfl, (by decide : 2 + 0 ≤ _), (by decide : 6 + 0 ≤ _)⟩)
  dsimp only [Pt.U, Pt.locs, Pt.cells, Pt.slots] at X10 l10 y10 z10 st10 hQ10
  subst l10 y10 z10
  obtain ⟨hv10, N10q, e10⟩ := hQ10
  subst hv10
  have N10 := Fr.app N7 N10q
  refine Go.st (S' := T10.setTop (mkF m 35 #[vr a0, vi 0, vi 2, vr b1, vi 1, vr b7] [.int (own_g16 (bt [(((c1 >>> ((0 : Int32) &&& 31)).toInt8.toInt32).toInt8.toInt32), (((c1 >>> ((8 : Int32) &&& 31)).toInt8.toInt32).toInt8.toInt32), (((c2 >>> ((0 : Int32) &&& 31)).toInt8.toInt32).toInt8.toInt32), (((c2 >>> ((8 : Int32) &&& 31)).toInt8.toInt32).toInt8.toInt32)] ((1 : Int32) <<< ((1 : Int32) &&& 31))) (bt [(((c1 >>> ((0 : Int32) &&& 31)).toInt8.toInt32).toInt8.toInt32), (((c1 >>> ((8 : Int32) &&& 31)).toInt8.toInt32).toInt8.toInt32), (((c2 >>> ((0 : Int32) &&& 31)).toInt8.toInt32).toInt8.toInt32), (((c2 >>> ((8 : Int32) &&& 31)).toInt8.toInt32).toInt8.toInt32)] (((1 : Int32) <<< ((1 : Int32) &&& 31)) + (1 : Int32))))])) st10 ?_
  rw [show (own_g16 (bt [(((c1 >>> ((0 : Int32) &&& 31)).toInt8.toInt32).toInt8.toInt32), (((c1 >>> ((8 : Int32) &&& 31)).toInt8.toInt32).toInt8.toInt32), (((c2 >>> ((0 : Int32) &&& 31)).toInt8.toInt32).toInt8.toInt32), (((c2 >>> ((8 : Int32) &&& 31)).toInt8.toInt32).toInt8.toInt32)] ((1 : Int32) <<< ((1 : Int32) &&& 31))) (bt [(((c1 >>> ((0 : Int32) &&& 31)).toInt8.toInt32).toInt8.toInt32), (((c1 >>> ((8 : Int32) &&& 31)).toInt8.toInt32).toInt8.toInt32), (((c2 >>> ((0 : Int32) &&& 31)).toInt8.toInt32).toInt8.toInt32), (((c2 >>> ((8 : Int32) &&& 31)).toInt8.toInt32).toInt8.toInt32)] (((1 : Int32) <<< ((1 : Int32) &&& 31)) + (1 : Int32)))) = c2 from own_rtg y2]
  refine Go.st (S' := T10.setTop (mkF m 56 #[vr a0, vi 0, vi 2, vr b1, vi 1, vr b7] [.ref b7])) (fun _ kk => XS.sipush X10.here hx rfl (hb hby d8_35) (XS.icmpYes X10.here hx rfl (pc0 := 38) (pc' := 54) rfl (hb hby d8_38) rfl (tlt u2).2.2.1 (by decide) (by decide) (XS.aload X10.here hx rfl (hb hby d8_54) rfl rfl kk))) ?_
  exact Go.retA X10 hx hlk Bd.returns rfl rfl (hb hby d8_56) (by rw [e10]; exact ⟨_, _, rfl, N10, Kp9, V_b7, E_b7, sz_b7⟩) (by decide) (by decide)
theorem rmI5_2_1 (l : Launch) (Z : State) (az : Array Value) (hw : HW az Z) (ws : List Jvm.Cond) (a0 : Addr) (a1 : Addr) (p2 : Int32) (p3 : Int32) (zc : Int32) (fm : Value) (k1 : ClassId) (c1 : Int32) (c2 : Int32) (h0 : Heap) (n0 : Nat) (Z0 : n0 ≤ h0.size) (S_C : tS0 Z h0 (.int zc)) (hzc : ¬ zc = 0) (S_F : tS1 Z h0 fm) (hfm : fm.isRef = true) (S_A : tS2 Z h0 (.int 1)) (S_H : tS3 Z h0 (.int 0)) (S_L : tS4 Z h0 (.int 8)) (E_a0 : Exa Z h0 a0 "java/lang/String") (F_coder : tF0 Z h0 a0 (.int 0)) (F_value : tF1 Z h0 a0 .null) (g_a0 : n0 ≤ a0) (ne : a0 ≠ a1) (V_a1 : Arv Z h0 a1 k1 .char (2 : Int32) [(.int c1), (.int c2)] (.int 0)) (h2 : p2 = 0) (h3 : p3 = (2 : Int32)) (y1 : 0 ≤ c1.toInt ∧ c1.toInt ≤ 65535) (y2 : 0 ≤ c2.toInt ∧ c2.toInt ≤ 65535) (u1 : ¬ (255 : Int32) < c1) (u2 : (255 : Int32) < c2) :
    MF l mN10 (Jvm.Cond.code mN10 jdk_42_method_149_code 6 none :: ws) (rO 4 2 6 57) #[(.ref a0), (.ref a1), (.int p2), (.int p3), .null] Z h0 (Q_in_2 Z a0 c1 c2 h0 n0) := by
  refine MetFree.of_bodySF (plainFor_of_name pn_1) hisR ?_
  intro p e s m args below meth c s₁ Bd hml0 hP hK
  obtain ⟨rfl, hZ, hh⟩ := hP
  have hx := Bd.exec
  have hby := Bd.bytes
  have hlk : meth.locks = false := Bd.notSynchronized
  have hml : c.maxLocals = 6 := hml0
  have hown : s.vm.findClass "java/lang/String" = some m.cls := findClass_of_methodNamed Bd.named
  have hnm := (name_of_methodNamed Bd.named Bd.method).1
  have X0 : Stand p l e (rO 4 2 6 57) s m #[(.ref a0), (.ref a1), (.int p2), (.int p3), .null] below meth c s₁ [] 0 0 := Stand.of_body Bd
  have e0 : s₁.heap = h0 := by rw [← hh, Bd.state]; rfl
  have N0 := Fr.nil n0
  show Go p e below s ((Q_in_2 Z a0 c1 c2 h0 n0)) (rO 4 2 6 57).cells (rO 4 2 6 57).slots (s₁.setTop (entryFrame m #[(.ref a0), (.ref a1), (.int p2), (.int p3), .null] 6))
  rw [ef_3n4 m a0 a1 p2 p3]
  subst h2 h3
  refine Go.st (S' := s₁.setTop (mkF m 1 #[vr a0, vr a1, vi 0, vi 2, .val .null, .unset] [.ref a0])) (fun _ kk => XS.aloadN X0.here hx rfl (hb hby d3_0) rfl rfl kk) ?_
  obtain ⟨T1, X1, e1, st1⟩ := initO X0 hx hZ hown (ow hw 16 rfl) (ow hw 17 rfl) (ow hw 18 rfl) e0 (g := (mkF m 1 #[vr a0, vr a1, vi 0, vi 2, .val .null, .unset] [.ref a0])) rfl (by rw [hml]; rfl) rfl (hb hby d3_1) (by decide) (W := 0) (oW rfl rfl) (by decide)
  refine Go.st (S' := T1.setTop (mkF m 27 #[vr a0, vr a1, vi 0, vi 2, .val .null, .unset] [])) (fun _ kk => st1 _ (XS.iloadN X1.here hx rfl (hb hby d3_4) rfl (XS.ifYes X1.here hx rfl (pc0 := 5) (pc' := 27) rfl (hb hby d3_5) rfl ((if0 _ _).trans (feq (by decide : ¬ ((2 : Int32) = (0 : Int32)))).2) (by decide) (by decide) kk))) ?_
  obtain ⟨T2, X2, e2, st2⟩ := getS2 X1 hx hZ hown (host := "") (Or.inl (ow hw 41 rfl)) Via.refl e1 S_C (g := (mkF m 27 #[vr a0, vr a1, vi 0, vi 2, .val .null, .unset] [])) rfl (hb hby d3_27)
  refine Go.st (S' := T2.setTop (mkF m 36 #[vr a0, vr a1, vi 0, vi 2, .val .null, .unset] [.int 2, .int 0, .ref a1])) (fun _ kk => st2 _ (XS.ifNo X2.here hx rfl (hb hby d3_30) rfl ((if0 _ _).trans (feq hzc).1) (XS.aloadN X2.here hx rfl (hb hby d3_33) rfl rfl (XS.iloadN X2.here hx rfl (hb hby d3_34) rfl (XS.iloadN X2.here hx rfl (hb hby d3_35) rfl kk))))) ?_
  obtain ⟨_, _, ⟨T3, L3, k3, n3⟩, -, X3, ⟨Lc3, hQ3, l3, y3, z3⟩, st3⟩ := Jvm.LawKit.callS X2 hx (y := mN20) hown (mvT hZ (ow hw 42 rfl)) (mvT hZ (ow hw 43 rfl)) (mvT hZ (ow hw 44 rfl)) (mvT hZ (ow hw 45 rfl)) (by decide) (backOf (W := 0) (rmC3_2_1 l Z az hw [] a1 (0 : Int32) (2 : Int32) zc fm k1 c1 c2 h0 n0 Z0 S_C hzc S_F hfm S_A S_H S_L V_a1 rfl rfl y1 y2 u1 u2) hZ (ow hw 45 rfl) (ow hw 44 rfl) (by decide) (by decide)) (g := (mkF m 36 #[vr a0, vr a1, vi 0, vi 2, .val .null, .unset] [.int 2, .int 0, .ref a1])) rfl (by rw [hml]; rfl) (argsL := [.ref a1, .int 0, .int 2]) (rest := []) (lenOf pd_7 rfl) rfl (oW rfl rfl) (hb hby d3_36) (fun _ _ => ⟨rfl, e2, (by decide : 0 + 2 ≤ _), (by decide : 0 + 6 ≤ _)⟩)
  dsimp only [Pt.U, Pt.locs, Pt.cells, Pt.slots] at X3 l3 y3 z3 st3 hQ3
  subst l3 y3 z3
  obtain ⟨b3, kb3, rfl, N3q, K3, V_b3, E_b3, gb3⟩ := hQ3
  have Ex3 := own_extK K3
  have N3 := Fr.app N0 N3q
  have ne_a0_b3 : a0 ≠ b3 := Nat.ne_of_lt (Nat.lt_of_lt_of_le E_a0.lt gb3)
  have ne_a1_b3 : a1 ≠ b3 := Nat.ne_of_lt (Nat.lt_of_lt_of_le V_a1.lt gb3)
  have g_b3 : n0 ≤ b3 := Nat.le_trans Z0 gb3
  have sz_b3 : h0.size ≤ b3 := Nat.le_trans (Keep.refl h0 [a0]).1 gb3
  have S_C := S_C.ext Ex3
  have S_F := S_F.ext Ex3
  have S_A := S_A.ext Ex3
  have S_H := S_H.ext Ex3
  have S_L := S_L.ext Ex3
  have E_a0 := E_a0.ext Ex3
  have F_coder := F_coder.ext Ex3
  have F_value := F_value.ext Ex3
  have V_a1 := V_a1.ext Ex3
  have Zs4 := Nat.le_trans Z0 Ex3.1
  have Kp5 := (Keep.refl h0 [a0]).ext Ex3
  refine Go.st (S' := T3.setTop (mkF m 45 #[vr a0, vr a1, vi 0, vi 2, .val .null, vr b3] [.int 2, .ref b3, .ref a0])) (fun _ kk => st3 _ (XS.astore X3.here hx rfl (hb hby d3_39) rfl rfl (l' := #[vr a0, vr a1, vi 0, vi 2, .val .null, vr b3]) rfl (XS.aloadN X3.here hx rfl (hb hby d3_41) rfl rfl (XS.aload X3.here hx rfl (hb hby d3_42) rfl rfl (XS.iloadN X3.here hx rfl (hb hby d3_44) rfl kk))))) ?_
  obtain ⟨_, _, ⟨T6, L6, k6, n6⟩, -, X6, ⟨Lc6, hQ6, l6, y6, z6⟩, st6⟩ := Jvm.LawKit.callS X3 hx (y := mN19) hown (mvT hZ (ow hw 49 rfl)) (mvT hZ (ow hw 50 rfl)) (mvT hZ (ow hw 44 rfl)) (mvT hZ (ow hw 51 rfl)) (by decide) (backOf (W := 1) (rmCd_2_1 l Z az hw [] b3 (2 : Int32) kb3 _ T3.heap n0 Zs4 V_b3 rfl) hZ (ow hw 51 rfl) (ow hw 44 rfl) (by decide) (by decide)) (g := (mkF m 45 #[vr a0, vr a1, vi 0, vi 2, .val .null, vr b3] [.int 2, .ref b3, .ref a0])) rfl (by rw [hml]; rfl) (argsL := [.ref b3, .int 2]) (rest := [.ref a0]) (lenOf pd_9 rfl) rfl (oW rfl rfl) (hb hby d3_45) (fun _ _ => ⟨rfl, rfl, (by decide : 2 + 0 ≤ _), (by decide : 6 + 0 ≤ _)⟩)
  dsimp only [Pt.U, Pt.locs, Pt.cells, Pt.slots] at X6 l6 y6 z6 st6 hQ6
  subst l6 y6 z6
  obtain ⟨hv6, N6q, e6⟩ := hQ6
  subst hv6
  have N6 := Fr.app N3 N6q
  refine Go.st (S' := T6.setTop (mkF m 48 #[vr a0, vr a1, vi 0, vi 2, .val .null, vr b3] [.int 1, .ref a0])) st6 ?_
  obtain ⟨T7, h7, X7, e7, W7, st7⟩ := putFN X6 hx hZ hown (ow hw 26 rfl) Via.refl e6 F_coder E_a0 (Or.inr ⟨(ow hw 22 rfl), rfl, hnm⟩) (ow hw 7 rfl) (ty := .byte) (v' := .int (nar .byte (1 : Int32))) (by decide) rfl (fits_nar_byte _) (g := (mkF m 48 #[vr a0, vr a1, vi 0, vi 2, .val .null, vr b3] [.int 1, .ref a0])) rfl rfl (hb hby d3_48)
  have N7 := Fr.snoc X7 N6 g_a0
  have F_coder := F_coder.same W7
  have S_C := S_C.wr W7
  have S_F := S_F.wr W7
  have S_A := S_A.wr W7
  have S_H := S_H.wr W7
  have S_L := S_L.wr W7
  have E_a0 := E_a0.wr W7
  have F_value := F_value.other W7 (Or.inr (slot_ne (Or.inr (ow hw 21 rfl)) (Or.inr (ow hw 22 rfl)) (by decide) (t := (.array .byte)) (t' := .byte) (by decide) (by decide)))
  have V_a1 := V_a1.other W7 (Ne.symm ne)
  have E_b3 := E_b3.wr W7
  have V_b3 := V_b3.other W7 (Ne.symm ne_a0_b3)
  have Zs8 := Nat.le_trans Zs4 (Keep.of_wr W7).1
  have Kp9 := Kp5.wr W7 (Or.inl (List.mem_of_getElem? (i := 0) rfl))
  refine Go.st (S' := T7.setTop (mkF m 54 #[vr a0, vr a1, vi 0, vi 2, .val .null, vr b3] [.ref b3, .ref a0])) (fun _ kk => st7 _ (XS.aloadN X7.here hx rfl (hb hby d3_51) rfl rfl (XS.aload X7.here hx rfl (hb hby d3_52) rfl rfl kk))) ?_
  obtain ⟨T10, h10, X10, e10, W10, st10⟩ := putF X7 hx hZ hown (host := "") (Or.inl (ow hw 25 rfl)) Via.refl e7 F_value E_a0 (Or.inr ⟨(ow hw 21 rfl), rfl, hnm⟩) (ow hw 7 rfl) (ty := (.array .byte)) (by decide) rfl rfl (g := (mkF m 54 #[vr a0, vr a1, vi 0, vi 2, .val .null, vr b3] [.ref b3, .ref a0])) rfl rfl (hb hby d3_54)
  have N10 := Fr.snoc X10 N7 g_a0
  have F_value := F_value.same W10
  have S_C := S_C.wr W10
  have S_F := S_F.wr W10
  have S_A := S_A.wr W10
  have S_H := S_H.wr W10
  have S_L := S_L.wr W10
  have E_a0 := E_a0.wr W10
  have F_coder := F_coder.other W10 (Or.inr (slot_ne (Or.inr (ow hw 22 rfl)) (Or.inr (ow hw 21 rfl)) (by decide) (t := .byte) (t' := (.array .byte)) (by decide) (by decide)))
  have V_a1 := V_a1.other W10 (Ne.symm ne)
  have E_b3 := E_b3.wr W10
  have V_b3 := V_b3.other W10 (Ne.symm ne_a0_b3)
  have Zs11 := Nat.le_trans Zs8 (Keep.of_wr W10).1
  have Kp12 := Kp9.wr W10 (Or.inl (List.mem_of_getElem? (i := 0) rfl))
  refine Go.st (S' := T10.setTop (mkF m 57 #[vr a0, vr a1, vi 0, vi 2, .val .null, vr b3] [])) st10 ?_
  exact Go.ret0 X10 hx hlk Bd.returns (hb hby d3_57) (by rw [e10]; exact ⟨rfl, N10, Kp12, E_a0, _, _, _, _, (own_u16 [c1, c2]), F_coder, F_value, V_b3, Or.inr ⟨rfl, rfl, rfl, (List.forall_mem_cons.mpr ⟨y1, (List.forall_mem_cons.mpr ⟨y2, (fun _ hx => nomatch hx)⟩)⟩)⟩⟩) (by decide) (by decide)
def Q_c5_2_2 (Z : State) (a2 : Addr) (k2 : ClassId) (c1 : Int32) (c2 : Int32) (h0 : Heap) (n0 : Nat) (v : Option Value) (h : Heap) (L : List Loc) : Prop := v = some (.int 2) ∧ Fr n0 L ∧ Keep h0 h [a2] ∧ Arv Z h a2 k2 .byte (2 : Int32) [(.int ((c1.toInt8.toInt32).toInt8.toInt32)), (.int ((c2.toInt8.toInt32).toInt8.toInt32))] (.int 0)
theorem rmC5_2_2 (l : Launch) (Z : State) (az : Array Value) (hw : HW az Z) (ws : List Jvm.Cond) (a0 : Addr) (p1 : Int32) (a2 : Addr) (p3 : Int32) (p4 : Int32) (k0 k2 : ClassId) (c1 : Int32) (c2 : Int32) (h0 : Heap) (n0 : Nat) (Z0 : n0 ≤ h0.size) (V_a0 : Arv Z h0 a0 k0 .char (2 : Int32) [(.int c1), (.int c2)] (.int 0)) (V_a2 : Arv Z h0 a2 k2 .byte (2 : Int32) [(.int 0), (.int 0)] (.int 0)) (ne : a0 ≠ a2) (g_a2 : n0 ≤ a2) (h1 : p1 = 0) (h3 : p3 = 0) (h4 : p4 = (2 : Int32)) (u1 : ¬ (255 : Int32) < c1) (u2 : ¬ (255 : Int32) < c2) :
    MF l mN21 (Jvm.Cond.code mN21 jdk_52_method_21_code 7 (some .int) :: ws) (rO 0 0 0 0) #[(.ref a0), (.int p1), (.ref a2), (.int p3), (.int p4)] Z h0 (Q_c5_2_2 Z a2 k2 c1 c2 h0 n0) := by
  refine MetFree.of_bodySF (plainFor_of_name pn_3) hisR ?_
  intro p e s m args below meth c s₁ Bd hml0 hP hK
  obtain ⟨rfl, hZ, hh⟩ := hP
  have hx := Bd.exec
  have hby := Bd.bytes
  have hlk : meth.locks = false := Bd.notSynchronized
  have hml : c.maxLocals = 7 := hml0
  have hown : s.vm.findClass "java/lang/StringUTF16" = some m.cls := findClass_of_methodNamed Bd.named
  have X0 : Stand p l e (rO 0 0 0 0) s m #[(.ref a0), (.int p1), (.ref a2), (.int p3), (.int p4)] below meth c s₁ [] 0 0 := Stand.of_body Bd
  have e0 : s₁.heap = h0 := by rw [← hh, Bd.state]; rfl
  have N0 := Fr.nil n0
  show Go p e below s ((Q_c5_2_2 Z a2 k2 c1 c2 h0 n0)) (rO 0 0 0 0).cells (rO 0 0 0 0).slots (s₁.setTop (entryFrame m #[(.ref a0), (.int p1), (.ref a2), (.int p3), (.int p4)] 7))
  rw [ef_9 m a0 p1 a2 p3 p4]
  subst h1 h3 h4
  refine Go.st (S' := s₁.setTop (mkF m 12 #[vr a0, vi 0, vr a2, vi 0, vi 2, vi 0, .unset] [.int 0, .ref a0])) (fun _ kk => XS.iconst X0.here hx rfl (hb hby d9_0) (XS.istore X0.here hx rfl (hb hby d9_1) rfl (l' := #[vr a0, vi 0, vr a2, vi 0, vi 2, vi 0, .unset]) rfl (XS.iload X0.here hx rfl (hb hby d9_3) rfl (XS.iload X0.here hx rfl (hb hby d9_5) rfl (XS.icmpNo X0.here hx rfl (hb hby d9_7) rfl (tlt (by decide : (0 : Int32) < (2 : Int32))).2.1 (XS.aloadN X0.here hx rfl (hb hby d9_10) rfl rfl (XS.iloadN X0.here hx rfl (hb hby d9_11) rfl kk))))))) ?_
  obtain ⟨cl1, Ar1, qk1, S1, Ng1, H1, G1⟩ := (id V_a0)
  have hin1 : ¬ ((0 : Int32) < 0 ∨ cl1.slots.size ≤ ((0 : Int32)).toNatClampNeg) := inb_of S1 ⟨by decide, by decide⟩
  have hat1 : cl1.slots[((0 : Int32)).toNatClampNeg]? = some (.int c1) := Has.at H1 hin1 rfl
  refine Go.st (S' := s₁.setTop (mkF m 31 #[vr a0, vi 0, vr a2, vi 0, vi 2, vi 0, vi c1] [.int (c1.toInt8.toInt32), .int 0, .ref a2])) (fun _ kk => X0.caload hx (j := (0 : Int32)) (v := (.int c1)) (by rw [e0]; exact Ar1.1) (State.isArrayOf_alike hZ.alike Ar1.2.1) Ar1.2.2 hin1 hat1 (g := (mkF m 12 #[vr a0, vi 0, vr a2, vi 0, vi 2, vi 0, .unset] [.int 0, .ref a0])) rfl rfl (hb hby d9_12) _ (XS.istore X0.here hx rfl (hb hby d9_13) rfl (l' := #[vr a0, vi 0, vr a2, vi 0, vi 2, vi 0, vi c1]) rfl (XS.iload X0.here hx rfl (hb hby d9_15) rfl (XS.sipush X0.here hx rfl (hb hby d9_17) (XS.icmpYes X0.here hx rfl (pc0 := 20) (pc' := 26) rfl (hb hby d9_20) rfl (flt u1).2.2.2 (by decide) (by decide) (XS.aloadN X0.here hx rfl (hb hby d9_26) rfl rfl (XS.iloadN X0.here hx rfl (hb hby d9_27) rfl (XS.iload X0.here hx rfl (hb hby d9_28) rfl (XS.i2b X0.here hx rfl (hb hby d9_30) rfl kk))))))))) ?_
  obtain ⟨cl2, Ar2, qk2, S2, Ng2, H2, G2⟩ := (id V_a2)
  have hin2 : ¬ ((0 : Int32) < 0 ∨ cl2.slots.size ≤ ((0 : Int32)).toNatClampNeg) := inb_of S2 ⟨by decide, by decide⟩
  obtain ⟨T2, h2, X2, e2, W2, st2⟩ := stB X0 hx hZ e0 Ar2 (j := (0 : Int32)) hin2 (g := (mkF m 31 #[vr a0, vi 0, vr a2, vi 0, vi 2, vi 0, vi c1] [.int (c1.toInt8.toInt32), .int 0, .ref a2])) rfl rfl (hb hby d9_31)
  have V_a2 : Arv Z h2 a2 k2 .byte (2 : Int32) [(.int ((c1.toInt8.toInt32).toInt8.toInt32)), (.int 0)] (.int 0) := Arv.set Ar2 qk2 S2 Ng2 H2 G2 (fits_nar_byte _) W2 0 rfl (Nat.le_of_ble_eq_true rfl)
  have N2 := Fr.snoc X2 N0 g_a2
  have V_a0 := V_a0.other W2 ne
  have Zs3 := Nat.le_trans Z0 (Keep.of_wr W2).1
  have Kp4 := (Keep.refl h0 [a2]).wr W2 (Or.inl (List.mem_of_getElem? (i := 0) rfl))
  refine Go.st (S' := T2.setTop (mkF m 12 #[vr a0, vi 1, vr a2, vi 1, vi 2, vi 1, vi c1] [.int 1, .ref a0])) (fun _ kk => st2 _ (XS.iinc X2.here hx rfl (hb hby d9_32) rfl (l' := #[vr a0, vi 1, vr a2, vi 0, vi 2, vi 0, vi c1]) rfl (XS.iinc X2.here hx rfl (hb hby d9_35) rfl (l' := #[vr a0, vi 1, vr a2, vi 1, vi 2, vi 0, vi c1]) rfl (XS.iinc X2.here hx rfl (hb hby d9_38) rfl (l' := #[vr a0, vi 1, vr a2, vi 1, vi 2, vi 1, vi c1]) rfl (XS.goto X2.here hx rfl (pc0 := 41) (pc' := 3) rfl (hb hby d9_41) (by decide) (by decide) (XS.iload X2.here hx rfl (hb hby d9_3) rfl (XS.iload X2.here hx rfl (hb hby d9_5) rfl (XS.icmpNo X2.here hx rfl (hb hby d9_7) rfl (tlt (by decide : (1 : Int32) < (2 : Int32))).2.1 (XS.aloadN X2.here hx rfl (hb hby d9_10) rfl rfl (XS.iloadN X2.here hx rfl (hb hby d9_11) rfl kk)))))))))) ?_
  obtain ⟨cl5, Ar5, qk5, S5, Ng5, H5, G5⟩ := (id V_a0)
  have hin5 : ¬ ((1 : Int32) < 0 ∨ cl5.slots.size ≤ ((1 : Int32)).toNatClampNeg) := inb_of S5 ⟨by decide, by decide⟩
  have hat5 : cl5.slots[((1 : Int32)).toNatClampNeg]? = some (.int c2) := Has.at H5 hin5 rfl
  refine Go.st (S' := T2.setTop (mkF m 31 #[vr a0, vi 1, vr a2, vi 1, vi 2, vi 1, vi c2] [.int (c2.toInt8.toInt32), .int 1, .ref a2])) (fun _ kk => X2.caload hx (j := (1 : Int32)) (v := (.int c2)) (by rw [e2]; exact Ar5.1) (State.isArrayOf_alike hZ.alike Ar5.2.1) Ar5.2.2 hin5 hat5 (g := (mkF m 12 #[vr a0, vi 1, vr a2, vi 1, vi 2, vi 1, vi c1] [.int 1, .ref a0])) rfl rfl (hb hby d9_12) _ (XS.istore X2.here hx rfl (hb hby d9_13) rfl (l' := #[vr a0, vi 1, vr a2, vi 1, vi 2, vi 1, vi c2]) rfl (XS.iload X2.here hx rfl (hb hby d9_15) rfl (XS.sipush X2.here hx rfl (hb hby d9_17) (XS.icmpYes X2.here hx rfl (pc0 := 20) (pc' := 26) rfl (hb hby d9_20) rfl (flt u2).2.2.2 (by decide) (by decide) (XS.aloadN X2.here hx rfl (hb hby d9_26) rfl rfl (XS.iloadN X2.here hx rfl (hb hby d9_27) rfl (XS.iload X2.here hx rfl (hb hby d9_28) rfl (XS.i2b X2.here hx rfl (hb hby d9_30) rfl kk))))))))) ?_
  obtain ⟨cl6, Ar6, qk6, S6, Ng6, H6, G6⟩ := (id V_a2)
  have hin6 : ¬ ((1 : Int32) < 0 ∨ cl6.slots.size ≤ ((1 : Int32)).toNatClampNeg) := inb_of S6 ⟨by decide, by decide⟩
  obtain ⟨T6, h6, X6, e6, W6, st6⟩ := stB X2 hx hZ e2 Ar6 (j := (1 : Int32)) hin6 (g := (mkF m 31 #[vr a0, vi 1, vr a2, vi 1, vi 2, vi 1, vi c2] [.int (c2.toInt8.toInt32), .int 1, .ref a2])) rfl rfl (hb hby d9_31)
  have V_a2 : Arv Z h6 a2 k2 .byte (2 : Int32) [(.int ((c1.toInt8.toInt32).toInt8.toInt32)), (.int ((c2.toInt8.toInt32).toInt8.toInt32))] (.int 0) := Arv.set Ar6 qk6 S6 Ng6 H6 G6 (fits_nar_byte _) W6 1 rfl (Nat.le_of_ble_eq_true rfl)
  have N6 := Fr.snoc X6 N2 g_a2
  have V_a0 := V_a0.other W6 ne
  have Zs7 := Nat.le_trans Zs3 (Keep.of_wr W6).1
  have Kp8 := Kp4.wr W6 (Or.inl (List.mem_of_getElem? (i := 0) rfl))
  refine Go.st (S' := T6.setTop (mkF m 46 #[vr a0, vi 2, vr a2, vi 2, vi 2, vi 2, vi c2] [.int 2])) (fun _ kk => st6 _ (XS.iinc X6.here hx rfl (hb hby d9_32) rfl (l' := #[vr a0, vi 2, vr a2, vi 1, vi 2, vi 1, vi c2]) rfl (XS.iinc X6.here hx rfl (hb hby d9_35) rfl (l' := #[vr a0, vi 2, vr a2, vi 2, vi 2, vi 1, vi c2]) rfl (XS.iinc X6.here hx rfl (hb hby d9_38) rfl (l' := #[vr a0, vi 2, vr a2, vi 2, vi 2, vi 2, vi c2]) rfl (XS.goto X6.here hx rfl (pc0 := 41) (pc' := 3) rfl (hb hby d9_41) (by decide) (by decide) (XS.iload X6.here hx rfl (hb hby d9_3) rfl (XS.iload X6.here hx rfl (hb hby d9_5) rfl (XS.icmpYes X6.here hx rfl (pc0 := 7) (pc' := 44) rfl (hb hby d9_7) rfl (flt (by decide : ¬ ((2 : Int32) < (2 : Int32)))).2.1 (by decide) (by decide) (XS.iload X6.here hx rfl (hb hby d9_44) rfl kk))))))))) ?_
  exact Go.retI X6 hx hlk Bd.returns (hb hby d9_46) (by rw [e6]; exact ⟨rfl, N6, Kp8, V_a2⟩) (by decide) (by decide)
def Q_c3_2_2 (Z : State) (c1 : Int32) (c2 : Int32) (h0 : Heap) (n0 : Nat) (v : Option Value) (h : Heap) (L : List Loc) : Prop := ∃ (b : Addr) (k : ClassId), v = some (.ref b) ∧ Fr n0 L ∧ Keep h0 h [] ∧ Arv Z h b k .byte (2 : Int32) [(.int ((c1.toInt8.toInt32).toInt8.toInt32)), (.int ((c2.toInt8.toInt32).toInt8.toInt32))] (.int 0) ∧ Exa Z h b "[B" ∧ h0.size ≤ b
theorem rmC3_2_2 (l : Launch) (Z : State) (az : Array Value) (hw : HW az Z) (ws : List Jvm.Cond) (a0 : Addr) (p1 : Int32) (p2 : Int32) (zc : Int32) (fm : Value) (k0 : ClassId) (c1 : Int32) (c2 : Int32) (h0 : Heap) (n0 : Nat) (Z0 : n0 ≤ h0.size) (S_C : tS0 Z h0 (.int zc)) (hzc : ¬ zc = 0) (S_F : tS1 Z h0 fm) (hfm : fm.isRef = true) (S_A : tS2 Z h0 (.int 1)) (S_H : tS3 Z h0 (.int 0)) (S_L : tS4 Z h0 (.int 8)) (V_a0 : Arv Z h0 a0 k0 .char (2 : Int32) [(.int c1), (.int c2)] (.int 0)) (h1 : p1 = 0) (h2 : p2 = (2 : Int32)) (y1 : 0 ≤ c1.toInt ∧ c1.toInt ≤ 65535) (y2 : 0 ≤ c2.toInt ∧ c2.toInt ≤ 65535) (u1 : ¬ (255 : Int32) < c1) (u2 : ¬ (255 : Int32) < c2) :
    MF l mN20 (Jvm.Cond.code mN20 jdk_52_method_16_code 6 (some (.array .byte)) :: ws) (rO 3 2 6 40) #[(.ref a0), (.int p1), (.int p2)] Z h0 (Q_c3_2_2 Z c1 c2 h0 n0) := by
  refine MetFree.of_bodySF (plainFor_of_name pn_3) hisR ?_
  intro p e s m args below meth c s₁ Bd hml0 hP hK
  obtain ⟨rfl, hZ, hh⟩ := hP
  have hx := Bd.exec
  have hby := Bd.bytes
  have hlk : meth.locks = false := Bd.notSynchronized
  have hml : c.maxLocals = 6 := hml0
  have hown : s.vm.findClass "java/lang/StringUTF16" = some m.cls := findClass_of_methodNamed Bd.named
  have X0 : Stand p l e (rO 3 2 6 40) s m #[(.ref a0), (.int p1), (.int p2)] below meth c s₁ [] 0 0 := Stand.of_body Bd
  have e0 : s₁.heap = h0 := by rw [← hh, Bd.state]; rfl
  have N0 := Fr.nil n0
  show Go p e below s ((Q_c3_2_2 Z c1 c2 h0 n0)) (rO 3 2 6 40).cells (rO 3 2 6 40).slots (s₁.setTop (entryFrame m #[(.ref a0), (.int p1), (.int p2)] 6))
  rw [ef_8 m a0 p1 p2]
  subst h1 h2
  refine Go.st (S' := s₁.setTop (mkF m 1 #[vr a0, vi 0, vi 2, .unset, .unset, .unset] [.int 2])) (fun _ kk => XS.iloadN X0.here hx rfl (hb hby d8_0) rfl kk) ?_
  obtain ⟨T1, h1, k1, X1, e1, E1, A1, E_b1, st1⟩ := newPE X0 hx hZ (ow hw 20 rfl) e0 (g := (mkF m 1 #[vr a0, vi 0, vi 2, .unset, .unset, .unset] [.int 2])) rfl (hb hby d8_1) rfl (by decide) (cap := 2) (by decide) (by decide) (by decide : 0 + 1 ≤ _) (by decide : 0 + 2 ≤ _) (ad := "[B") rfl
  obtain ⟨b1, g1⟩ : ∃ z, z = h0.size := ⟨_, rfl⟩
  rw [← g1] at A1 E_b1 st1
  have ne_a0_b1 : a0 ≠ b1 := Nat.ne_of_lt (Nat.lt_of_lt_of_le V_a0.lt (Nat.le_of_eq g1.symm))
  have g_b1 : n0 ≤ b1 := Nat.le_trans Z0 (Nat.le_of_eq g1.symm)
  have sz_b1 : h0.size ≤ b1 := Nat.le_trans (Keep.refl h0 []).1 (Nat.le_of_eq g1.symm)
  have S_C := S_C.ext E1
  have S_F := S_F.ext E1
  have S_A := S_A.ext E1
  have S_H := S_H.ext E1
  have S_L := S_L.ext E1
  have V_a0 := V_a0.ext E1
  have Zs2 := Nat.le_trans Z0 E1.1
  have Kp3 := (Keep.refl h0 []).ext E1
  have V_b1 : Arv Z h1 b1 k1 .byte (2 : Int32) [(.int 0), (.int 0)] (.int 0) := (Arv.new A1 (by decide)).pad (pad_rep [] (.int 0) 2)
  refine Go.st (S' := T1.setTop (mkF m 9 #[vr a0, vi 0, vi 2, vr b1, .unset, .unset] [.int 2, .int 0, .ref b1, .int 0, .ref a0])) (fun _ kk => st1 _ (XS.astoreN X1.here hx rfl (hb hby d8_3) rfl rfl (l' := #[vr a0, vi 0, vi 2, vr b1, .unset, .unset]) rfl (XS.aloadN X1.here hx rfl (hb hby d8_4) rfl rfl (XS.iloadN X1.here hx rfl (hb hby d8_5) rfl (XS.aloadN X1.here hx rfl (hb hby d8_6) rfl rfl (XS.iconst X1.here hx rfl (hb hby d8_7) (XS.iloadN X1.here hx rfl (hb hby d8_8) rfl kk))))))) ?_
  obtain ⟨_, _, ⟨T4, L4, k4, n4⟩, -, X4, ⟨Lc4, hQ4, l4, y4, z4⟩, st4⟩ := Jvm.LawKit.callS X1 hx (y := mN21) hown (mvT hZ (ow hw 46 rfl)) (mvT hZ (ow hw 47 rfl)) (mvT hZ (ow hw 44 rfl)) (mvT hZ (ow hw 48 rfl)) (by decide) (backOf (W := 0) (rmC5_2_2 l Z az hw [] a0 (0 : Int32) b1 (0 : Int32) (2 : Int32) k0 k1 c1 c2 h1 n0 Zs2 V_a0 V_b1 ne_a0_b1 g_b1 rfl rfl rfl u1 u2) hZ (ow hw 48 rfl) (ow hw 44 rfl) (by decide) (by decide)) (g := (mkF m 9 #[vr a0, vi 0, vi 2, vr b1, .unset, .unset] [.int 2, .int 0, .ref b1, .int 0, .ref a0])) rfl (by rw [hml]; rfl) (argsL := [.ref a0, .int 0, .ref b1, .int 0, .int 2]) (rest := []) (lenOf pd_8 rfl) rfl (oW rfl rfl) (hb hby d8_9) (fun _ _ => ⟨rfl, e1, (by decide : 1 + 0 ≤ _), (by decide : 2 + 0 ≤ _)⟩)
  dsimp only [Pt.U, Pt.locs, Pt.cells, Pt.slots] at X4 l4 y4 z4 st4 hQ4
  subst l4 y4 z4
  obtain ⟨rfl, N4q, K4, Va4⟩ := hQ4
  have N4 := Fr.app N0 N4q
  have S_C := own_stak K4 (allS (P := fun x => ∀ cell : Cell, (h1)[x]? = some cell → cell.vm.isStatics = false) (Exa.nostat E_b1) all0) S_C
  have S_F := own_stak K4 (allS (P := fun x => ∀ cell : Cell, (h1)[x]? = some cell → cell.vm.isStatics = false) (Exa.nostat E_b1) all0) S_F
  have S_A := own_stak K4 (allS (P := fun x => ∀ cell : Cell, (h1)[x]? = some cell → cell.vm.isStatics = false) (Exa.nostat E_b1) all0) S_A
  have S_H := own_stak K4 (allS (P := fun x => ∀ cell : Cell, (h1)[x]? = some cell → cell.vm.isStatics = false) (Exa.nostat E_b1) all0) S_H
  have S_L := own_stak K4 (allS (P := fun x => ∀ cell : Cell, (h1)[x]? = some cell → cell.vm.isStatics = false) (Exa.nostat E_b1) all0) S_L
  have V_a0 := V_a0.keep K4 (ninS ne_a0_b1 nin0)
  have E_b1 := E_b1.keep K4
  have Zs5 := Nat.le_trans Zs2 K4.1
  have Kp6 := Kp3.trans K4 (allS (Or.inr sz_b1) all0)
  refine Go.st (S' := T4.setTop (mkF m 58 #[vr a0, vi 0, vi 2, vr b1, vi 2, .unset] [.ref b1])) (fun _ kk => st4 _ (XS.istore X4.here hx rfl (hb hby d8_12) rfl (l' := #[vr a0, vi 0, vi 2, vr b1, vi 2, .unset]) rfl (XS.iload X4.here hx rfl (hb hby d8_14) rfl (XS.iloadN X4.here hx rfl (hb hby d8_16) rfl (XS.icmpYes X4.here hx rfl (pc0 := 17) (pc' := 57) rfl (hb hby d8_17) rfl (teq (by decide : (2 : Int32) = (2 : Int32))).1 (by decide) (by decide) (XS.aloadN X4.here hx rfl (hb hby d8_57) rfl rfl kk)))))) ?_
  exact Go.retA X4 hx hlk Bd.returns rfl rfl (hb hby d8_58) (by exact ⟨_, _, rfl, N4, Kp6, Va4, E_b1, sz_b1⟩) (by decide) (by decide)
theorem rmCd_2_0 (l : Launch) (Z : State) (az : Array Value) (hw : HW az Z) (ws : List Jvm.Cond) (a0 : Addr) (p1 : Int32) (k0 : ClassId) (vs : List Value) (h0 : Heap) (n0 : Nat) (Z0 : n0 ≤ h0.size) (V_a0 : Arv Z h0 a0 k0 .byte (2 : Int32) vs (.int 0)) (h1 : p1 = (2 : Int32)) :
    MF l mN19 (Jvm.Cond.code mN19 jdk_52_method_15_code 2 (some .byte) :: ws) (rO 0 0 0 0) #[(.ref a0), (.int p1)] Z h0 (PQ (.int 0) n0 h0) := by
  refine MetFree.of_bodySF (plainFor_of_name pn_3) hisR ?_
  intro p e s m args below meth c s₁ Bd hml0 hP hK
  obtain ⟨rfl, hZ, hh⟩ := hP
  have hx := Bd.exec
  have hby := Bd.bytes
  have hlk : meth.locks = false := Bd.notSynchronized
  have hml : c.maxLocals = 2 := hml0
  have hown : s.vm.findClass "java/lang/StringUTF16" = some m.cls := findClass_of_methodNamed Bd.named
  have X0 : Stand p l e (rO 0 0 0 0) s m #[(.ref a0), (.int p1)] below meth c s₁ [] 0 0 := Stand.of_body Bd
  have e0 : s₁.heap = h0 := by rw [← hh, Bd.state]; rfl
  have N0 := Fr.nil n0
  show Go p e below s ((PQ (.int 0) n0 h0)) (rO 0 0 0 0).cells (rO 0 0 0 0).slots (s₁.setTop (entryFrame m #[(.ref a0), (.int p1)] 2))
  rw [ef_10 m a0 p1]
  subst h1
  refine Go.st (S' := s₁.setTop (mkF m 2 #[vr a0, vi 2] [.ref a0, .int 2])) (fun _ kk => XS.iloadN X0.here hx rfl (hb hby d10_0) rfl (XS.aloadN X0.here hx rfl (hb hby d10_1) rfl rfl kk)) ?_
  obtain ⟨cl1, Ar1, -, S1, Ng1, -, -⟩ := (id V_a0)
  refine Go.st (S' := s₁.setTop (mkF m 3 #[vr a0, vi 2] [.int 2, .int 2])) (fun _ kk => X0.arraylength hx (by rw [e0]; exact Ar1.1) (State.isArrayOf_alike hZ.alike Ar1.2.1) (g := (mkF m 2 #[vr a0, vi 2] [.ref a0, .int 2])) rfl rfl (hb hby d10_2) _ (by rw [len_of S1 Ng1]; exact kk)) ?_
  refine Go.st (S' := s₁.setTop (mkF m 8 #[vr a0, vi 2] [.int ((((0 : Int32).toUInt32 >>> ((31 : Int32) &&& 31).toUInt32).toInt32).toInt8.toInt32)])) (fun _ kk => XS.isub X0.here hx rfl (hb hby d10_3) rfl (XS.bipush X0.here hx rfl (hb hby d10_4) (XS.iushr X0.here hx rfl (hb hby d10_6) rfl (XS.i2b X0.here hx rfl (hb hby d10_7) rfl kk)))) ?_
  exact Go.retN X0 hx hlk (t := .byte) Bd.returns (by simp) (hb hby d10_8) (⟨rfl, N0, e0⟩) (by decide) (by decide)
theorem rmI5_2_2 (l : Launch) (Z : State) (az : Array Value) (hw : HW az Z) (ws : List Jvm.Cond) (a0 : Addr) (a1 : Addr) (p2 : Int32) (p3 : Int32) (zc : Int32) (fm : Value) (k1 : ClassId) (c1 : Int32) (c2 : Int32) (h0 : Heap) (n0 : Nat) (Z0 : n0 ≤ h0.size) (S_C : tS0 Z h0 (.int zc)) (hzc : ¬ zc = 0) (S_F : tS1 Z h0 fm) (hfm : fm.isRef = true) (S_A : tS2 Z h0 (.int 1)) (S_H : tS3 Z h0 (.int 0)) (S_L : tS4 Z h0 (.int 8)) (E_a0 : Exa Z h0 a0 "java/lang/String") (F_coder : tF0 Z h0 a0 (.int 0)) (F_value : tF1 Z h0 a0 .null) (g_a0 : n0 ≤ a0) (ne : a0 ≠ a1) (V_a1 : Arv Z h0 a1 k1 .char (2 : Int32) [(.int c1), (.int c2)] (.int 0)) (h2 : p2 = 0) (h3 : p3 = (2 : Int32)) (y1 : 0 ≤ c1.toInt ∧ c1.toInt ≤ 65535) (y2 : 0 ≤ c2.toInt ∧ c2.toInt ≤ 65535) (u1 : ¬ (255 : Int32) < c1) (u2 : ¬ (255 : Int32) < c2) :
    MF l mN10 (Jvm.Cond.code mN10 jdk_42_method_149_code 6 none :: ws) (rO 4 2 6 57) #[(.ref a0), (.ref a1), (.int p2), (.int p3), .null] Z h0 (Q_in_2 Z a0 c1 c2 h0 n0) := by
  refine MetFree.of_bodySF (plainFor_of_name pn_1) hisR ?_
  intro p e s m args below meth c s₁ Bd hml0 hP hK
  obtain ⟨rfl, hZ, hh⟩ := hP
  have hx := Bd.exec
  have hby := Bd.bytes
  have hlk : meth.locks = false := Bd.notSynchronized
  have hml : c.maxLocals = 6 := hml0
  have hown : s.vm.findClass "java/lang/String" = some m.cls := findClass_of_methodNamed Bd.named
  have hnm := (name_of_methodNamed Bd.named Bd.method).1
  have X0 : Stand p l e (rO 4 2 6 57) s m #[(.ref a0), (.ref a1), (.int p2), (.int p3), .null] below meth c s₁ [] 0 0 := Stand.of_body Bd
  have e0 : s₁.heap = h0 := by rw [← hh, Bd.state]; rfl
  have N0 := Fr.nil n0
  show Go p e below s ((Q_in_2 Z a0 c1 c2 h0 n0)) (rO 4 2 6 57).cells (rO 4 2 6 57).slots (s₁.setTop (entryFrame m #[(.ref a0), (.ref a1), (.int p2), (.int p3), .null] 6))
  rw [ef_3n4 m a0 a1 p2 p3]
  subst h2 h3
  refine Go.st (S' := s₁.setTop (mkF m 1 #[vr a0, vr a1, vi 0, vi 2, .val .null, .unset] [.ref a0])) (fun _ kk => XS.aloadN X0.here hx rfl (hb hby d3_0) rfl rfl kk) ?_
  obtain ⟨T1, X1, e1, st1⟩ := initO X0 hx hZ hown (ow hw 16 rfl) (ow hw 17 rfl) (ow hw 18 rfl) e0 (g := (mkF m 1 #[vr a0, vr a1, vi 0, vi 2, .val .null, .unset] [.ref a0])) rfl (by rw [hml]; rfl) rfl (hb hby d3_1) (by decide) (W := 0) (oW rfl rfl) (by decide)
  refine Go.st (S' := T1.setTop (mkF m 27 #[vr a0, vr a1, vi 0, vi 2, .val .null, .unset] [])) (fun _ kk => st1 _ (XS.iloadN X1.here hx rfl (hb hby d3_4) rfl (XS.ifYes X1.here hx rfl (pc0 := 5) (pc' := 27) rfl (hb hby d3_5) rfl ((if0 _ _).trans (feq (by decide : ¬ ((2 : Int32) = (0 : Int32)))).2) (by decide) (by decide) kk))) ?_
  obtain ⟨T2, X2, e2, st2⟩ := getS2 X1 hx hZ hown (host := "") (Or.inl (ow hw 41 rfl)) Via.refl e1 S_C (g := (mkF m 27 #[vr a0, vr a1, vi 0, vi 2, .val .null, .unset] [])) rfl (hb hby d3_27)
  refine Go.st (S' := T2.setTop (mkF m 36 #[vr a0, vr a1, vi 0, vi 2, .val .null, .unset] [.int 2, .int 0, .ref a1])) (fun _ kk => st2 _ (XS.ifNo X2.here hx rfl (hb hby d3_30) rfl ((if0 _ _).trans (feq hzc).1) (XS.aloadN X2.here hx rfl (hb hby d3_33) rfl rfl (XS.iloadN X2.here hx rfl (hb hby d3_34) rfl (XS.iloadN X2.here hx rfl (hb hby d3_35) rfl kk))))) ?_
  obtain ⟨_, _, ⟨T3, L3, k3, n3⟩, -, X3, ⟨Lc3, hQ3, l3, y3, z3⟩, st3⟩ := Jvm.LawKit.callS X2 hx (y := mN20) hown (mvT hZ (ow hw 42 rfl)) (mvT hZ (ow hw 43 rfl)) (mvT hZ (ow hw 44 rfl)) (mvT hZ (ow hw 45 rfl)) (by decide) (backOf (W := 0) (rmC3_2_2 l Z az hw [] a1 (0 : Int32) (2 : Int32) zc fm k1 c1 c2 h0 n0 Z0 S_C hzc S_F hfm S_A S_H S_L V_a1 rfl rfl y1 y2 u1 u2) hZ (ow hw 45 rfl) (ow hw 44 rfl) (by decide) (by decide)) (g := (mkF m 36 #[vr a0, vr a1, vi 0, vi 2, .val .null, .unset] [.int 2, .int 0, .ref a1])) rfl (by rw [hml]; rfl) (argsL := [.ref a1, .int 0, .int 2]) (rest := []) (lenOf pd_7 rfl) rfl (oW rfl rfl) (hb hby d3_36) (fun _ _ => ⟨rfl, e2, (by decide : 0 + 2 ≤ _), (by decide : 0 + 6 ≤ _)⟩)
  dsimp only [Pt.U, Pt.locs, Pt.cells, Pt.slots] at X3 l3 y3 z3 st3 hQ3
  subst l3 y3 z3
  obtain ⟨b3, kb3, rfl, N3q, K3, V_b3, E_b3, gb3⟩ := hQ3
  have Ex3 := own_extK K3
  have N3 := Fr.app N0 N3q
  have ne_a0_b3 : a0 ≠ b3 := Nat.ne_of_lt (Nat.lt_of_lt_of_le E_a0.lt gb3)
  have ne_a1_b3 : a1 ≠ b3 := Nat.ne_of_lt (Nat.lt_of_lt_of_le V_a1.lt gb3)
  have g_b3 : n0 ≤ b3 := Nat.le_trans Z0 gb3
  have sz_b3 : h0.size ≤ b3 := Nat.le_trans (Keep.refl h0 [a0]).1 gb3
  have S_C := S_C.ext Ex3
  have S_F := S_F.ext Ex3
  have S_A := S_A.ext Ex3
  have S_H := S_H.ext Ex3
  have S_L := S_L.ext Ex3
  have E_a0 := E_a0.ext Ex3
  have F_coder := F_coder.ext Ex3
  have F_value := F_value.ext Ex3
  have V_a1 := V_a1.ext Ex3
  have Zs4 := Nat.le_trans Z0 Ex3.1
  have Kp5 := (Keep.refl h0 [a0]).ext Ex3
  refine Go.st (S' := T3.setTop (mkF m 45 #[vr a0, vr a1, vi 0, vi 2, .val .null, vr b3] [.int 2, .ref b3, .ref a0])) (fun _ kk => st3 _ (XS.astore X3.here hx rfl (hb hby d3_39) rfl rfl (l' := #[vr a0, vr a1, vi 0, vi 2, .val .null, vr b3]) rfl (XS.aloadN X3.here hx rfl (hb hby d3_41) rfl rfl (XS.aload X3.here hx rfl (hb hby d3_42) rfl rfl (XS.iloadN X3.here hx rfl (hb hby d3_44) rfl kk))))) ?_
  obtain ⟨_, _, ⟨T6, L6, k6, n6⟩, -, X6, ⟨Lc6, hQ6, l6, y6, z6⟩, st6⟩ := Jvm.LawKit.callS X3 hx (y := mN19) hown (mvT hZ (ow hw 49 rfl)) (mvT hZ (ow hw 50 rfl)) (mvT hZ (ow hw 44 rfl)) (mvT hZ (ow hw 51 rfl)) (by decide) (backOf (W := 1) (rmCd_2_0 l Z az hw [] b3 (2 : Int32) kb3 _ T3.heap n0 Zs4 V_b3 rfl) hZ (ow hw 51 rfl) (ow hw 44 rfl) (by decide) (by decide)) (g := (mkF m 45 #[vr a0, vr a1, vi 0, vi 2, .val .null, vr b3] [.int 2, .ref b3, .ref a0])) rfl (by rw [hml]; rfl) (argsL := [.ref b3, .int 2]) (rest := [.ref a0]) (lenOf pd_9 rfl) rfl (oW rfl rfl) (hb hby d3_45) (fun _ _ => ⟨rfl, rfl, (by decide : 2 + 0 ≤ _), (by decide : 6 + 0 ≤ _)⟩)
  dsimp only [Pt.U, Pt.locs, Pt.cells, Pt.slots] at X6 l6 y6 z6 st6 hQ6
  subst l6 y6 z6
  obtain ⟨hv6, N6q, e6⟩ := hQ6
  subst hv6
  have N6 := Fr.app N3 N6q
  refine Go.st (S' := T6.setTop (mkF m 48 #[vr a0, vr a1, vi 0, vi 2, .val .null, vr b3] [.int 0, .ref a0])) st6 ?_
  obtain ⟨T7, h7, X7, e7, W7, st7⟩ := putFN X6 hx hZ hown (ow hw 26 rfl) Via.refl e6 F_coder E_a0 (Or.inr ⟨(ow hw 22 rfl), rfl, hnm⟩) (ow hw 7 rfl) (ty := .byte) (v' := .int (nar .byte (0 : Int32))) (by decide) rfl (fits_nar_byte _) (g := (mkF m 48 #[vr a0, vr a1, vi 0, vi 2, .val .null, vr b3] [.int 0, .ref a0])) rfl rfl (hb hby d3_48)
  have N7 := Fr.snoc X7 N6 g_a0
  have F_coder := F_coder.same W7
  have S_C := S_C.wr W7
  have S_F := S_F.wr W7
  have S_A := S_A.wr W7
  have S_H := S_H.wr W7
  have S_L := S_L.wr W7
  have E_a0 := E_a0.wr W7
  have F_value := F_value.other W7 (Or.inr (slot_ne (Or.inr (ow hw 21 rfl)) (Or.inr (ow hw 22 rfl)) (by decide) (t := (.array .byte)) (t' := .byte) (by decide) (by decide)))
  have V_a1 := V_a1.other W7 (Ne.symm ne)
  have E_b3 := E_b3.wr W7
  have V_b3 := V_b3.other W7 (Ne.symm ne_a0_b3)
  have Zs8 := Nat.le_trans Zs4 (Keep.of_wr W7).1
  have Kp9 := Kp5.wr W7 (Or.inl (List.mem_of_getElem? (i := 0) rfl))
  refine Go.st (S' := T7.setTop (mkF m 54 #[vr a0, vr a1, vi 0, vi 2, .val .null, vr b3] [.ref b3, .ref a0])) (fun _ kk => st7 _ (XS.aloadN X7.here hx rfl (hb hby d3_51) rfl rfl (XS.aload X7.here hx rfl (hb hby d3_52) rfl rfl kk))) ?_
  obtain ⟨T10, h10, X10, e10, W10, st10⟩ := putF X7 hx hZ hown (host := "") (Or.inl (ow hw 25 rfl)) Via.refl e7 F_value E_a0 (Or.inr ⟨(ow hw 21 rfl), rfl, hnm⟩) (ow hw 7 rfl) (ty := (.array .byte)) (by decide) rfl rfl (g := (mkF m 54 #[vr a0, vr a1, vi 0, vi 2, .val .null, vr b3] [.ref b3, .ref a0])) rfl rfl (hb hby d3_54)
  have N10 := Fr.snoc X10 N7 g_a0
  have F_value := F_value.same W10
  have S_C := S_C.wr W10
  have S_F := S_F.wr W10
  have S_A := S_A.wr W10
  have S_H := S_H.wr W10
  have S_L := S_L.wr W10
  have E_a0 := E_a0.wr W10
  have F_coder := F_coder.other W10 (Or.inr (slot_ne (Or.inr (ow hw 22 rfl)) (Or.inr (ow hw 21 rfl)) (by decide) (t := .byte) (t' := (.array .byte)) (by decide) (by decide)))
  have V_a1 := V_a1.other W10 (Ne.symm ne)
  have E_b3 := E_b3.wr W10
  have V_b3 := V_b3.other W10 (Ne.symm ne_a0_b3)
  have Zs11 := Nat.le_trans Zs8 (Keep.of_wr W10).1
  have Kp12 := Kp9.wr W10 (Or.inl (List.mem_of_getElem? (i := 0) rfl))
  refine Go.st (S' := T10.setTop (mkF m 57 #[vr a0, vr a1, vi 0, vi 2, .val .null, vr b3] [])) st10 ?_
  exact Go.ret0 X10 hx hlk Bd.returns (hb hby d3_57) (by rw [e10]; exact ⟨rfl, N10, Kp12, E_a0, _, _, _, _, (([c1, c2] : List Int32).map own_lo8), F_coder, F_value, V_b3, Or.inl ⟨rfl, rfl, rfl, (List.forall_mem_cons.mpr ⟨own_sm y1 u1, (List.forall_mem_cons.mpr ⟨own_sm y2 u2, (fun _ hx => nomatch hx)⟩)⟩)⟩⟩) (by decide) (by decide)
theorem rmI1_2 (l : Launch) (Z : State) (az : Array Value) (hw : HW az Z) (ws : List Jvm.Cond) (a0 : Addr) (a1 : Addr) (zc : Int32) (fm : Value) (k1 : ClassId) (c1 : Int32) (c2 : Int32) (h0 : Heap) (n0 : Nat) (Z0 : n0 ≤ h0.size) (S_C : tS0 Z h0 (.int zc)) (hzc : ¬ zc = 0) (S_F : tS1 Z h0 fm) (hfm : fm.isRef = true) (S_A : tS2 Z h0 (.int 1)) (S_H : tS3 Z h0 (.int 0)) (S_L : tS4 Z h0 (.int 8)) (E_a0 : Exa Z h0 a0 "java/lang/String") (F_coder : tF0 Z h0 a0 (.int 0)) (F_value : tF1 Z h0 a0 .null) (g_a0 : n0 ≤ a0) (ne : a0 ≠ a1) (V_a1 : Arv Z h0 a1 k1 .char (2 : Int32) [(.int c1), (.int c2)] (.int 0)) (y1 : 0 ≤ c1.toInt ∧ c1.toInt ≤ 65535) (y2 : 0 ≤ c2.toInt ∧ c2.toInt ≤ 65535) :
    MF l mN9 (Jvm.Cond.code mN9 jdk_42_method_3_code 2 none :: ws) (rO 5 2 6 74) #[(.ref a0), (.ref a1)] Z h0 (Q_in_2 Z a0 c1 c2 h0 n0) := by
  refine MetFree.of_bodySF (plainFor_of_name pn_1) hisR ?_
  intro p e s m args below meth c s₁ Bd hml0 hP hK
  obtain ⟨rfl, hZ, hh⟩ := hP
  have hx := Bd.exec
  have hby := Bd.bytes
  have hlk : meth.locks = false := Bd.notSynchronized
  have hml : c.maxLocals = 2 := hml0
  have hown : s.vm.findClass "java/lang/String" = some m.cls := findClass_of_methodNamed Bd.named
  have X0 : Stand p l e (rO 5 2 6 74) s m #[(.ref a0), (.ref a1)] below meth c s₁ [] 0 0 := Stand.of_body Bd
  have e0 : s₁.heap = h0 := by rw [← hh, Bd.state]; rfl
  have N0 := Fr.nil n0
  show Go p e below s ((Q_in_2 Z a0 c1 c2 h0 n0)) (rO 5 2 6 74).cells (rO 5 2 6 74).slots (s₁.setTop (entryFrame m #[(.ref a0), (.ref a1)] 2))
  rw [ef_2 m a0 a1]
  refine Go.st (S' := s₁.setTop (mkF m 4 #[vr a0, vr a1] [.ref a1, .int 0, .ref a1, .ref a0])) (fun _ kk => XS.aloadN X0.here hx rfl (hb hby d2_0) rfl rfl (XS.aloadN X0.here hx rfl (hb hby d2_1) rfl rfl (XS.iconst X0.here hx rfl (hb hby d2_2) (XS.aloadN X0.here hx rfl (hb hby d2_3) rfl rfl kk)))) ?_
  obtain ⟨cl1, Ar1, -, S1, Ng1, -, -⟩ := (id V_a1)
  refine Go.st (S' := s₁.setTop (mkF m 5 #[vr a0, vr a1] [.int 2, .int 0, .ref a1, .ref a0])) (fun _ kk => X0.arraylength hx (by rw [e0]; exact Ar1.1) (State.isArrayOf_alike hZ.alike Ar1.2.1) (g := (mkF m 4 #[vr a0, vr a1] [.ref a1, .int 0, .ref a1, .ref a0])) rfl rfl (hb hby d2_4) _ (by rw [len_of S1 Ng1]; exact kk)) ?_
  refine Go.st (S' := s₁.setTop (mkF m 6 #[vr a0, vr a1] [.null, .int 2, .int 0, .ref a1, .ref a0])) (fun _ kk => XS.aconstNull X0.here hx rfl (hb hby d2_5) kk) ?_
  by_cases hc2 : (255 : Int32) < c1
  · obtain ⟨_, _, ⟨T3, L3, k3, n3⟩, -, X3, ⟨Lc3, hQ3, l3, y3, z3⟩, st3⟩ := X0.specialBack hx (y := mN10) rfl hown (mvT hZ (ow hw 12 rfl)) (mvT hZ (ow hw 13 rfl)) (mvT hZ (ow hw 15 rfl)) (by decide) (backOf (W := 0) (rmI5_2_0 l Z az hw [] a0 a1 (0 : Int32) (2 : Int32) zc fm k1 c1 c2 h0 n0 Z0 S_C hzc S_F hfm S_A S_H S_L E_a0 F_coder F_value g_a0 ne V_a1 rfl rfl y1 y2 hc2) hZ (ow hw 15 rfl) (ow hw 8 rfl) (by decide) (by decide)) (g := (mkF m 6 #[vr a0, vr a1] [.null, .int 2, .int 0, .ref a1, .ref a0])) rfl (by rw [hml]; rfl) (Steps.refl _) (a := a0) (argsL := [.ref a1, .int 0, .int 2, .null]) (rest := []) (lenOf pd_2 rfl) rfl (oW rfl rfl) (hb hby d2_6) (fun _ _ => ⟨rfl, e0, (by decide : 0 + 2 ≤ _), (by decide : 0 + 6 ≤ _)⟩)
    dsimp only [Pt.U, Pt.locs, Pt.cells, Pt.slots] at X3 l3 y3 z3 st3 hQ3
    subst l3 y3 z3
    obtain ⟨rfl, N3q, K3, CS3⟩ := hQ3
    have N3 := Fr.app N0 N3q
    have S_C := own_stak K3 (allS (P := fun x => ∀ cell : Cell, (h0)[x]? = some cell → cell.vm.isStatics = false) (Exa.nostat E_a0) all0) S_C
    have S_F := own_stak K3 (allS (P := fun x => ∀ cell : Cell, (h0)[x]? = some cell → cell.vm.isStatics = false) (Exa.nostat E_a0) all0) S_F
    have S_A := own_stak K3 (allS (P := fun x => ∀ cell : Cell, (h0)[x]? = some cell → cell.vm.isStatics = false) (Exa.nostat E_a0) all0) S_A
    have S_H := own_stak K3 (allS (P := fun x => ∀ cell : Cell, (h0)[x]? = some cell → cell.vm.isStatics = false) (Exa.nostat E_a0) all0) S_H
    have S_L := own_stak K3 (allS (P := fun x => ∀ cell : Cell, (h0)[x]? = some cell → cell.vm.isStatics = false) (Exa.nostat E_a0) all0) S_L
    have E_a0 := E_a0.keep K3
    have V_a1 := V_a1.keep K3 (ninS (Ne.symm ne) nin0)
    have Zs4 := Nat.le_trans Z0 K3.1
    have Kp5 := (Keep.refl h0 [a0]).trans K3 (allS (Or.inl (List.mem_of_getElem? (i := 0) rfl)) all0)
    have Ec3 := CS3.1
    refine Go.tr (S' := T3.setTop (mkF m 9 #[vr a0, vr a1] [])) st3 ?_
    exact Go.ret0 X3 hx hlk Bd.returns (hb hby d2_9) (by exact ⟨rfl, N3, Kp5, CS3⟩) (by decide) (by decide)
  · by_cases hc6 : (255 : Int32) < c2
    · obtain ⟨_, _, ⟨T7, L7, k7, n7⟩, -, X7, ⟨Lc7, hQ7, l7, y7, z7⟩, st7⟩ := X0.specialBack hx (y := mN10) rfl hown (mvT hZ (ow hw 12 rfl)) (mvT hZ (ow hw 13 rfl)) (mvT hZ (ow hw 15 rfl)) (by decide) (backOf (W := 0) (rmI5_2_1 l Z az hw [] a0 a1 (0 : Int32) (2 : Int32) zc fm k1 c1 c2 h0 n0 Z0 S_C hzc S_F hfm S_A S_H S_L E_a0 F_coder F_value g_a0 ne V_a1 rfl rfl y1 y2 hc2 hc6) hZ (ow hw 15 rfl) (ow hw 8 rfl) (by decide) (by decide)) (g := (mkF m 6 #[vr a0, vr a1] [.null, .int 2, .int 0, .ref a1, .ref a0])) rfl (by rw [hml]; rfl) (Steps.refl _) (a := a0) (argsL := [.ref a1, .int 0, .int 2, .null]) (rest := []) (lenOf pd_2 rfl) rfl (oW rfl rfl) (hb hby d2_6) (fun _ _ => ⟨rfl, e0, (by decide : 0 + 2 ≤ _), (by decide : 0 + 6 ≤ _)⟩)
      dsimp only [Pt.U, Pt.locs, Pt.cells, Pt.slots] at X7 l7 y7 z7 st7 hQ7
      subst l7 y7 z7
      obtain ⟨rfl, N7q, K7, CS7⟩ := hQ7
      have N7 := Fr.app N0 N7q
      have S_C := own_stak K7 (allS (P := fun x => ∀ cell : Cell, (h0)[x]? = some cell → cell.vm.isStatics = false) (Exa.nostat E_a0) all0) S_C
      have S_F := own_stak K7 (allS (P := fun x => ∀ cell : Cell, (h0)[x]? = some cell → cell.vm.isStatics = false) (Exa.nostat E_a0) all0) S_F
      have S_A := own_stak K7 (allS (P := fun x => ∀ cell : Cell, (h0)[x]? = some cell → cell.vm.isStatics = false) (Exa.nostat E_a0) all0) S_A
      have S_H := own_stak K7 (allS (P := fun x => ∀ cell : Cell, (h0)[x]? = some cell → cell.vm.isStatics = false) (Exa.nostat E_a0) all0) S_H
      have S_L := own_stak K7 (allS (P := fun x => ∀ cell : Cell, (h0)[x]? = some cell → cell.vm.isStatics = false) (Exa.nostat E_a0) all0) S_L
      have E_a0 := E_a0.keep K7
      have V_a1 := V_a1.keep K7 (ninS (Ne.symm ne) nin0)
      have Zs8 := Nat.le_trans Z0 K7.1
      have Kp9 := (Keep.refl h0 [a0]).trans K7 (allS (Or.inl (List.mem_of_getElem? (i := 0) rfl)) all0)
      have Ec7 := CS7.1
      refine Go.tr (S' := T7.setTop (mkF m 9 #[vr a0, vr a1] [])) st7 ?_
      exact Go.ret0 X7 hx hlk Bd.returns (hb hby d2_9) (by exact ⟨rfl, N7, Kp9, CS7⟩) (by decide) (by decide)
    · obtain ⟨_, _, ⟨T10, L10, k10, n10⟩, -, X10, ⟨Lc10, hQ10, l10, y10, z10⟩, st10⟩ := X0.specialBack hx (y := mN10) rfl hown (mvT hZ (ow hw 12 rfl)) (mvT hZ (ow hw 13 rfl)) (mvT hZ (ow hw 15 rfl)) (by decide) (backOf (W := 0) (rmI5_2_2 l Z az hw [] a0 a1 (0 : Int32) (2 : Int32) zc fm k1 c1 c2 h0 n0 Z0 S_C hzc S_F hfm S_A S_H S_L E_a0 F_coder F_value g_a0 ne V_a1 rfl rfl y1 y2 hc2 hc6) hZ (ow hw 15 rfl) (ow hw 8 rfl) (by decide) (by decide)) (g := (mkF m 6 #[vr a0, vr a1] [.null, .int 2, .int 0, .ref a1, .ref a0])) rfl (by rw [hml]; rfl) (Steps.refl _) (a := a0) (argsL := [.ref a1, .int 0, .int 2, .null]) (rest := []) (lenOf pd_2 rfl) rfl (oW rfl rfl) (hb hby d2_6) (fun _ _ => ⟨rfl, e0, (by decide : 0 + 2 ≤ _), (by decide : 0 + 6 ≤ _)⟩)
      dsimp only [Pt.U, Pt.locs, Pt.cells, Pt.slots] at X10 l10 y10 z10 st10 hQ10
      subst l10 y10 z10
      obtain ⟨rfl, N10q, K10, CS10⟩ := hQ10
      have N10 := Fr.app N0 N10q
      have S_C := own_stak K10 (allS (P := fun x => ∀ cell : Cell, (h0)[x]? = some cell → cell.vm.isStatics = false) (Exa.nostat E_a0) all0) S_C
      have S_F := own_stak K10 (allS (P := fun x => ∀ cell : Cell, (h0)[x]? = some cell → cell.vm.isStatics = false) (Exa.nostat E_a0) all0) S_F
      have S_A := own_stak K10 (allS (P := fun x => ∀ cell : Cell, (h0)[x]? = some cell → cell.vm.isStatics = false) (Exa.nostat E_a0) all0) S_A
      have S_H := own_stak K10 (allS (P := fun x => ∀ cell : Cell, (h0)[x]? = some cell → cell.vm.isStatics = false) (Exa.nostat E_a0) all0) S_H
      have S_L := own_stak K10 (allS (P := fun x => ∀ cell : Cell, (h0)[x]? = some cell → cell.vm.isStatics = false) (Exa.nostat E_a0) all0) S_L
      have E_a0 := E_a0.keep K10
      have V_a1 := V_a1.keep K10 (ninS (Ne.symm ne) nin0)
      have Zs11 := Nat.le_trans Z0 K10.1
      have Kp12 := (Keep.refl h0 [a0]).trans K10 (allS (Or.inl (List.mem_of_getElem? (i := 0) rfl)) all0)
      have Ec10 := CS10.1
      refine Go.tr (S' := T10.setTop (mkF m 9 #[vr a0, vr a1] [])) st10 ?_
      exact Go.ret0 X10 hx hlk Bd.returns (hb hby d2_9) (by exact ⟨rfl, N10, Kp12, CS10⟩) (by decide) (by decide)
def Q_nf_3 (Z : State)  (h0 : Heap) (n0 : Nat) (v : Option Value) (h : Heap) (L : List Loc) : Prop := ∃ (b : Addr) (k : ClassId), v = some (.ref b) ∧ Fr n0 L ∧ Keep h0 h [] ∧ Arv Z h b k .byte (6 : Int32) [(.int 0), (.int 0), (.int 0), (.int 0), (.int 0), (.int 0)] (.int 0) ∧ Exa Z h b "[B" ∧ h0.size ≤ b
theorem rmNF_3 (l : Launch) (Z : State) (az : Array Value) (hw : HW az Z) (ws : List Jvm.Cond) (p0 : Int32)  (h0 : Heap) (n0 : Nat) (Z0 : n0 ≤ h0.size) (h1 : p0 = (3 : Int32)) :
    MF l mN24 (Jvm.Cond.code mN24 jdk_52_method_2_code 1 (some (.array .byte)) :: ws) (rO 1 1 6 12) #[(.int p0)] Z h0 (Q_nf_3 Z h0 n0) := by
  refine MetFree.of_bodySF (plainFor_of_name pn_3) hisR ?_
  intro p e s m args below meth c s₁ Bd hml0 hP hK
  obtain ⟨rfl, hZ, hh⟩ := hP
  have hx := Bd.exec
  have hby := Bd.bytes
  have hlk : meth.locks = false := Bd.notSynchronized
  have hml : c.maxLocals = 1 := hml0
  have hown : s.vm.findClass "java/lang/StringUTF16" = some m.cls := findClass_of_methodNamed Bd.named
  have X0 : Stand p l e (rO 1 1 6 12) s m #[(.int p0)] below meth c s₁ [] 0 0 := Stand.of_body Bd
  have e0 : s₁.heap = h0 := by rw [← hh, Bd.state]; rfl
  have N0 := Fr.nil n0
  show Go p e below s ((Q_nf_3 Z h0 n0)) (rO 1 1 6 12).cells (rO 1 1 6 12).slots (s₁.setTop (entryFrame m #[(.int p0)] 1))
  rw [ef_23 m p0]
  subst h1
  refine Go.st (S' := s₁.setTop (mkF m 1 #[vi 3] [.int 3])) (fun _ kk => XS.iloadN X0.here hx rfl (hb hby d23_0) rfl kk) ?_
  obtain ⟨_, _, ⟨T1, L1, k1, n1⟩, -, X1, ⟨Lc1, hQ1, l1, y1, z1⟩, st1⟩ := Jvm.LawKit.callS X0 hx (y := mN25) hown (mvT hZ (ow hw 102 rfl)) (mvT hZ (ow hw 103 rfl)) (mvT hZ (ow hw 44 rfl)) (mvT hZ (ow hw 104 rfl)) (by decide) (backOf (W := 0) (rmNL l Z az hw [] (3 : Int32) h0 n0 Z0 (by decide) (by decide)) hZ (ow hw 104 rfl) (ow hw 44 rfl) (by decide) (by decide)) (g := (mkF m 1 #[vi 3] [.int 3])) rfl (by rw [hml]; rfl) (argsL := [.int 3]) (rest := []) (lenOf pd_18 rfl) rfl (oW rfl rfl) (hb hby d23_1) (fun _ _ => ⟨rfl, e0, (by decide : 0 + 0 ≤ _), (by decide : 0 + 0 ≤ _)⟩)
  dsimp only [Pt.U, Pt.locs, Pt.cells, Pt.slots] at X1 l1 y1 z1 st1 hQ1
  subst l1 y1 z1
  obtain ⟨hv1, N1q, e1⟩ := hQ1
  subst hv1
  have N1 := Fr.app N0 N1q
  refine Go.st (S' := T1.setTop (mkF m 4 #[vi 3] [.int ((3 : Int32) <<< ((1 : Int32) &&& 31))])) st1 ?_
  rw [show ((3 : Int32) <<< ((1 : Int32) &&& 31)) = (6 : Int32) from by decide]
  obtain ⟨T2, h2, k2, X2, e2, E2, A2, E_b2, st2⟩ := newPE X1 hx hZ (ow hw 20 rfl) e1 (g := (mkF m 4 #[vi 3] [.int 6])) rfl (hb hby d23_4) rfl (by decide) (cap := 6) (by decide) (by decide) (by decide : 0 + 1 ≤ _) (by decide : 0 + 6 ≤ _) (ad := "[B") rfl
  obtain ⟨b2, g2⟩ : ∃ z, z = h0.size := ⟨_, rfl⟩
  rw [← g2] at A2 E_b2 st2
  have g_b2 : n0 ≤ b2 := Nat.le_trans Z0 (Nat.le_of_eq g2.symm)
  have sz_b2 : h0.size ≤ b2 := Nat.le_trans (Keep.refl h0 []).1 (Nat.le_of_eq g2.symm)
  have Zs3 := Nat.le_trans Z0 E2.1
  have Kp4 := (Keep.refl h0 []).ext E2
  have V_b2 : Arv Z h2 b2 k2 .byte (6 : Int32) [(.int 0), (.int 0), (.int 0), (.int 0), (.int 0), (.int 0)] (.int 0) := (Arv.new A2 (by decide)).pad (pad_rep [] (.int 0) 6)
  refine Go.st (S' := T2.setTop (mkF m 6 #[vi 3] [.ref b2])) st2 ?_
  exact Go.retA X2 hx hlk Bd.returns rfl rfl (hb hby d23_6) (by rw [e2]; exact ⟨_, _, rfl, N1, Kp4, V_b2, E_b2, sz_b2⟩) (by decide) (by decide)
def Q_pc_3_0 (Z : State) (a0 : Addr) (k0 : ClassId) (p2 : Int32) (eb1 : Int32) (eb2 : Int32) (eb3 : Int32) (eb4 : Int32) (eb5 : Int32) (eb6 : Int32) (h0 : Heap) (n0 : Nat) (v : Option Value) (h : Heap) (L : List Loc) : Prop := v = none ∧ Fr n0 L ∧ Keep h0 h [a0] ∧ Arv Z h a0 k0 .byte (6 : Int32) [(.int (((p2 >>> ((0 : Int32) &&& 31)).toInt8.toInt32).toInt8.toInt32)), (.int (((p2 >>> ((8 : Int32) &&& 31)).toInt8.toInt32).toInt8.toInt32)), (.int eb3), (.int eb4), (.int eb5), (.int eb6)] (.int 0)
theorem rmPC_3_0 (l : Launch) (Z : State) (az : Array Value) (hw : HW az Z) (ws : List Jvm.Cond) (a0 : Addr) (p1 : Int32) (p2 : Int32) (zc : Int32) (fm : Value) (k0 : ClassId) (eb1 : Int32) (eb2 : Int32) (eb3 : Int32) (eb4 : Int32) (eb5 : Int32) (eb6 : Int32) (h0 : Heap) (n0 : Nat) (Z0 : n0 ≤ h0.size) (S_C : tS0 Z h0 (.int zc)) (hzc : ¬ zc = 0) (S_F : tS1 Z h0 fm) (hfm : fm.isRef = true) (S_A : tS2 Z h0 (.int 1)) (S_H : tS3 Z h0 (.int 0)) (S_L : tS4 Z h0 (.int 8)) (V_a0 : Arv Z h0 a0 k0 .byte (6 : Int32) [(.int eb1), (.int eb2), (.int eb3), (.int eb4), (.int eb5), (.int eb6)] (.int 0)) (E_a0 : Exa Z h0 a0 "[B") (g_a0 : n0 ≤ a0) (h1 : p1 = (0 : Int32)) :
    MF l mN26 (Jvm.Cond.code mN26 jdk_52_method_4_code 3 none :: ws) (rO 0 0 0 0) #[(.ref a0), (.int p1), (.int p2)] Z h0 (Q_pc_3_0 Z a0 k0 p2 eb1 eb2 eb3 eb4 eb5 eb6 h0 n0) := by
  refine MetFree.of_bodySF (plainFor_of_name pn_3) hisR ?_
  intro p e s m args below meth c s₁ Bd hml0 hP hK
  obtain ⟨rfl, hZ, hh⟩ := hP
  have hx := Bd.exec
  have hby := Bd.bytes
  have hlk : meth.locks = false := Bd.notSynchronized
  have hml : c.maxLocals = 3 := hml0
  have hown : s.vm.findClass "java/lang/StringUTF16" = some m.cls := findClass_of_methodNamed Bd.named
  have X0 : Stand p l e (rO 0 0 0 0) s m #[(.ref a0), (.int p1), (.int p2)] below meth c s₁ [] 0 0 := Stand.of_body Bd
  have e0 : s₁.heap = h0 := by rw [← hh, Bd.state]; rfl
  have N0 := Fr.nil n0
  show Go p e below s ((Q_pc_3_0 Z a0 k0 p2 eb1 eb2 eb3 eb4 eb5 eb6 h0 n0)) (rO 0 0 0 0).cells (rO 0 0 0 0).slots (s₁.setTop (entryFrame m #[(.ref a0), (.int p1), (.int p2)] 3))
  rw [ef_25 m a0 p1 p2]
  subst h1
  obtain ⟨T1, X1, e1, st1⟩ := getS2 X0 hx hZ hown (host := "") (Or.inl (ow hw 109 rfl)) Via.refl e0 S_A (g := (mkF m 0 #[vr a0, vi 0, vi p2] [])) rfl (hb hby d25_0)
  refine Go.st (S' := T1.setTop (mkF m 31 #[vr a0, vi 0, vi p2] [.int ((0 : Int32) <<< ((1 : Int32) &&& 31))])) (fun _ kk => st1 _ (XS.ifYes X1.here hx rfl (pc0 := 3) (pc' := 28) rfl (hb hby d25_3) rfl ((if0 _ _).trans (feq (by decide : ¬ ((1 : Int32) = (0 : Int32)))).2) (by decide) (by decide) (XS.iloadN X1.here hx rfl (hb hby d25_28) rfl (XS.iconst X1.here hx rfl (hb hby d25_29) (XS.ishl X1.here hx rfl (hb hby d25_30) rfl kk))))) ?_
  rw [show ((0 : Int32) <<< ((1 : Int32) &&& 31)) = (0 : Int32) from by decide]
  refine Go.st (S' := T1.setTop (mkF m 38 #[vr a0, vi 1, vi p2] [.int p2, .int 0, .ref a0])) (fun _ kk => XS.istoreN X1.here hx rfl (hb hby d25_31) rfl (l' := #[vr a0, vi 0, vi p2]) rfl (XS.aloadN X1.here hx rfl (hb hby d25_32) rfl rfl (XS.iloadN X1.here hx rfl (hb hby d25_33) rfl (XS.iinc X1.here hx rfl (hb hby d25_34) rfl (l' := #[vr a0, vi 1, vi p2]) rfl (XS.iloadN X1.here hx rfl (hb hby d25_37) rfl kk))))) ?_
  obtain ⟨T2, X2, e2, st2⟩ := getS2 X1 hx hZ hown (host := "") (Or.inl (ow hw 110 rfl)) Via.refl e1 S_H (g := (mkF m 38 #[vr a0, vi 1, vi p2] [.int p2, .int 0, .ref a0])) rfl (hb hby d25_38)
  refine Go.st (S' := T2.setTop (mkF m 43 #[vr a0, vi 1, vi p2] [.int ((p2 >>> ((0 : Int32) &&& 31)).toInt8.toInt32), .int 0, .ref a0])) (fun _ kk => st2 _ (XS.ishr X2.here hx rfl (hb hby d25_41) rfl (XS.i2b X2.here hx rfl (hb hby d25_42) rfl kk))) ?_
  obtain ⟨cl3, Ar3, qk3, S3, Ng3, H3, G3⟩ := (id V_a0)
  have hin3 : ¬ ((0 : Int32) < 0 ∨ cl3.slots.size ≤ ((0 : Int32)).toNatClampNeg) := inb_of S3 ⟨by decide, by decide⟩
  obtain ⟨T3, h3, X3, e3, W3, st3⟩ := stB X2 hx hZ e2 Ar3 (j := (0 : Int32)) hin3 (g := (mkF m 43 #[vr a0, vi 1, vi p2] [.int ((p2 >>> ((0 : Int32) &&& 31)).toInt8.toInt32), .int 0, .ref a0])) rfl rfl (hb hby d25_43)
  have V_a0 : Arv Z h3 a0 k0 .byte (6 : Int32) [(.int (((p2 >>> ((0 : Int32) &&& 31)).toInt8.toInt32).toInt8.toInt32)), (.int eb2), (.int eb3), (.int eb4), (.int eb5), (.int eb6)] (.int 0) := Arv.set Ar3 qk3 S3 Ng3 H3 G3 (fits_nar_byte _) W3 0 rfl (Nat.le_of_ble_eq_true rfl)
  have N3 := Fr.snoc X3 N0 g_a0
  have S_C := S_C.wr W3
  have S_F := S_F.wr W3
  have S_A := S_A.wr W3
  have S_H := S_H.wr W3
  have S_L := S_L.wr W3
  have E_a0 := E_a0.wr W3
  have Zs4 := Nat.le_trans Z0 (Keep.of_wr W3).1
  have Kp5 := (Keep.refl h0 [a0]).wr W3 (Or.inl (List.mem_of_getElem? (i := 0) rfl))
  refine Go.st (S' := T3.setTop (mkF m 47 #[vr a0, vi 1, vi p2] [.int p2, .int 1, .ref a0])) (fun _ kk => st3 _ (XS.aloadN X3.here hx rfl (hb hby d25_44) rfl rfl (XS.iloadN X3.here hx rfl (hb hby d25_45) rfl (XS.iloadN X3.here hx rfl (hb hby d25_46) rfl kk)))) ?_
  obtain ⟨T6, X6, e6, st6⟩ := getS2 X3 hx hZ hown (host := "") (Or.inl (ow hw 111 rfl)) Via.refl e3 S_L (g := (mkF m 47 #[vr a0, vi 1, vi p2] [.int p2, .int 1, .ref a0])) rfl (hb hby d25_47)
  refine Go.st (S' := T6.setTop (mkF m 52 #[vr a0, vi 1, vi p2] [.int ((p2 >>> ((8 : Int32) &&& 31)).toInt8.toInt32), .int 1, .ref a0])) (fun _ kk => st6 _ (XS.ishr X6.here hx rfl (hb hby d25_50) rfl (XS.i2b X6.here hx rfl (hb hby d25_51) rfl kk))) ?_
  obtain ⟨cl7, Ar7, qk7, S7, Ng7, H7, G7⟩ := (id V_a0)
  have hin7 : ¬ ((1 : Int32) < 0 ∨ cl7.slots.size ≤ ((1 : Int32)).toNatClampNeg) := inb_of S7 ⟨by decide, by decide⟩
  obtain ⟨T7, h7, X7, e7, W7, st7⟩ := stB X6 hx hZ e6 Ar7 (j := (1 : Int32)) hin7 (g := (mkF m 52 #[vr a0, vi 1, vi p2] [.int ((p2 >>> ((8 : Int32) &&& 31)).toInt8.toInt32), .int 1, .ref a0])) rfl rfl (hb hby d25_52)
  have V_a0 : Arv Z h7 a0 k0 .byte (6 : Int32) [(.int (((p2 >>> ((0 : Int32) &&& 31)).toInt8.toInt32).toInt8.toInt32)), (.int (((p2 >>> ((8 : Int32) &&& 31)).toInt8.toInt32).toInt8.toInt32)), (.int eb3), (.int eb4), (.int eb5), (.int eb6)] (.int 0) := Arv.set Ar7 qk7 S7 Ng7 H7 G7 (fits_nar_byte _) W7 1 rfl (Nat.le_of_ble_eq_true rfl)
  have N7 := Fr.snoc X7 N3 g_a0
  have S_C := S_C.wr W7
  have S_F := S_F.wr W7
  have S_A := S_A.wr W7
  have S_H := S_H.wr W7
  have S_L := S_L.wr W7
  have E_a0 := E_a0.wr W7
  have Zs8 := Nat.le_trans Zs4 (Keep.of_wr W7).1
  have Kp9 := Kp5.wr W7 (Or.inl (List.mem_of_getElem? (i := 0) rfl))
  refine Go.st (S' := T7.setTop (mkF m 53 #[vr a0, vi 1, vi p2] [])) st7 ?_
  exact Go.ret0 X7 hx hlk Bd.returns (hb hby d25_53) (by rw [e7]; exact ⟨rfl, N7, Kp9, V_a0⟩) (by decide) (by decide)
def Q_pc_3_1 (Z : State) (a0 : Addr) (k0 : ClassId) (p2 : Int32) (eb1 : Int32) (eb2 : Int32) (eb3 : Int32) (eb4 : Int32) (eb5 : Int32) (eb6 : Int32) (h0 : Heap) (n0 : Nat) (v : Option Value) (h : Heap) (L : List Loc) : Prop := v = none ∧ Fr n0 L ∧ Keep h0 h [a0] ∧ Arv Z h a0 k0 .byte (6 : Int32) [(.int eb1), (.int eb2), (.int (((p2 >>> ((0 : Int32) &&& 31)).toInt8.toInt32).toInt8.toInt32)), (.int (((p2 >>> ((8 : Int32) &&& 31)).toInt8.toInt32).toInt8.toInt32)), (.int eb5), (.int eb6)] (.int 0)
theorem rmPC_3_1 (l : Launch) (Z : State) (az : Array Value) (hw : HW az Z) (ws : List Jvm.Cond) (a0 : Addr) (p1 : Int32) (p2 : Int32) (zc : Int32) (fm : Value) (k0 : ClassId) (eb1 : Int32) (eb2 : Int32) (eb3 : Int32) (eb4 : Int32) (eb5 : Int32) (eb6 : Int32) (h0 : Heap) (n0 : Nat) (Z0 : n0 ≤ h0.size) (S_C : tS0 Z h0 (.int zc)) (hzc : ¬ zc = 0) (S_F : tS1 Z h0 fm) (hfm : fm.isRef = true) (S_A : tS2 Z h0 (.int 1)) (S_H : tS3 Z h0 (.int 0)) (S_L : tS4 Z h0 (.int 8)) (V_a0 : Arv Z h0 a0 k0 .byte (6 : Int32) [(.int eb1), (.int eb2), (.int eb3), (.int eb4), (.int eb5), (.int eb6)] (.int 0)) (E_a0 : Exa Z h0 a0 "[B") (g_a0 : n0 ≤ a0) (h1 : p1 = (1 : Int32)) :
    MF l mN26 (Jvm.Cond.code mN26 jdk_52_method_4_code 3 none :: ws) (rO 0 0 0 0) #[(.ref a0), (.int p1), (.int p2)] Z h0 (Q_pc_3_1 Z a0 k0 p2 eb1 eb2 eb3 eb4 eb5 eb6 h0 n0) := by
  refine MetFree.of_bodySF (plainFor_of_name pn_3) hisR ?_
  intro p e s m args below meth c s₁ Bd hml0 hP hK
  obtain ⟨rfl, hZ, hh⟩ := hP
  have hx := Bd.exec
  have hby := Bd.bytes
  have hlk : meth.locks = false := Bd.notSynchronized
  have hml : c.maxLocals = 3 := hml0
  have hown : s.vm.findClass "java/lang/StringUTF16" = some m.cls := findClass_of_methodNamed Bd.named
  have X0 : Stand p l e (rO 0 0 0 0) s m #[(.ref a0), (.int p1), (.int p2)] below meth c s₁ [] 0 0 := Stand.of_body Bd
  have e0 : s₁.heap = h0 := by rw [← hh, Bd.state]; rfl
  have N0 := Fr.nil n0
  show Go p e below s ((Q_pc_3_1 Z a0 k0 p2 eb1 eb2 eb3 eb4 eb5 eb6 h0 n0)) (rO 0 0 0 0).cells (rO 0 0 0 0).slots (s₁.setTop (entryFrame m #[(.ref a0), (.int p1), (.int p2)] 3))
  rw [ef_25 m a0 p1 p2]
  subst h1
  obtain ⟨T1, X1, e1, st1⟩ := getS2 X0 hx hZ hown (host := "") (Or.inl (ow hw 109 rfl)) Via.refl e0 S_A (g := (mkF m 0 #[vr a0, vi 1, vi p2] [])) rfl (hb hby d25_0)
  refine Go.st (S' := T1.setTop (mkF m 31 #[vr a0, vi 1, vi p2] [.int ((1 : Int32) <<< ((1 : Int32) &&& 31))])) (fun _ kk => st1 _ (XS.ifYes X1.here hx rfl (pc0 := 3) (pc' := 28) rfl (hb hby d25_3) rfl ((if0 _ _).trans (feq (by decide : ¬ ((1 : Int32) = (0 : Int32)))).2) (by decide) (by decide) (XS.iloadN X1.here hx rfl (hb hby d25_28) rfl (XS.iconst X1.here hx rfl (hb hby d25_29) (XS.ishl X1.here hx rfl (hb hby d25_30) rfl kk))))) ?_
  rw [show ((1 : Int32) <<< ((1 : Int32) &&& 31)) = (2 : Int32) from by decide]
  refine Go.st (S' := T1.setTop (mkF m 38 #[vr a0, vi 3, vi p2] [.int p2, .int 2, .ref a0])) (fun _ kk => XS.istoreN X1.here hx rfl (hb hby d25_31) rfl (l' := #[vr a0, vi 2, vi p2]) rfl (XS.aloadN X1.here hx rfl (hb hby d25_32) rfl rfl (XS.iloadN X1.here hx rfl (hb hby d25_33) rfl (XS.iinc X1.here hx rfl (hb hby d25_34) rfl (l' := #[vr a0, vi 3, vi p2]) rfl (XS.iloadN X1.here hx rfl (hb hby d25_37) rfl kk))))) ?_
  obtain ⟨T2, X2, e2, st2⟩ := getS2 X1 hx hZ hown (host := "") (Or.inl (ow hw 110 rfl)) Via.refl e1 S_H (g := (mkF m 38 #[vr a0, vi 3, vi p2] [.int p2, .int 2, .ref a0])) rfl (hb hby d25_38)
  refine Go.st (S' := T2.setTop (mkF m 43 #[vr a0, vi 3, vi p2] [.int ((p2 >>> ((0 : Int32) &&& 31)).toInt8.toInt32), .int 2, .ref a0])) (fun _ kk => st2 _ (XS.ishr X2.here hx rfl (hb hby d25_41) rfl (XS.i2b X2.here hx rfl (hb hby d25_42) rfl kk))) ?_
  obtain ⟨cl3, Ar3, qk3, S3, Ng3, H3, G3⟩ := (id V_a0)
  have hin3 : ¬ ((2 : Int32) < 0 ∨ cl3.slots.size ≤ ((2 : Int32)).toNatClampNeg) := inb_of S3 ⟨by decide, by decide⟩
  obtain ⟨T3, h3, X3, e3, W3, st3⟩ := stB X2 hx hZ e2 Ar3 (j := (2 : Int32)) hin3 (g := (mkF m 43 #[vr a0, vi 3, vi p2] [.int ((p2 >>> ((0 : Int32) &&& 31)).toInt8.toInt32), .int 2, .ref a0])) rfl rfl (hb hby d25_43)
  have V_a0 : Arv Z h3 a0 k0 .byte (6 : Int32) [(.int eb1), (.int eb2), (.int (((p2 >>> ((0 : Int32) &&& 31)).toInt8.toInt32).toInt8.toInt32)), (.int eb4), (.int eb5), (.int eb6)] (.int 0) := Arv.set Ar3 qk3 S3 Ng3 H3 G3 (fits_nar_byte _) W3 2 rfl (Nat.le_of_ble_eq_true rfl)
  have N3 := Fr.snoc X3 N0 g_a0
  have S_C := S_C.wr W3
  have S_F := S_F.wr W3
  have S_A := S_A.wr W3
  have S_H := S_H.wr W3
  have S_L := S_L.wr W3
  have E_a0 := E_a0.wr W3
  have Zs4 := Nat.le_trans Z0 (Keep.of_wr W3).1
  have Kp5 := (Keep.refl h0 [a0]).wr W3 (Or.inl (List.mem_of_getElem? (i := 0) rfl))
  refine Go.st (S' := T3.setTop (mkF m 47 #[vr a0, vi 3, vi p2] [.int p2, .int 3, .ref a0])) (fun _ kk => st3 _ (XS.aloadN X3.here hx rfl (hb hby d25_44) rfl rfl (XS.iloadN X3.here hx rfl (hb hby d25_45) rfl (XS.iloadN X3.here hx rfl (hb hby d25_46) rfl kk)))) ?_
  obtain ⟨T6, X6, e6, st6⟩ := getS2 X3 hx hZ hown (host := "") (Or.inl (ow hw 111 rfl)) Via.refl e3 S_L (g := (mkF m 47 #[vr a0, vi 3, vi p2] [.int p2, .int 3, .ref a0])) rfl (hb hby d25_47)
  refine Go.st (S' := T6.setTop (mkF m 52 #[vr a0, vi 3, vi p2] [.int ((p2 >>> ((8 : Int32) &&& 31)).toInt8.toInt32), .int 3, .ref a0])) (fun _ kk => st6 _ (XS.ishr X6.here hx rfl (hb hby d25_50) rfl (XS.i2b X6.here hx rfl (hb hby d25_51) rfl kk))) ?_
  obtain ⟨cl7, Ar7, qk7, S7, Ng7, H7, G7⟩ := (id V_a0)
  have hin7 : ¬ ((3 : Int32) < 0 ∨ cl7.slots.size ≤ ((3 : Int32)).toNatClampNeg) := inb_of S7 ⟨by decide, by decide⟩
  obtain ⟨T7, h7, X7, e7, W7, st7⟩ := stB X6 hx hZ e6 Ar7 (j := (3 : Int32)) hin7 (g := (mkF m 52 #[vr a0, vi 3, vi p2] [.int ((p2 >>> ((8 : Int32) &&& 31)).toInt8.toInt32), .int 3, .ref a0])) rfl rfl (hb hby d25_52)
  have V_a0 : Arv Z h7 a0 k0 .byte (6 : Int32) [(.int eb1), (.int eb2), (.int (((p2 >>> ((0 : Int32) &&& 31)).toInt8.toInt32).toInt8.toInt32)), (.int (((p2 >>> ((8 : Int32) &&& 31)).toInt8.toInt32).toInt8.toInt32)), (.int eb5), (.int eb6)] (.int 0) := Arv.set Ar7 qk7 S7 Ng7 H7 G7 (fits_nar_byte _) W7 3 rfl (Nat.le_of_ble_eq_true rfl)
  have N7 := Fr.snoc X7 N3 g_a0
  have S_C := S_C.wr W7
  have S_F := S_F.wr W7
  have S_A := S_A.wr W7
  have S_H := S_H.wr W7
  have S_L := S_L.wr W7
  have E_a0 := E_a0.wr W7
  have Zs8 := Nat.le_trans Zs4 (Keep.of_wr W7).1
  have Kp9 := Kp5.wr W7 (Or.inl (List.mem_of_getElem? (i := 0) rfl))
  refine Go.st (S' := T7.setTop (mkF m 53 #[vr a0, vi 3, vi p2] [])) st7 ?_
  exact Go.ret0 X7 hx hlk Bd.returns (hb hby d25_53) (by rw [e7]; exact ⟨rfl, N7, Kp9, V_a0⟩) (by decide) (by decide)
def Q_pc_3_2 (Z : State) (a0 : Addr) (k0 : ClassId) (p2 : Int32) (eb1 : Int32) (eb2 : Int32) (eb3 : Int32) (eb4 : Int32) (eb5 : Int32) (eb6 : Int32) (h0 : Heap) (n0 : Nat) (v : Option Value) (h : Heap) (L : List Loc) : Prop := v = none ∧ Fr n0 L ∧ Keep h0 h [a0] ∧ Arv Z h a0 k0 .byte (6 : Int32) [(.int eb1), (.int eb2), (.int eb3), (.int eb4), (.int (((p2 >>> ((0 : Int32) &&& 31)).toInt8.toInt32).toInt8.toInt32)), (.int (((p2 >>> ((8 : Int32) &&& 31)).toInt8.toInt32).toInt8.toInt32))] (.int 0)
theorem rmPC_3_2 (l : Launch) (Z : State) (az : Array Value) (hw : HW az Z) (ws : List Jvm.Cond) (a0 : Addr) (p1 : Int32) (p2 : Int32) (zc : Int32) (fm : Value) (k0 : ClassId) (eb1 : Int32) (eb2 : Int32) (eb3 : Int32) (eb4 : Int32) (eb5 : Int32) (eb6 : Int32) (h0 : Heap) (n0 : Nat) (Z0 : n0 ≤ h0.size) (S_C : tS0 Z h0 (.int zc)) (hzc : ¬ zc = 0) (S_F : tS1 Z h0 fm) (hfm : fm.isRef = true) (S_A : tS2 Z h0 (.int 1)) (S_H : tS3 Z h0 (.int 0)) (S_L : tS4 Z h0 (.int 8)) (V_a0 : Arv Z h0 a0 k0 .byte (6 : Int32) [(.int eb1), (.int eb2), (.int eb3), (.int eb4), (.int eb5), (.int eb6)] (.int 0)) (E_a0 : Exa Z h0 a0 "[B") (g_a0 : n0 ≤ a0) (h1 : p1 = (2 : Int32)) :
    MF l mN26 (Jvm.Cond.code mN26 jdk_52_method_4_code 3 none :: ws) (rO 0 0 0 0) #[(.ref a0), (.int p1), (.int p2)] Z h0 (Q_pc_3_2 Z a0 k0 p2 eb1 eb2 eb3 eb4 eb5 eb6 h0 n0) := by
  refine MetFree.of_bodySF (plainFor_of_name pn_3) hisR ?_
  intro p e s m args below meth c s₁ Bd hml0 hP hK
  obtain ⟨rfl, hZ, hh⟩ := hP
  have hx := Bd.exec
  have hby := Bd.bytes
  have hlk : meth.locks = false := Bd.notSynchronized
  have hml : c.maxLocals = 3 := hml0
  have hown : s.vm.findClass "java/lang/StringUTF16" = some m.cls := findClass_of_methodNamed Bd.named
  have X0 : Stand p l e (rO 0 0 0 0) s m #[(.ref a0), (.int p1), (.int p2)] below meth c s₁ [] 0 0 := Stand.of_body Bd
  have e0 : s₁.heap = h0 := by rw [← hh, Bd.state]; rfl
  have N0 := Fr.nil n0
  show Go p e below s ((Q_pc_3_2 Z a0 k0 p2 eb1 eb2 eb3 eb4 eb5 eb6 h0 n0)) (rO 0 0 0 0).cells (rO 0 0 0 0).slots (s₁.setTop (entryFrame m #[(.ref a0), (.int p1), (.int p2)] 3))
  rw [ef_25 m a0 p1 p2]
  subst h1
  obtain ⟨T1, X1, e1, st1⟩ := getS2 X0 hx hZ hown (host := "") (Or.inl (ow hw 109 rfl)) Via.refl e0 S_A (g := (mkF m 0 #[vr a0, vi 2, vi p2] [])) rfl (hb hby d25_0)
  refine Go.st (S' := T1.setTop (mkF m 31 #[vr a0, vi 2, vi p2] [.int ((2 : Int32) <<< ((1 : Int32) &&& 31))])) (fun _ kk => st1 _ (XS.ifYes X1.here hx rfl (pc0 := 3) (pc' := 28) rfl (hb hby d25_3) rfl ((if0 _ _).trans (feq (by decide : ¬ ((1 : Int32) = (0 : Int32)))).2) (by decide) (by decide) (XS.iloadN X1.here hx rfl (hb hby d25_28) rfl (XS.iconst X1.here hx rfl (hb hby d25_29) (XS.ishl X1.here hx rfl (hb hby d25_30) rfl kk))))) ?_
  rw [show ((2 : Int32) <<< ((1 : Int32) &&& 31)) = (4 : Int32) from by decide]
  refine Go.st (S' := T1.setTop (mkF m 38 #[vr a0, vi 5, vi p2] [.int p2, .int 4, .ref a0])) (fun _ kk => XS.istoreN X1.here hx rfl (hb hby d25_31) rfl (l' := #[vr a0, vi 4, vi p2]) rfl (XS.aloadN X1.here hx rfl (hb hby d25_32) rfl rfl (XS.iloadN X1.here hx rfl (hb hby d25_33) rfl (XS.iinc X1.here hx rfl (hb hby d25_34) rfl (l' := #[vr a0, vi 5, vi p2]) rfl (XS.iloadN X1.here hx rfl (hb hby d25_37) rfl kk))))) ?_
  obtain ⟨T2, X2, e2, st2⟩ := getS2 X1 hx hZ hown (host := "") (Or.inl (ow hw 110 rfl)) Via.refl e1 S_H (g := (mkF m 38 #[vr a0, vi 5, vi p2] [.int p2, .int 4, .ref a0])) rfl (hb hby d25_38)
  refine Go.st (S' := T2.setTop (mkF m 43 #[vr a0, vi 5, vi p2] [.int ((p2 >>> ((0 : Int32) &&& 31)).toInt8.toInt32), .int 4, .ref a0])) (fun _ kk => st2 _ (XS.ishr X2.here hx rfl (hb hby d25_41) rfl (XS.i2b X2.here hx rfl (hb hby d25_42) rfl kk))) ?_
  obtain ⟨cl3, Ar3, qk3, S3, Ng3, H3, G3⟩ := (id V_a0)
  have hin3 : ¬ ((4 : Int32) < 0 ∨ cl3.slots.size ≤ ((4 : Int32)).toNatClampNeg) := inb_of S3 ⟨by decide, by decide⟩
  obtain ⟨T3, h3, X3, e3, W3, st3⟩ := stB X2 hx hZ e2 Ar3 (j := (4 : Int32)) hin3 (g := (mkF m 43 #[vr a0, vi 5, vi p2] [.int ((p2 >>> ((0 : Int32) &&& 31)).toInt8.toInt32), .int 4, .ref a0])) rfl rfl (hb hby d25_43)
  have V_a0 : Arv Z h3 a0 k0 .byte (6 : Int32) [(.int eb1), (.int eb2), (.int eb3), (.int eb4), (.int (((p2 >>> ((0 : Int32) &&& 31)).toInt8.toInt32).toInt8.toInt32)), (.int eb6)] (.int 0) := Arv.set Ar3 qk3 S3 Ng3 H3 G3 (fits_nar_byte _) W3 4 rfl (Nat.le_of_ble_eq_true rfl)
  have N3 := Fr.snoc X3 N0 g_a0
  have S_C := S_C.wr W3
  have S_F := S_F.wr W3
  have S_A := S_A.wr W3
  have S_H := S_H.wr W3
  have S_L := S_L.wr W3
  have E_a0 := E_a0.wr W3
  have Zs4 := Nat.le_trans Z0 (Keep.of_wr W3).1
  have Kp5 := (Keep.refl h0 [a0]).wr W3 (Or.inl (List.mem_of_getElem? (i := 0) rfl))
  refine Go.st (S' := T3.setTop (mkF m 47 #[vr a0, vi 5, vi p2] [.int p2, .int 5, .ref a0])) (fun _ kk => st3 _ (XS.aloadN X3.here hx rfl (hb hby d25_44) rfl rfl (XS.iloadN X3.here hx rfl (hb hby d25_45) rfl (XS.iloadN X3.here hx rfl (hb hby d25_46) rfl kk)))) ?_
  obtain ⟨T6, X6, e6, st6⟩ := getS2 X3 hx hZ hown (host := "") (Or.inl (ow hw 111 rfl)) Via.refl e3 S_L (g := (mkF m 47 #[vr a0, vi 5, vi p2] [.int p2, .int 5, .ref a0])) rfl (hb hby d25_47)
  refine Go.st (S' := T6.setTop (mkF m 52 #[vr a0, vi 5, vi p2] [.int ((p2 >>> ((8 : Int32) &&& 31)).toInt8.toInt32), .int 5, .ref a0])) (fun _ kk => st6 _ (XS.ishr X6.here hx rfl (hb hby d25_50) rfl (XS.i2b X6.here hx rfl (hb hby d25_51) rfl kk))) ?_
  obtain ⟨cl7, Ar7, qk7, S7, Ng7, H7, G7⟩ := (id V_a0)
  have hin7 : ¬ ((5 : Int32) < 0 ∨ cl7.slots.size ≤ ((5 : Int32)).toNatClampNeg) := inb_of S7 ⟨by decide, by decide⟩
  obtain ⟨T7, h7, X7, e7, W7, st7⟩ := stB X6 hx hZ e6 Ar7 (j := (5 : Int32)) hin7 (g := (mkF m 52 #[vr a0, vi 5, vi p2] [.int ((p2 >>> ((8 : Int32) &&& 31)).toInt8.toInt32), .int 5, .ref a0])) rfl rfl (hb hby d25_52)
  have V_a0 : Arv Z h7 a0 k0 .byte (6 : Int32) [(.int eb1), (.int eb2), (.int eb3), (.int eb4), (.int (((p2 >>> ((0 : Int32) &&& 31)).toInt8.toInt32).toInt8.toInt32)), (.int (((p2 >>> ((8 : Int32) &&& 31)).toInt8.toInt32).toInt8.toInt32))] (.int 0) := Arv.set Ar7 qk7 S7 Ng7 H7 G7 (fits_nar_byte _) W7 5 rfl (Nat.le_of_ble_eq_true rfl)
  have N7 := Fr.snoc X7 N3 g_a0
  have S_C := S_C.wr W7
  have S_F := S_F.wr W7
  have S_A := S_A.wr W7
  have S_H := S_H.wr W7
  have S_L := S_L.wr W7
  have E_a0 := E_a0.wr W7
  have Zs8 := Nat.le_trans Zs4 (Keep.of_wr W7).1
  have Kp9 := Kp5.wr W7 (Or.inl (List.mem_of_getElem? (i := 0) rfl))
  refine Go.st (S' := T7.setTop (mkF m 53 #[vr a0, vi 5, vi p2] [])) st7 ?_
  exact Go.ret0 X7 hx hlk Bd.returns (hb hby d25_53) (by rw [e7]; exact ⟨rfl, N7, Kp9, V_a0⟩) (by decide) (by decide)
def Q_tb_3 (Z : State) (c1 : Int32) (c2 : Int32) (c3 : Int32) (h0 : Heap) (n0 : Nat) (v : Option Value) (h : Heap) (L : List Loc) : Prop := ∃ (b : Addr) (k : ClassId), v = some (.ref b) ∧ Fr n0 L ∧ Keep h0 h [] ∧ Arv Z h b k .byte (6 : Int32) [(.int (((c1 >>> ((0 : Int32) &&& 31)).toInt8.toInt32).toInt8.toInt32)), (.int (((c1 >>> ((8 : Int32) &&& 31)).toInt8.toInt32).toInt8.toInt32)), (.int (((c2 >>> ((0 : Int32) &&& 31)).toInt8.toInt32).toInt8.toInt32)), (.int (((c2 >>> ((8 : Int32) &&& 31)).toInt8.toInt32).toInt8.toInt32)), (.int (((c3 >>> ((0 : Int32) &&& 31)).toInt8.toInt32).toInt8.toInt32)), (.int (((c3 >>> ((8 : Int32) &&& 31)).toInt8.toInt32).toInt8.toInt32))] (.int 0) ∧ Exa Z h b "[B" ∧ h0.size ≤ b
theorem rmTB_3 (l : Launch) (Z : State) (az : Array Value) (hw : HW az Z) (ws : List Jvm.Cond) (a0 : Addr) (p1 : Int32) (p2 : Int32) (zc : Int32) (fm : Value) (k0 : ClassId) (c1 : Int32) (c2 : Int32) (c3 : Int32) (h0 : Heap) (n0 : Nat) (Z0 : n0 ≤ h0.size) (S_C : tS0 Z h0 (.int zc)) (hzc : ¬ zc = 0) (S_F : tS1 Z h0 fm) (hfm : fm.isRef = true) (S_A : tS2 Z h0 (.int 1)) (S_H : tS3 Z h0 (.int 0)) (S_L : tS4 Z h0 (.int 8)) (V_a0 : Arv Z h0 a0 k0 .char (3 : Int32) [(.int c1), (.int c2), (.int c3)] (.int 0)) (h1 : p1 = 0) (h2 : p2 = (3 : Int32)) :
    MF l mN27 (Jvm.Cond.code mN27 jdk_52_method_14_code 5 (some (.array .byte)) :: ws) (rO 2 1 6 24) #[(.ref a0), (.int p1), (.int p2)] Z h0 (Q_tb_3 Z c1 c2 c3 h0 n0) := by
  refine MetFree.of_bodySF (plainFor_of_name pn_3) hisR ?_
  intro p e s m args below meth c s₁ Bd hml0 hP hK
  obtain ⟨rfl, hZ, hh⟩ := hP
  have hx := Bd.exec
  have hby := Bd.bytes
  have hlk : meth.locks = false := Bd.notSynchronized
  have hml : c.maxLocals = 5 := hml0
  have hown : s.vm.findClass "java/lang/StringUTF16" = some m.cls := findClass_of_methodNamed Bd.named
  have X0 : Stand p l e (rO 2 1 6 24) s m #[(.ref a0), (.int p1), (.int p2)] below meth c s₁ [] 0 0 := Stand.of_body Bd
  have e0 : s₁.heap = h0 := by rw [← hh, Bd.state]; rfl
  have N0 := Fr.nil n0
  show Go p e below s ((Q_tb_3 Z c1 c2 c3 h0 n0)) (rO 2 1 6 24).cells (rO 2 1 6 24).slots (s₁.setTop (entryFrame m #[(.ref a0), (.int p1), (.int p2)] 5))
  rw [ef_22 m a0 p1 p2]
  subst h1 h2
  refine Go.st (S' := s₁.setTop (mkF m 1 #[vr a0, vi 0, vi 3, .unset, .unset] [.int 3])) (fun _ kk => XS.iloadN X0.here hx rfl (hb hby d22_0) rfl kk) ?_
  obtain ⟨_, _, ⟨T1, L1, k1, n1⟩, -, X1, ⟨Lc1, hQ1, l1, y1, z1⟩, st1⟩ := Jvm.LawKit.callS X0 hx (y := mN24) hown (mvT hZ (ow hw 99 rfl)) (mvT hZ (ow hw 100 rfl)) (mvT hZ (ow hw 44 rfl)) (mvT hZ (ow hw 101 rfl)) (by decide) (backOf (W := 0) (rmNF_3 l Z az hw [] (3 : Int32) h0 n0 Z0 rfl) hZ (ow hw 101 rfl) (ow hw 44 rfl) (by decide) (by decide)) (g := (mkF m 1 #[vr a0, vi 0, vi 3, .unset, .unset] [.int 3])) rfl (by rw [hml]; rfl) (argsL := [.int 3]) (rest := []) (lenOf pd_17 rfl) rfl (oW rfl rfl) (hb hby d22_1) (fun _ _ => ⟨rfl, e0, (by decide : 0 + 1 ≤ _), (by decide : 0 + 6 ≤ _)⟩)
  dsimp only [Pt.U, Pt.locs, Pt.cells, Pt.slots] at X1 l1 y1 z1 st1 hQ1
  subst l1 y1 z1
  obtain ⟨b1, kb1, rfl, N1q, K1, V_b1, E_b1, gb1⟩ := hQ1
  have Ex1 := own_extK K1
  have N1 := Fr.app N0 N1q
  have ne_a0_b1 : a0 ≠ b1 := Nat.ne_of_lt (Nat.lt_of_lt_of_le V_a0.lt gb1)
  have g_b1 : n0 ≤ b1 := Nat.le_trans Z0 gb1
  have sz_b1 : h0.size ≤ b1 := Nat.le_trans (Keep.refl h0 []).1 gb1
  have S_C := S_C.ext Ex1
  have S_F := S_F.ext Ex1
  have S_A := S_A.ext Ex1
  have S_H := S_H.ext Ex1
  have S_L := S_L.ext Ex1
  have V_a0 := V_a0.ext Ex1
  have Zs2 := Nat.le_trans Z0 Ex1.1
  have Kp3 := (Keep.refl h0 []).ext Ex1
  refine Go.st (S' := T1.setTop (mkF m 19 #[vr a0, vi 0, vi 3, vr b1, vi 0] [.int 0, .ref a0, .int 0, .ref b1])) (fun _ kk => st1 _ (XS.astoreN X1.here hx rfl (hb hby d22_4) rfl rfl (l' := #[vr a0, vi 0, vi 3, vr b1, .unset]) rfl (XS.iconst X1.here hx rfl (hb hby d22_5) (XS.istore X1.here hx rfl (hb hby d22_6) rfl (l' := #[vr a0, vi 0, vi 3, vr b1, vi 0]) rfl (XS.iload X1.here hx rfl (hb hby d22_8) rfl (XS.iloadN X1.here hx rfl (hb hby d22_10) rfl (XS.icmpNo X1.here hx rfl (hb hby d22_11) rfl (tlt (by decide : (0 : Int32) < (3 : Int32))).2.1 (XS.aloadN X1.here hx rfl (hb hby d22_14) rfl rfl (XS.iload X1.here hx rfl (hb hby d22_15) rfl (XS.aloadN X1.here hx rfl (hb hby d22_17) rfl rfl (XS.iloadN X1.here hx rfl (hb hby d22_18) rfl kk))))))))))) ?_
  obtain ⟨cl4, Ar4, qk4, S4, Ng4, H4, G4⟩ := (id V_a0)
  have hin4 : ¬ ((0 : Int32) < 0 ∨ cl4.slots.size ≤ ((0 : Int32)).toNatClampNeg) := inb_of S4 ⟨by decide, by decide⟩
  have hat4 : cl4.slots[((0 : Int32)).toNatClampNeg]? = some (.int c1) := Has.at H4 hin4 rfl
  refine Go.st (S' := T1.setTop (mkF m 20 #[vr a0, vi 0, vi 3, vr b1, vi 0] [.int c1, .int 0, .ref b1])) (fun _ kk => X1.caload hx (j := (0 : Int32)) (v := (.int c1)) Ar4.1 (State.isArrayOf_alike hZ.alike Ar4.2.1) Ar4.2.2 hin4 hat4 (g := (mkF m 19 #[vr a0, vi 0, vi 3, vr b1, vi 0] [.int 0, .ref a0, .int 0, .ref b1])) rfl rfl (hb hby d22_19) _ kk) ?_
  obtain ⟨_, _, ⟨T5, L5, k5, n5⟩, -, X5, ⟨Lc5, hQ5, l5, y5, z5⟩, st5⟩ := Jvm.LawKit.callS X1 hx (y := mN26) hown (mvT hZ (ow hw 106 rfl)) (mvT hZ (ow hw 107 rfl)) (mvT hZ (ow hw 44 rfl)) (mvT hZ (ow hw 108 rfl)) (by decide) (backOf (W := 0) (rmPC_3_0 l Z az hw [] b1 (0 : Int32) c1 zc fm kb1 (0 : Int32) (0 : Int32) (0 : Int32) (0 : Int32) (0 : Int32) (0 : Int32) T1.heap n0 Zs2 S_C hzc S_F hfm S_A S_H S_L V_b1 E_b1 g_b1 rfl) hZ (ow hw 108 rfl) (ow hw 44 rfl) (by decide) (by decide)) (g := (mkF m 20 #[vr a0, vi 0, vi 3, vr b1, vi 0] [.int c1, .int 0, .ref b1])) rfl (by rw [hml]; rfl) (argsL := [.ref b1, .int 0, .int c1]) (rest := []) (lenOf pd_19 rfl) rfl (oW rfl rfl) (hb hby d22_20) (fun _ _ => ⟨rfl, rfl, (by decide : 1 + 0 ≤ _), (by decide : 6 + 0 ≤ _)⟩)
  dsimp only [Pt.U, Pt.locs, Pt.cells, Pt.slots] at X5 l5 y5 z5 st5 hQ5
  subst l5 y5 z5
  obtain ⟨rfl, N5q, K5, Va5⟩ := hQ5
  have N5 := Fr.app N1 N5q
  have S_C := own_stak K5 (allS (P := fun x => ∀ cell : Cell, (T1.heap)[x]? = some cell → cell.vm.isStatics = false) (Exa.nostat E_b1) all0) S_C
  have S_F := own_stak K5 (allS (P := fun x => ∀ cell : Cell, (T1.heap)[x]? = some cell → cell.vm.isStatics = false) (Exa.nostat E_b1) all0) S_F
  have S_A := own_stak K5 (allS (P := fun x => ∀ cell : Cell, (T1.heap)[x]? = some cell → cell.vm.isStatics = false) (Exa.nostat E_b1) all0) S_A
  have S_H := own_stak K5 (allS (P := fun x => ∀ cell : Cell, (T1.heap)[x]? = some cell → cell.vm.isStatics = false) (Exa.nostat E_b1) all0) S_H
  have S_L := own_stak K5 (allS (P := fun x => ∀ cell : Cell, (T1.heap)[x]? = some cell → cell.vm.isStatics = false) (Exa.nostat E_b1) all0) S_L
  have V_a0 := V_a0.keep K5 (ninS ne_a0_b1 nin0)
  have E_b1 := E_b1.keep K5
  have Zs6 := Nat.le_trans Zs2 K5.1
  have Kp7 := Kp3.trans K5 (allS (Or.inr sz_b1) all0)
  refine Go.st (S' := T5.setTop (mkF m 19 #[vr a0, vi 1, vi 3, vr b1, vi 1] [.int 1, .ref a0, .int 1, .ref b1])) (fun _ kk => st5 _ (XS.iinc X5.here hx rfl (hb hby d22_23) rfl (l' := #[vr a0, vi 1, vi 3, vr b1, vi 0]) rfl (XS.iinc X5.here hx rfl (hb hby d22_26) rfl (l' := #[vr a0, vi 1, vi 3, vr b1, vi 1]) rfl (XS.goto X5.here hx rfl (pc0 := 29) (pc' := 8) rfl (hb hby d22_29) (by decide) (by decide) (XS.iload X5.here hx rfl (hb hby d22_8) rfl (XS.iloadN X5.here hx rfl (hb hby d22_10) rfl (XS.icmpNo X5.here hx rfl (hb hby d22_11) rfl (tlt (by decide : (1 : Int32) < (3 : Int32))).2.1 (XS.aloadN X5.here hx rfl (hb hby d22_14) rfl rfl (XS.iload X5.here hx rfl (hb hby d22_15) rfl (XS.aloadN X5.here hx rfl (hb hby d22_17) rfl rfl (XS.iloadN X5.here hx rfl (hb hby d22_18) rfl kk))))))))))) ?_
  obtain ⟨cl8, Ar8, qk8, S8, Ng8, H8, G8⟩ := (id V_a0)
  have hin8 : ¬ ((1 : Int32) < 0 ∨ cl8.slots.size ≤ ((1 : Int32)).toNatClampNeg) := inb_of S8 ⟨by decide, by decide⟩
  have hat8 : cl8.slots[((1 : Int32)).toNatClampNeg]? = some (.int c2) := Has.at H8 hin8 rfl
  refine Go.st (S' := T5.setTop (mkF m 20 #[vr a0, vi 1, vi 3, vr b1, vi 1] [.int c2, .int 1, .ref b1])) (fun _ kk => X5.caload hx (j := (1 : Int32)) (v := (.int c2)) Ar8.1 (State.isArrayOf_alike hZ.alike Ar8.2.1) Ar8.2.2 hin8 hat8 (g := (mkF m 19 #[vr a0, vi 1, vi 3, vr b1, vi 1] [.int 1, .ref a0, .int 1, .ref b1])) rfl rfl (hb hby d22_19) _ kk) ?_
  obtain ⟨_, _, ⟨T9, L9, k9, n9⟩, -, X9, ⟨Lc9, hQ9, l9, y9, z9⟩, st9⟩ := Jvm.LawKit.callS X5 hx (y := mN26) hown (mvT hZ (ow hw 106 rfl)) (mvT hZ (ow hw 107 rfl)) (mvT hZ (ow hw 44 rfl)) (mvT hZ (ow hw 108 rfl)) (by decide) (backOf (W := 0) (rmPC_3_1 l Z az hw [] b1 (1 : Int32) c2 zc fm kb1 (((c1 >>> ((0 : Int32) &&& 31)).toInt8.toInt32).toInt8.toInt32) (((c1 >>> ((8 : Int32) &&& 31)).toInt8.toInt32).toInt8.toInt32) (0 : Int32) (0 : Int32) (0 : Int32) (0 : Int32) T5.heap n0 Zs6 S_C hzc S_F hfm S_A S_H S_L Va5 E_b1 g_b1 rfl) hZ (ow hw 108 rfl) (ow hw 44 rfl) (by decide) (by decide)) (g := (mkF m 20 #[vr a0, vi 1, vi 3, vr b1, vi 1] [.int c2, .int 1, .ref b1])) rfl (by rw [hml]; rfl) (argsL := [.ref b1, .int 1, .int c2]) (rest := []) (lenOf pd_19 rfl) rfl (oW rfl rfl) (hb hby d22_20) (fun _ _ => ⟨rfl, rfl, (by decide : 1 + 0 ≤ _), (by decide : 6 + 0 ≤ _)⟩)
  dsimp only [Pt.U, Pt.locs, Pt.cells, Pt.slots] at X9 l9 y9 z9 st9 hQ9
  subst l9 y9 z9
  obtain ⟨rfl, N9q, K9, Va9⟩ := hQ9
  have N9 := Fr.app N5 N9q
  have S_C := own_stak K9 (allS (P := fun x => ∀ cell : Cell, (T5.heap)[x]? = some cell → cell.vm.isStatics = false) (Exa.nostat E_b1) all0) S_C
  have S_F := own_stak K9 (allS (P := fun x => ∀ cell : Cell, (T5.heap)[x]? = some cell → cell.vm.isStatics = false) (Exa.nostat E_b1) all0) S_F
  have S_A := own_stak K9 (allS (P := fun x => ∀ cell : Cell, (T5.heap)[x]? = some cell → cell.vm.isStatics = false) (Exa.nostat E_b1) all0) S_A
  have S_H := own_stak K9 (allS (P := fun x => ∀ cell : Cell, (T5.heap)[x]? = some cell → cell.vm.isStatics = false) (Exa.nostat E_b1) all0) S_H
  have S_L := own_stak K9 (allS (P := fun x => ∀ cell : Cell, (T5.heap)[x]? = some cell → cell.vm.isStatics = false) (Exa.nostat E_b1) all0) S_L
  have V_a0 := V_a0.keep K9 (ninS ne_a0_b1 nin0)
  have E_b1 := E_b1.keep K9
  have Zs10 := Nat.le_trans Zs6 K9.1
  have Kp11 := Kp7.trans K9 (allS (Or.inr sz_b1) all0)
  refine Go.st (S' := T9.setTop (mkF m 19 #[vr a0, vi 2, vi 3, vr b1, vi 2] [.int 2, .ref a0, .int 2, .ref b1])) (fun _ kk => st9 _ (XS.iinc X9.here hx rfl (hb hby d22_23) rfl (l' := #[vr a0, vi 2, vi 3, vr b1, vi 1]) rfl (XS.iinc X9.here hx rfl (hb hby d22_26) rfl (l' := #[vr a0, vi 2, vi 3, vr b1, vi 2]) rfl (XS.goto X9.here hx rfl (pc0 := 29) (pc' := 8) rfl (hb hby d22_29) (by decide) (by decide) (XS.iload X9.here hx rfl (hb hby d22_8) rfl (XS.iloadN X9.here hx rfl (hb hby d22_10) rfl (XS.icmpNo X9.here hx rfl (hb hby d22_11) rfl (tlt (by decide : (2 : Int32) < (3 : Int32))).2.1 (XS.aloadN X9.here hx rfl (hb hby d22_14) rfl rfl (XS.iload X9.here hx rfl (hb hby d22_15) rfl (XS.aloadN X9.here hx rfl (hb hby d22_17) rfl rfl (XS.iloadN X9.here hx rfl (hb hby d22_18) rfl kk))))))))))) ?_
  obtain ⟨cl12, Ar12, qk12, S12, Ng12, H12, G12⟩ := (id V_a0)
  have hin12 : ¬ ((2 : Int32) < 0 ∨ cl12.slots.size ≤ ((2 : Int32)).toNatClampNeg) := inb_of S12 ⟨by decide, by decide⟩
  have hat12 : cl12.slots[((2 : Int32)).toNatClampNeg]? = some (.int c3) := Has.at H12 hin12 rfl
  refine Go.st (S' := T9.setTop (mkF m 20 #[vr a0, vi 2, vi 3, vr b1, vi 2] [.int c3, .int 2, .ref b1])) (fun _ kk => X9.caload hx (j := (2 : Int32)) (v := (.int c3)) Ar12.1 (State.isArrayOf_alike hZ.alike Ar12.2.1) Ar12.2.2 hin12 hat12 (g := (mkF m 19 #[vr a0, vi 2, vi 3, vr b1, vi 2] [.int 2, .ref a0, .int 2, .ref b1])) rfl rfl (hb hby d22_19) _ kk) ?_
  obtain ⟨_, _, ⟨T13, L13, k13, n13⟩, -, X13, ⟨Lc13, hQ13, l13, y13, z13⟩, st13⟩ := Jvm.LawKit.callS X9 hx (y := mN26) hown (mvT hZ (ow hw 106 rfl)) (mvT hZ (ow hw 107 rfl)) (mvT hZ (ow hw 44 rfl)) (mvT hZ (ow hw 108 rfl)) (by decide) (backOf (W := 0) (rmPC_3_2 l Z az hw [] b1 (2 : Int32) c3 zc fm kb1 (((c1 >>> ((0 : Int32) &&& 31)).toInt8.toInt32).toInt8.toInt32) (((c1 >>> ((8 : Int32) &&& 31)).toInt8.toInt32).toInt8.toInt32) (((c2 >>> ((0 : Int32) &&& 31)).toInt8.toInt32).toInt8.toInt32) (((c2 >>> ((8 : Int32) &&& 31)).toInt8.toInt32).toInt8.toInt32) (0 : Int32) (0 : Int32) T9.heap n0 Zs10 S_C hzc S_F hfm S_A S_H S_L Va9 E_b1 g_b1 rfl) hZ (ow hw 108 rfl) (ow hw 44 rfl) (by decide) (by decide)) (g := (mkF m 20 #[vr a0, vi 2, vi 3, vr b1, vi 2] [.int c3, .int 2, .ref b1])) rfl (by rw [hml]; rfl) (argsL := [.ref b1, .int 2, .int c3]) (rest := []) (lenOf pd_19 rfl) rfl (oW rfl rfl) (hb hby d22_20) (fun _ _ => ⟨rfl, rfl, (by decide : 1 + 0 ≤ _), (by decide : 6 + 0 ≤ _)⟩)
  dsimp only [Pt.U, Pt.locs, Pt.cells, Pt.slots] at X13 l13 y13 z13 st13 hQ13
  subst l13 y13 z13
  obtain ⟨rfl, N13q, K13, Va13⟩ := hQ13
  have N13 := Fr.app N9 N13q
  have S_C := own_stak K13 (allS (P := fun x => ∀ cell : Cell, (T9.heap)[x]? = some cell → cell.vm.isStatics = false) (Exa.nostat E_b1) all0) S_C
  have S_F := own_stak K13 (allS (P := fun x => ∀ cell : Cell, (T9.heap)[x]? = some cell → cell.vm.isStatics = false) (Exa.nostat E_b1) all0) S_F
  have S_A := own_stak K13 (allS (P := fun x => ∀ cell : Cell, (T9.heap)[x]? = some cell → cell.vm.isStatics = false) (Exa.nostat E_b1) all0) S_A
  have S_H := own_stak K13 (allS (P := fun x => ∀ cell : Cell, (T9.heap)[x]? = some cell → cell.vm.isStatics = false) (Exa.nostat E_b1) all0) S_H
  have S_L := own_stak K13 (allS (P := fun x => ∀ cell : Cell, (T9.heap)[x]? = some cell → cell.vm.isStatics = false) (Exa.nostat E_b1) all0) S_L
  have V_a0 := V_a0.keep K13 (ninS ne_a0_b1 nin0)
  have E_b1 := E_b1.keep K13
  have Zs14 := Nat.le_trans Zs10 K13.1
  have Kp15 := Kp11.trans K13 (allS (Or.inr sz_b1) all0)
  refine Go.st (S' := T13.setTop (mkF m 33 #[vr a0, vi 3, vi 3, vr b1, vi 3] [.ref b1])) (fun _ kk => st13 _ (XS.iinc X13.here hx rfl (hb hby d22_23) rfl (l' := #[vr a0, vi 3, vi 3, vr b1, vi 2]) rfl (XS.iinc X13.here hx rfl (hb hby d22_26) rfl (l' := #[vr a0, vi 3, vi 3, vr b1, vi 3]) rfl (XS.goto X13.here hx rfl (pc0 := 29) (pc' := 8) rfl (hb hby d22_29) (by decide) (by decide) (XS.iload X13.here hx rfl (hb hby d22_8) rfl (XS.iloadN X13.here hx rfl (hb hby d22_10) rfl (XS.icmpYes X13.here hx rfl (pc0 := 11) (pc' := 32) rfl (hb hby d22_11) rfl (flt (by decide : ¬ ((3 : Int32) < (3 : Int32)))).2.1 (by decide) (by decide) (XS.aloadN X13.here hx rfl (hb hby d22_32) rfl rfl kk)))))))) ?_
  exact Go.retA X13 hx hlk Bd.returns rfl rfl (hb hby d22_33) (by exact ⟨_, _, rfl, N13, Kp15, Va13, E_b1, sz_b1⟩) (by decide) (by decide)
def Q_c5_3_0 (Z : State) (a2 : Addr) (k2 : ClassId) (c1 : Int32) (c2 : Int32) (c3 : Int32) (h0 : Heap) (n0 : Nat) (v : Option Value) (h : Heap) (L : List Loc) : Prop := v = some (.int 0) ∧ Fr n0 L ∧ Keep h0 h [a2] ∧ Arv Z h a2 k2 .byte (3 : Int32) [(.int 0), (.int 0), (.int 0)] (.int 0)
theorem rmC5_3_0 (l : Launch) (Z : State) (az : Array Value) (hw : HW az Z) (ws : List Jvm.Cond) (a0 : Addr) (p1 : Int32) (a2 : Addr) (p3 : Int32) (p4 : Int32) (k0 k2 : ClassId) (c1 : Int32) (c2 : Int32) (c3 : Int32) (h0 : Heap) (n0 : Nat) (Z0 : n0 ≤ h0.size) (V_a0 : Arv Z h0 a0 k0 .char (3 : Int32) [(.int c1), (.int c2), (.int c3)] (.int 0)) (V_a2 : Arv Z h0 a2 k2 .byte (3 : Int32) [(.int 0), (.int 0), (.int 0)] (.int 0)) (ne : a0 ≠ a2) (g_a2 : n0 ≤ a2) (h1 : p1 = 0) (h3 : p3 = 0) (h4 : p4 = (3 : Int32))  (u1 : (255 : Int32) < c1) :
    MF l mN21 (Jvm.Cond.code mN21 jdk_52_method_21_code 7 (some .int) :: ws) (rO 0 0 0 0) #[(.ref a0), (.int p1), (.ref a2), (.int p3), (.int p4)] Z h0 (Q_c5_3_0 Z a2 k2 c1 c2 c3 h0 n0) := by
  refine MetFree.of_bodySF (plainFor_of_name pn_3) hisR ?_
  intro p e s m args below meth c s₁ Bd hml0 hP hK
  obtain ⟨rfl, hZ, hh⟩ := hP
  have hx := Bd.exec
  have hby := Bd.bytes
  have hlk : meth.locks = false := Bd.notSynchronized
  have hml : c.maxLocals = 7 := hml0
  have hown : s.vm.findClass "java/lang/StringUTF16" = some m.cls := findClass_of_methodNamed Bd.named
  have X0 : Stand p l e (rO 0 0 0 0) s m #[(.ref a0), (.int p1), (.ref a2), (.int p3), (.int p4)] below meth c s₁ [] 0 0 := Stand.of_body Bd
  have e0 : s₁.heap = h0 := by rw [← hh, Bd.state]; rfl
  have N0 := Fr.nil n0
  show Go p e below s ((Q_c5_3_0 Z a2 k2 c1 c2 c3 h0 n0)) (rO 0 0 0 0).cells (rO 0 0 0 0).slots (s₁.setTop (entryFrame m #[(.ref a0), (.int p1), (.ref a2), (.int p3), (.int p4)] 7))
  rw [ef_9 m a0 p1 a2 p3 p4]
  subst h1 h3 h4
  refine Go.st (S' := s₁.setTop (mkF m 12 #[vr a0, vi 0, vr a2, vi 0, vi 3, vi 0, .unset] [.int 0, .ref a0])) (fun _ kk => XS.iconst X0.here hx rfl (hb hby d9_0) (XS.istore X0.here hx rfl (hb hby d9_1) rfl (l' := #[vr a0, vi 0, vr a2, vi 0, vi 3, vi 0, .unset]) rfl (XS.iload X0.here hx rfl (hb hby d9_3) rfl (XS.iload X0.here hx rfl (hb hby d9_5) rfl (XS.icmpNo X0.here hx rfl (hb hby d9_7) rfl (tlt (by decide : (0 : Int32) < (3 : Int32))).2.1 (XS.aloadN X0.here hx rfl (hb hby d9_10) rfl rfl (XS.iloadN X0.here hx rfl (hb hby d9_11) rfl kk))))))) ?_
  obtain ⟨cl1, Ar1, qk1, S1, Ng1, H1, G1⟩ := (id V_a0)
  have hin1 : ¬ ((0 : Int32) < 0 ∨ cl1.slots.size ≤ ((0 : Int32)).toNatClampNeg) := inb_of S1 ⟨by decide, by decide⟩
  have hat1 : cl1.slots[((0 : Int32)).toNatClampNeg]? = some (.int c1) := Has.at H1 hin1 rfl
  refine Go.st (S' := s₁.setTop (mkF m 25 #[vr a0, vi 0, vr a2, vi 0, vi 3, vi 0, vi c1] [.int 0])) (fun _ kk => X0.caload hx (j := (0 : Int32)) (v := (.int c1)) (by rw [e0]; exact Ar1.1) (State.isArrayOf_alike hZ.alike Ar1.2.1) Ar1.2.2 hin1 hat1 (g := (mkF m 12 #[vr a0, vi 0, vr a2, vi 0, vi 3, vi 0, .unset] [.int 0, .ref a0])) rfl rfl (hb hby d9_12) _ (XS.istore X0.here hx rfl (hb hby d9_13) rfl (l' := #[vr a0, vi 0, vr a2, vi 0, vi 3, vi 0, vi c1]) rfl (XS.iload X0.here hx rfl (hb hby d9_15) rfl (XS.sipush X0.here hx rfl (hb hby d9_17) (XS.icmpNo X0.here hx rfl (hb hby d9_20) rfl (tlt u1).2.2.2 (XS.iload X0.here hx rfl (hb hby d9_23) rfl kk)))))) ?_
  exact Go.retI X0 hx hlk Bd.returns (hb hby d9_25) (by rw [e0]; exact ⟨rfl, N0, (Keep.refl h0 [a2]), V_a2⟩) (by decide) (by decide)
def Q_c3_3_0 (Z : State) (c1 : Int32) (c2 : Int32) (c3 : Int32) (h0 : Heap) (n0 : Nat) (v : Option Value) (h : Heap) (L : List Loc) : Prop := ∃ (b : Addr) (k : ClassId), v = some (.ref b) ∧ Fr n0 L ∧ Keep h0 h [] ∧ Arv Z h b k .byte (6 : Int32) [(.int (((c1 >>> ((0 : Int32) &&& 31)).toInt8.toInt32).toInt8.toInt32)), (.int (((c1 >>> ((8 : Int32) &&& 31)).toInt8.toInt32).toInt8.toInt32)), (.int (((c2 >>> ((0 : Int32) &&& 31)).toInt8.toInt32).toInt8.toInt32)), (.int (((c2 >>> ((8 : Int32) &&& 31)).toInt8.toInt32).toInt8.toInt32)), (.int (((c3 >>> ((0 : Int32) &&& 31)).toInt8.toInt32).toInt8.toInt32)), (.int (((c3 >>> ((8 : Int32) &&& 31)).toInt8.toInt32).toInt8.toInt32))] (.int 0) ∧ Exa Z h b "[B" ∧ h0.size ≤ b
theorem rmC3_3_0 (l : Launch) (Z : State) (az : Array Value) (hw : HW az Z) (ws : List Jvm.Cond) (a0 : Addr) (p1 : Int32) (p2 : Int32) (zc : Int32) (fm : Value) (k0 : ClassId) (c1 : Int32) (c2 : Int32) (c3 : Int32) (h0 : Heap) (n0 : Nat) (Z0 : n0 ≤ h0.size) (S_C : tS0 Z h0 (.int zc)) (hzc : ¬ zc = 0) (S_F : tS1 Z h0 fm) (hfm : fm.isRef = true) (S_A : tS2 Z h0 (.int 1)) (S_H : tS3 Z h0 (.int 0)) (S_L : tS4 Z h0 (.int 8)) (V_a0 : Arv Z h0 a0 k0 .char (3 : Int32) [(.int c1), (.int c2), (.int c3)] (.int 0)) (h1 : p1 = 0) (h2 : p2 = (3 : Int32)) (y1 : 0 ≤ c1.toInt ∧ c1.toInt ≤ 65535) (y2 : 0 ≤ c2.toInt ∧ c2.toInt ≤ 65535) (y3 : 0 ≤ c3.toInt ∧ c3.toInt ≤ 65535)  (u1 : (255 : Int32) < c1) :
    MF l mN20 (Jvm.Cond.code mN20 jdk_52_method_16_code 6 (some (.array .byte)) :: ws) (rO 3 2 9 40) #[(.ref a0), (.int p1), (.int p2)] Z h0 (Q_c3_3_0 Z c1 c2 c3 h0 n0) := by
  refine MetFree.of_bodySF (plainFor_of_name pn_3) hisR ?_
  intro p e s m args below meth c s₁ Bd hml0 hP hK
  obtain ⟨rfl, hZ, hh⟩ := hP
  have hx := Bd.exec
  have hby := Bd.bytes
  have hlk : meth.locks = false := Bd.notSynchronized
  have hml : c.maxLocals = 6 := hml0
  have hown : s.vm.findClass "java/lang/StringUTF16" = some m.cls := findClass_of_methodNamed Bd.named
  have X0 : Stand p l e (rO 3 2 9 40) s m #[(.ref a0), (.int p1), (.int p2)] below meth c s₁ [] 0 0 := Stand.of_body Bd
  have e0 : s₁.heap = h0 := by rw [← hh, Bd.state]; rfl
  have N0 := Fr.nil n0
  show Go p e below s ((Q_c3_3_0 Z c1 c2 c3 h0 n0)) (rO 3 2 9 40).cells (rO 3 2 9 40).slots (s₁.setTop (entryFrame m #[(.ref a0), (.int p1), (.int p2)] 6))
  rw [ef_8 m a0 p1 p2]
  subst h1 h2
  have hix0 : ¬ ((0 : Int32) <<< ((1 : Int32) &&& 31)) < 0 ∧ ((0 : Int32) <<< ((1 : Int32) &&& 31)) < (6 : Int32) := by decide
  have hix1 : ¬ (((0 : Int32) <<< ((1 : Int32) &&& 31)) + (1 : Int32)) < 0 ∧ (((0 : Int32) <<< ((1 : Int32) &&& 31)) + (1 : Int32)) < (6 : Int32) := by decide
  refine Go.st (S' := s₁.setTop (mkF m 1 #[vr a0, vi 0, vi 3, .unset, .unset, .unset] [.int 3])) (fun _ kk => XS.iloadN X0.here hx rfl (hb hby d8_0) rfl kk) ?_
  obtain ⟨T1, h1, k1, X1, e1, E1, A1, E_b1, st1⟩ := newPE X0 hx hZ (ow hw 20 rfl) e0 (g := (mkF m 1 #[vr a0, vi 0, vi 3, .unset, .unset, .unset] [.int 3])) rfl (hb hby d8_1) rfl (by decide) (cap := 3) (by decide) (by decide) (by decide : 0 + 1 ≤ _) (by decide : 0 + 3 ≤ _) (ad := "[B") rfl
  obtain ⟨b1, g1⟩ : ∃ z, z = h0.size := ⟨_, rfl⟩
  rw [← g1] at A1 E_b1 st1
  have ne_a0_b1 : a0 ≠ b1 := Nat.ne_of_lt (Nat.lt_of_lt_of_le V_a0.lt (Nat.le_of_eq g1.symm))
  have g_b1 : n0 ≤ b1 := Nat.le_trans Z0 (Nat.le_of_eq g1.symm)
  have sz_b1 : h0.size ≤ b1 := Nat.le_trans (Keep.refl h0 []).1 (Nat.le_of_eq g1.symm)
  have S_C := S_C.ext E1
  have S_F := S_F.ext E1
  have S_A := S_A.ext E1
  have S_H := S_H.ext E1
  have S_L := S_L.ext E1
  have V_a0 := V_a0.ext E1
  have Zs2 := Nat.le_trans Z0 E1.1
  have Kp3 := (Keep.refl h0 []).ext E1
  have V_b1 : Arv Z h1 b1 k1 .byte (3 : Int32) [(.int 0), (.int 0), (.int 0)] (.int 0) := (Arv.new A1 (by decide)).pad (pad_rep [] (.int 0) 3)
  refine Go.st (S' := T1.setTop (mkF m 9 #[vr a0, vi 0, vi 3, vr b1, .unset, .unset] [.int 3, .int 0, .ref b1, .int 0, .ref a0])) (fun _ kk => st1 _ (XS.astoreN X1.here hx rfl (hb hby d8_3) rfl rfl (l' := #[vr a0, vi 0, vi 3, vr b1, .unset, .unset]) rfl (XS.aloadN X1.here hx rfl (hb hby d8_4) rfl rfl (XS.iloadN X1.here hx rfl (hb hby d8_5) rfl (XS.aloadN X1.here hx rfl (hb hby d8_6) rfl rfl (XS.iconst X1.here hx rfl (hb hby d8_7) (XS.iloadN X1.here hx rfl (hb hby d8_8) rfl kk))))))) ?_
  obtain ⟨_, _, ⟨T4, L4, k4, n4⟩, -, X4, ⟨Lc4, hQ4, l4, y4, z4⟩, st4⟩ := Jvm.LawKit.callS X1 hx (y := mN21) hown (mvT hZ (ow hw 46 rfl)) (mvT hZ (ow hw 47 rfl)) (mvT hZ (ow hw 44 rfl)) (mvT hZ (ow hw 48 rfl)) (by decide) (backOf (W := 0) (rmC5_3_0 l Z az hw [] a0 (0 : Int32) b1 (0 : Int32) (3 : Int32) k0 k1 c1 c2 c3 h1 n0 Zs2 V_a0 V_b1 ne_a0_b1 g_b1 rfl rfl rfl u1) hZ (ow hw 48 rfl) (ow hw 44 rfl) (by decide) (by decide)) (g := (mkF m 9 #[vr a0, vi 0, vi 3, vr b1, .unset, .unset] [.int 3, .int 0, .ref b1, .int 0, .ref a0])) rfl (by rw [hml]; rfl) (argsL := [.ref a0, .int 0, .ref b1, .int 0, .int 3]) (rest := []) (lenOf pd_8 rfl) rfl (oW rfl rfl) (hb hby d8_9) (fun _ _ => ⟨rfl, e1, (by decide : 1 + 0 ≤ _), (by decide : 3 + 0 ≤ _)⟩)
  dsimp only [Pt.U, Pt.locs, Pt.cells, Pt.slots] at X4 l4 y4 z4 st4 hQ4
  subst l4 y4 z4
  obtain ⟨rfl, N4q, K4, Va4⟩ := hQ4
  have N4 := Fr.app N0 N4q
  have S_C := own_stak K4 (allS (P := fun x => ∀ cell : Cell, (h1)[x]? = some cell → cell.vm.isStatics = false) (Exa.nostat E_b1) all0) S_C
  have S_F := own_stak K4 (allS (P := fun x => ∀ cell : Cell, (h1)[x]? = some cell → cell.vm.isStatics = false) (Exa.nostat E_b1) all0) S_F
  have S_A := own_stak K4 (allS (P := fun x => ∀ cell : Cell, (h1)[x]? = some cell → cell.vm.isStatics = false) (Exa.nostat E_b1) all0) S_A
  have S_H := own_stak K4 (allS (P := fun x => ∀ cell : Cell, (h1)[x]? = some cell → cell.vm.isStatics = false) (Exa.nostat E_b1) all0) S_H
  have S_L := own_stak K4 (allS (P := fun x => ∀ cell : Cell, (h1)[x]? = some cell → cell.vm.isStatics = false) (Exa.nostat E_b1) all0) S_L
  have V_a0 := V_a0.keep K4 (ninS ne_a0_b1 nin0)
  have E_b1 := E_b1.keep K4
  have Zs5 := Nat.le_trans Zs2 K4.1
  have Kp6 := Kp3.trans K4 (allS (Or.inr sz_b1) all0)
  refine Go.st (S' := T4.setTop (mkF m 23 #[vr a0, vi 0, vi 3, vr b1, vi 0, .unset] [.int 3, .int 0, .ref a0])) (fun _ kk => st4 _ (XS.istore X4.here hx rfl (hb hby d8_12) rfl (l' := #[vr a0, vi 0, vi 3, vr b1, vi 0, .unset]) rfl (XS.iload X4.here hx rfl (hb hby d8_14) rfl (XS.iloadN X4.here hx rfl (hb hby d8_16) rfl (XS.icmpNo X4.here hx rfl (hb hby d8_17) rfl (feq (by decide : ¬ ((0 : Int32) = (3 : Int32)))).1 (XS.aloadN X4.here hx rfl (hb hby d8_20) rfl rfl (XS.iloadN X4.here hx rfl (hb hby d8_21) rfl (XS.iloadN X4.here hx rfl (hb hby d8_22) rfl kk)))))))) ?_
  obtain ⟨_, _, ⟨T7, L7, k7, n7⟩, -, X7, ⟨Lc7, hQ7, l7, y7, z7⟩, st7⟩ := Jvm.LawKit.callS X4 hx (y := mN27) hown (mvT hZ (ow hw 96 rfl)) (mvT hZ (ow hw 97 rfl)) (mvT hZ (ow hw 44 rfl)) (mvT hZ (ow hw 98 rfl)) (by decide) (backOf (W := 0) (rmTB_3 l Z az hw [] a0 (0 : Int32) (3 : Int32) zc fm k0 c1 c2 c3 T4.heap n0 Zs5 S_C hzc S_F hfm S_A S_H S_L V_a0 rfl rfl) hZ (ow hw 98 rfl) (ow hw 44 rfl) (by decide) (by decide)) (g := (mkF m 23 #[vr a0, vi 0, vi 3, vr b1, vi 0, .unset] [.int 3, .int 0, .ref a0])) rfl (by rw [hml]; rfl) (argsL := [.ref a0, .int 0, .int 3]) (rest := []) (lenOf pd_7 rfl) rfl (oW rfl rfl) (hb hby d8_23) (fun _ _ => ⟨rfl, rfl, (by decide : 1 + 1 ≤ _), (by decide : 3 + 6 ≤ _)⟩)
  dsimp only [Pt.U, Pt.locs, Pt.cells, Pt.slots] at X7 l7 y7 z7 st7 hQ7
  subst l7 y7 z7
  obtain ⟨b7, kb7, rfl, N7q, K7, V_b7, E_b7, gb7⟩ := hQ7
  have Ex7 := own_extK K7
  have N7 := Fr.app N4 N7q
  have ne_a0_b7 : a0 ≠ b7 := Nat.ne_of_lt (Nat.lt_of_lt_of_le V_a0.lt gb7)
  have ne_b1_b7 : b1 ≠ b7 := Nat.ne_of_lt (Nat.lt_of_lt_of_le E_b1.lt gb7)
  have g_b7 : n0 ≤ b7 := Nat.le_trans Zs5 gb7
  have sz_b7 : h0.size ≤ b7 := Nat.le_trans Kp6.1 gb7
  have S_C := S_C.ext Ex7
  have S_F := S_F.ext Ex7
  have S_A := S_A.ext Ex7
  have S_H := S_H.ext Ex7
  have S_L := S_L.ext Ex7
  have V_a0 := V_a0.ext Ex7
  have E_b1 := E_b1.ext Ex7
  have Va4 := Va4.ext Ex7
  have Zs8 := Nat.le_trans Zs5 Ex7.1
  have Kp9 := Kp6.ext Ex7
  refine Go.st (S' := T7.setTop (mkF m 32 #[vr a0, vi 0, vi 3, vr b1, vi 0, vr b7] [.int 0, .ref b7])) (fun _ kk => st7 _ (XS.astore X7.here hx rfl (hb hby d8_26) rfl rfl (l' := #[vr a0, vi 0, vi 3, vr b1, vi 0, vr b7]) rfl (XS.aload X7.here hx rfl (hb hby d8_28) rfl rfl (XS.iload X7.here hx rfl (hb hby d8_30) rfl kk)))) ?_
  obtain ⟨_, _, ⟨T10, L10, k10, n10⟩, -, X10, ⟨Lc10, hQ10, l10, y10, z10⟩, st10⟩ := Jvm.LawKit.callS X7 hx (y := mN22) hown (mvT hZ (ow hw 112 rfl)) (mvT hZ (ow hw 113 rfl)) (mvT hZ (ow hw 44 rfl)) (mvT hZ (ow hw 114 rfl)) (by decide) (backOf (W := 0) (rmUg l Z az hw [] b7 (0 : Int32) zc fm kb7 (6 : Int32) [(((c1 >>> ((0 : Int32) &&& 31)).toInt8.toInt32).toInt8.toInt32), (((c1 >>> ((8 : Int32) &&& 31)).toInt8.toInt32).toInt8.toInt32), (((c2 >>> ((0 : Int32) &&& 31)).toInt8.toInt32).toInt8.toInt32), (((c2 >>> ((8 : Int32) &&& 31)).toInt8.toInt32).toInt8.toInt32), (((c3 >>> ((0 : Int32) &&& 31)).toInt8.toInt32).toInt8.toInt32), (((c3 >>> ((8 : Int32) &&& 31)).toInt8.toInt32).toInt8.toInt32)] T7.heap n0 Zs8 S_C hzc S_F hfm S_A S_H S_L V_b7 hix0 hix1) hZ (ow hw 114 rfl) (ow hw 44 rfl) (by decide) (by decide)) (g := (mkF m 32 #[vr a0, vi 0, vi 3, vr b1, vi 0, vr b7] [.int 0, .ref b7])) rfl (by rw [hml]; rfl) (argsL := [.ref b7, .int 0]) (rest := []) (lenOf pd_14 rfl) rfl (oW rfl rfl) (hb hby d8_32) (fun _ _ => ⟨rfl, rfl, (by decide : 2 + 0 ≤ _), (by decide : 9 + 0 ≤ _)⟩)
  dsimp only [Pt.U, Pt.locs, Pt.cells, Pt.slots] at X10 l10 y10 z10 st10 hQ10
  subst l10 y10 z10
  obtain ⟨hv10, N10q, e10⟩ := hQ10
  subst hv10
  have N10 := Fr.app N7 N10q
  refine Go.st (S' := T10.setTop (mkF m 35 #[vr a0, vi 0, vi 3, vr b1, vi 0, vr b7] [.int (own_g16 (bt [(((c1 >>> ((0 : Int32) &&& 31)).toInt8.toInt32).toInt8.toInt32), (((c1 >>> ((8 : Int32) &&& 31)).toInt8.toInt32).toInt8.toInt32), (((c2 >>> ((0 : Int32) &&& 31)).toInt8.toInt32).toInt8.toInt32), (((c2 >>> ((8 : Int32) &&& 31)).toInt8.toInt32).toInt8.toInt32), (((c3 >>> ((0 : Int32) &&& 31)).toInt8.toInt32).toInt8.toInt32), (((c3 >>> ((8 : Int32) &&& 31)).toInt8.toInt32).toInt8.toInt32)] ((0 : Int32) <<< ((1 : Int32) &&& 31))) (bt [(((c1 >>> ((0 : Int32) &&& 31)).toInt8.toInt32).toInt8.toInt32), (((c1 >>> ((8 : Int32) &&& 31)).toInt8.toInt32).toInt8.toInt32), (((c2 >>> ((0 : Int32) &&& 31)).toInt8.toInt32).toInt8.toInt32), (((c2 >>> ((8 : Int32) &&& 31)).toInt8.toInt32).toInt8.toInt32), (((c3 >>> ((0 : Int32) &&& 31)).toInt8.toInt32).toInt8.toInt32), (((c3 >>> ((8 : Int32) &&& 31)).toInt8.toInt32).toInt8.toInt32)] (((0 : Int32) <<< ((1 : Int32) &&& 31)) + (1 : Int32))))])) st10 ?_
  rw [show (own_g16 (bt [(((c1 >>> ((0 : Int32) &&& 31)).toInt8.toInt32).toInt8.toInt32), (((c1 >>> ((8 : Int32) &&& 31)).toInt8.toInt32).toInt8.toInt32), (((c2 >>> ((0 : Int32) &&& 31)).toInt8.toInt32).toInt8.toInt32), (((c2 >>> ((8 : Int32) &&& 31)).toInt8.toInt32).toInt8.toInt32), (((c3 >>> ((0 : Int32) &&& 31)).toInt8.toInt32).toInt8.toInt32), (((c3 >>> ((8 : Int32) &&& 31)).toInt8.toInt32).toInt8.toInt32)] ((0 : Int32) <<< ((1 : Int32) &&& 31))) (bt [(((c1 >>> ((0 : Int32) &&& 31)).toInt8.toInt32).toInt8.toInt32), (((c1 >>> ((8 : Int32) &&& 31)).toInt8.toInt32).toInt8.toInt32), (((c2 >>> ((0 : Int32) &&& 31)).toInt8.toInt32).toInt8.toInt32), (((c2 >>> ((8 : Int32) &&& 31)).toInt8.toInt32).toInt8.toInt32), (((c3 >>> ((0 : Int32) &&& 31)).toInt8.toInt32).toInt8.toInt32), (((c3 >>> ((8 : Int32) &&& 31)).toInt8.toInt32).toInt8.toInt32)] (((0 : Int32) <<< ((1 : Int32) &&& 31)) + (1 : Int32)))) = c1 from own_rtg y1]
  refine Go.st (S' := T10.setTop (mkF m 56 #[vr a0, vi 0, vi 3, vr b1, vi 0, vr b7] [.ref b7])) (fun _ kk => XS.sipush X10.here hx rfl (hb hby d8_35) (XS.icmpYes X10.here hx rfl (pc0 := 38) (pc' := 54) rfl (hb hby d8_38) rfl (tlt u1).2.2.1 (by decide) (by decide) (XS.aload X10.here hx rfl (hb hby d8_54) rfl rfl kk))) ?_
  exact Go.retA X10 hx hlk Bd.returns rfl rfl (hb hby d8_56) (by rw [e10]; exact ⟨_, _, rfl, N10, Kp9, V_b7, E_b7, sz_b7⟩) (by decide) (by decide)
theorem rmCd_3_1 (l : Launch) (Z : State) (az : Array Value) (hw : HW az Z) (ws : List Jvm.Cond) (a0 : Addr) (p1 : Int32) (k0 : ClassId) (vs : List Value) (h0 : Heap) (n0 : Nat) (Z0 : n0 ≤ h0.size) (V_a0 : Arv Z h0 a0 k0 .byte (6 : Int32) vs (.int 0)) (h1 : p1 = (3 : Int32)) :
    MF l mN19 (Jvm.Cond.code mN19 jdk_52_method_15_code 2 (some .byte) :: ws) (rO 0 0 0 0) #[(.ref a0), (.int p1)] Z h0 (PQ (.int 1) n0 h0) := by
  refine MetFree.of_bodySF (plainFor_of_name pn_3) hisR ?_
  intro p e s m args below meth c s₁ Bd hml0 hP hK
  obtain ⟨rfl, hZ, hh⟩ := hP
  have hx := Bd.exec
  have hby := Bd.bytes
  have hlk : meth.locks = false := Bd.notSynchronized
  have hml : c.maxLocals = 2 := hml0
  have hown : s.vm.findClass "java/lang/StringUTF16" = some m.cls := findClass_of_methodNamed Bd.named
  have X0 : Stand p l e (rO 0 0 0 0) s m #[(.ref a0), (.int p1)] below meth c s₁ [] 0 0 := Stand.of_body Bd
  have e0 : s₁.heap = h0 := by rw [← hh, Bd.state]; rfl
  have N0 := Fr.nil n0
  show Go p e below s ((PQ (.int 1) n0 h0)) (rO 0 0 0 0).cells (rO 0 0 0 0).slots (s₁.setTop (entryFrame m #[(.ref a0), (.int p1)] 2))
  rw [ef_10 m a0 p1]
  subst h1
  refine Go.st (S' := s₁.setTop (mkF m 2 #[vr a0, vi 3] [.ref a0, .int 3])) (fun _ kk => XS.iloadN X0.here hx rfl (hb hby d10_0) rfl (XS.aloadN X0.here hx rfl (hb hby d10_1) rfl rfl kk)) ?_
  obtain ⟨cl1, Ar1, -, S1, Ng1, -, -⟩ := (id V_a0)
  refine Go.st (S' := s₁.setTop (mkF m 3 #[vr a0, vi 3] [.int 6, .int 3])) (fun _ kk => X0.arraylength hx (by rw [e0]; exact Ar1.1) (State.isArrayOf_alike hZ.alike Ar1.2.1) (g := (mkF m 2 #[vr a0, vi 3] [.ref a0, .int 3])) rfl rfl (hb hby d10_2) _ (by rw [len_of S1 Ng1]; exact kk)) ?_
  refine Go.st (S' := s₁.setTop (mkF m 8 #[vr a0, vi 3] [.int ((((-3 : Int32).toUInt32 >>> ((31 : Int32) &&& 31).toUInt32).toInt32).toInt8.toInt32)])) (fun _ kk => XS.isub X0.here hx rfl (hb hby d10_3) rfl (XS.bipush X0.here hx rfl (hb hby d10_4) (XS.iushr X0.here hx rfl (hb hby d10_6) rfl (XS.i2b X0.here hx rfl (hb hby d10_7) rfl kk)))) ?_
  exact Go.retN X0 hx hlk (t := .byte) Bd.returns (by simp) (hb hby d10_8) (⟨rfl, N0, e0⟩) (by decide) (by decide)
def Q_in_3 (Z : State) (a0 : Addr) (c1 : Int32) (c2 : Int32) (c3 : Int32) (h0 : Heap) (n0 : Nat) (v : Option Value) (h : Heap) (L : List Loc) : Prop := v = none ∧ Fr n0 L ∧ Keep h0 h [a0] ∧ CSt Z h a0 [c1, c2, c3]
theorem rmI5_3_0 (l : Launch) (Z : State) (az : Array Value) (hw : HW az Z) (ws : List Jvm.Cond) (a0 : Addr) (a1 : Addr) (p2 : Int32) (p3 : Int32) (zc : Int32) (fm : Value) (k1 : ClassId) (c1 : Int32) (c2 : Int32) (c3 : Int32) (h0 : Heap) (n0 : Nat) (Z0 : n0 ≤ h0.size) (S_C : tS0 Z h0 (.int zc)) (hzc : ¬ zc = 0) (S_F : tS1 Z h0 fm) (hfm : fm.isRef = true) (S_A : tS2 Z h0 (.int 1)) (S_H : tS3 Z h0 (.int 0)) (S_L : tS4 Z h0 (.int 8)) (E_a0 : Exa Z h0 a0 "java/lang/String") (F_coder : tF0 Z h0 a0 (.int 0)) (F_value : tF1 Z h0 a0 .null) (g_a0 : n0 ≤ a0) (ne : a0 ≠ a1) (V_a1 : Arv Z h0 a1 k1 .char (3 : Int32) [(.int c1), (.int c2), (.int c3)] (.int 0)) (h2 : p2 = 0) (h3 : p3 = (3 : Int32)) (y1 : 0 ≤ c1.toInt ∧ c1.toInt ≤ 65535) (y2 : 0 ≤ c2.toInt ∧ c2.toInt ≤ 65535) (y3 : 0 ≤ c3.toInt ∧ c3.toInt ≤ 65535)  (u1 : (255 : Int32) < c1) :
    MF l mN10 (Jvm.Cond.code mN10 jdk_42_method_149_code 6 none :: ws) (rO 4 2 9 57) #[(.ref a0), (.ref a1), (.int p2), (.int p3), .null] Z h0 (Q_in_3 Z a0 c1 c2 c3 h0 n0) := by
  refine MetFree.of_bodySF (plainFor_of_name pn_1) hisR ?_
  intro p e s m args below meth c s₁ Bd hml0 hP hK
  obtain ⟨rfl, hZ, hh⟩ := hP
  have hx := Bd.exec
  have hby := Bd.bytes
  have hlk : meth.locks = false := Bd.notSynchronized
  have hml : c.maxLocals = 6 := hml0
  have hown : s.vm.findClass "java/lang/String" = some m.cls := findClass_of_methodNamed Bd.named
  have hnm := (name_of_methodNamed Bd.named Bd.method).1
  have X0 : Stand p l e (rO 4 2 9 57) s m #[(.ref a0), (.ref a1), (.int p2), (.int p3), .null] below meth c s₁ [] 0 0 := Stand.of_body Bd
  have e0 : s₁.heap = h0 := by rw [← hh, Bd.state]; rfl
  have N0 := Fr.nil n0
  show Go p e below s ((Q_in_3 Z a0 c1 c2 c3 h0 n0)) (rO 4 2 9 57).cells (rO 4 2 9 57).slots (s₁.setTop (entryFrame m #[(.ref a0), (.ref a1), (.int p2), (.int p3), .null] 6))
  rw [ef_3n4 m a0 a1 p2 p3]
  subst h2 h3
  refine Go.st (S' := s₁.setTop (mkF m 1 #[vr a0, vr a1, vi 0, vi 3, .val .null, .unset] [.ref a0])) (fun _ kk => XS.aloadN X0.here hx rfl (hb hby d3_0) rfl rfl kk) ?_
  obtain ⟨T1, X1, e1, st1⟩ := initO X0 hx hZ hown (ow hw 16 rfl) (ow hw 17 rfl) (ow hw 18 rfl) e0 (g := (mkF m 1 #[vr a0, vr a1, vi 0, vi 3, .val .null, .unset] [.ref a0])) rfl (by rw [hml]; rfl) rfl (hb hby d3_1) (by decide) (W := 0) (oW rfl rfl) (by decide)
  refine Go.st (S' := T1.setTop (mkF m 27 #[vr a0, vr a1, vi 0, vi 3, .val .null, .unset] [])) (fun _ kk => st1 _ (XS.iloadN X1.here hx rfl (hb hby d3_4) rfl (XS.ifYes X1.here hx rfl (pc0 := 5) (pc' := 27) rfl (hb hby d3_5) rfl ((if0 _ _).trans (feq (by decide : ¬ ((3 : Int32) = (0 : Int32)))).2) (by decide) (by decide) kk))) ?_
  obtain ⟨T2, X2, e2, st2⟩ := getS2 X1 hx hZ hown (host := "") (Or.inl (ow hw 41 rfl)) Via.refl e1 S_C (g := (mkF m 27 #[vr a0, vr a1, vi 0, vi 3, .val .null, .unset] [])) rfl (hb hby d3_27)
  refine Go.st (S' := T2.setTop (mkF m 36 #[vr a0, vr a1, vi 0, vi 3, .val .null, .unset] [.int 3, .int 0, .ref a1])) (fun _ kk => st2 _ (XS.ifNo X2.here hx rfl (hb hby d3_30) rfl ((if0 _ _).trans (feq hzc).1) (XS.aloadN X2.here hx rfl (hb hby d3_33) rfl rfl (XS.iloadN X2.here hx rfl (hb hby d3_34) rfl (XS.iloadN X2.here hx rfl (hb hby d3_35) rfl kk))))) ?_
  obtain ⟨_, _, ⟨T3, L3, k3, n3⟩, -, X3, ⟨Lc3, hQ3, l3, y3, z3⟩, st3⟩ := Jvm.LawKit.callS X2 hx (y := mN20) hown (mvT hZ (ow hw 42 rfl)) (mvT hZ (ow hw 43 rfl)) (mvT hZ (ow hw 44 rfl)) (mvT hZ (ow hw 45 rfl)) (by decide) (backOf (W := 0) (rmC3_3_0 l Z az hw [] a1 (0 : Int32) (3 : Int32) zc fm k1 c1 c2 c3 h0 n0 Z0 S_C hzc S_F hfm S_A S_H S_L V_a1 rfl rfl y1 y2 y3 u1) hZ (ow hw 45 rfl) (ow hw 44 rfl) (by decide) (by decide)) (g := (mkF m 36 #[vr a0, vr a1, vi 0, vi 3, .val .null, .unset] [.int 3, .int 0, .ref a1])) rfl (by rw [hml]; rfl) (argsL := [.ref a1, .int 0, .int 3]) (rest := []) (lenOf pd_7 rfl) rfl (oW rfl rfl) (hb hby d3_36) (fun _ _ => ⟨rfl, e2, (by decide : 0 + 2 ≤ _), (by decide : 0 + 9 ≤ _)⟩)
  dsimp only [Pt.U, Pt.locs, Pt.cells, Pt.slots] at X3 l3 y3 z3 st3 hQ3
  subst l3 y3 z3
  obtain ⟨b3, kb3, rfl, N3q, K3, V_b3, E_b3, gb3⟩ := hQ3
  have Ex3 := own_extK K3
  have N3 := Fr.app N0 N3q
  have ne_a0_b3 : a0 ≠ b3 := Nat.ne_of_lt (Nat.lt_of_lt_of_le E_a0.lt gb3)
  have ne_a1_b3 : a1 ≠ b3 := Nat.ne_of_lt (Nat.lt_of_lt_of_le V_a1.lt gb3)
  have g_b3 : n0 ≤ b3 := Nat.le_trans Z0 gb3
  have sz_b3 : h0.size ≤ b3 := Nat.le_trans (Keep.refl h0 [a0]).1 gb3
  have S_C := S_C.ext Ex3
  have S_F := S_F.ext Ex3
  have S_A := S_A.ext Ex3
  have S_H := S_H.ext Ex3
  have S_L := S_L.ext Ex3
  have E_a0 := E_a0.ext Ex3
  have F_coder := F_coder.ext Ex3
  have F_value := F_value.ext Ex3
  have V_a1 := V_a1.ext Ex3
  have Zs4 := Nat.le_trans Z0 Ex3.1
  have Kp5 := (Keep.refl h0 [a0]).ext Ex3
  refine Go.st (S' := T3.setTop (mkF m 45 #[vr a0, vr a1, vi 0, vi 3, .val .null, vr b3] [.int 3, .ref b3, .ref a0])) (fun _ kk => st3 _ (XS.astore X3.here hx rfl (hb hby d3_39) rfl rfl (l' := #[vr a0, vr a1, vi 0, vi 3, .val .null, vr b3]) rfl (XS.aloadN X3.here hx rfl (hb hby d3_41) rfl rfl (XS.aload X3.here hx rfl (hb hby d3_42) rfl rfl (XS.iloadN X3.here hx rfl (hb hby d3_44) rfl kk))))) ?_
  obtain ⟨_, _, ⟨T6, L6, k6, n6⟩, -, X6, ⟨Lc6, hQ6, l6, y6, z6⟩, st6⟩ := Jvm.LawKit.callS X3 hx (y := mN19) hown (mvT hZ (ow hw 49 rfl)) (mvT hZ (ow hw 50 rfl)) (mvT hZ (ow hw 44 rfl)) (mvT hZ (ow hw 51 rfl)) (by decide) (backOf (W := 1) (rmCd_3_1 l Z az hw [] b3 (3 : Int32) kb3 _ T3.heap n0 Zs4 V_b3 rfl) hZ (ow hw 51 rfl) (ow hw 44 rfl) (by decide) (by decide)) (g := (mkF m 45 #[vr a0, vr a1, vi 0, vi 3, .val .null, vr b3] [.int 3, .ref b3, .ref a0])) rfl (by rw [hml]; rfl) (argsL := [.ref b3, .int 3]) (rest := [.ref a0]) (lenOf pd_9 rfl) rfl (oW rfl rfl) (hb hby d3_45) (fun _ _ => ⟨rfl, rfl, (by decide : 2 + 0 ≤ _), (by decide : 9 + 0 ≤ _)⟩)
  dsimp only [Pt.U, Pt.locs, Pt.cells, Pt.slots] at X6 l6 y6 z6 st6 hQ6
  subst l6 y6 z6
  obtain ⟨hv6, N6q, e6⟩ := hQ6
  subst hv6
  have N6 := Fr.app N3 N6q
  refine Go.st (S' := T6.setTop (mkF m 48 #[vr a0, vr a1, vi 0, vi 3, .val .null, vr b3] [.int 1, .ref a0])) st6 ?_
  obtain ⟨T7, h7, X7, e7, W7, st7⟩ := putFN X6 hx hZ hown (ow hw 26 rfl) Via.refl e6 F_coder E_a0 (Or.inr ⟨(ow hw 22 rfl), rfl, hnm⟩) (ow hw 7 rfl) (ty := .byte) (v' := .int (nar .byte (1 : Int32))) (by decide) rfl (fits_nar_byte _) (g := (mkF m 48 #[vr a0, vr a1, vi 0, vi 3, .val .null, vr b3] [.int 1, .ref a0])) rfl rfl (hb hby d3_48)
  have N7 := Fr.snoc X7 N6 g_a0
  have F_coder := F_coder.same W7
  have S_C := S_C.wr W7
  have S_F := S_F.wr W7
  have S_A := S_A.wr W7
  have S_H := S_H.wr W7
  have S_L := S_L.wr W7
  have E_a0 := E_a0.wr W7
  have F_value := F_value.other W7 (Or.inr (slot_ne (Or.inr (ow hw 21 rfl)) (Or.inr (ow hw 22 rfl)) (by decide) (t := (.array .byte)) (t' := .byte) (by decide) (by decide)))
  have V_a1 := V_a1.other W7 (Ne.symm ne)
  have E_b3 := E_b3.wr W7
  have V_b3 := V_b3.other W7 (Ne.symm ne_a0_b3)
  have Zs8 := Nat.le_trans Zs4 (Keep.of_wr W7).1
  have Kp9 := Kp5.wr W7 (Or.inl (List.mem_of_getElem? (i := 0) rfl))
  refine Go.st (S' := T7.setTop (mkF m 54 #[vr a0, vr a1, vi 0, vi 3, .val .null, vr b3] [.ref b3, .ref a0])) (fun _ kk => st7 _ (XS.aloadN X7.here hx rfl (hb hby d3_51) rfl rfl (XS.aload X7.here hx rfl (hb hby d3_52) rfl rfl kk))) ?_
  obtain ⟨T10, h10, X10, e10, W10, st10⟩ := putF X7 hx hZ hown (host := "") (Or.inl (ow hw 25 rfl)) Via.refl e7 F_value E_a0 (Or.inr ⟨(ow hw 21 rfl), rfl, hnm⟩) (ow hw 7 rfl) (ty := (.array .byte)) (by decide) rfl rfl (g := (mkF m 54 #[vr a0, vr a1, vi 0, vi 3, .val .null, vr b3] [.ref b3, .ref a0])) rfl rfl (hb hby d3_54)
  have N10 := Fr.snoc X10 N7 g_a0
  have F_value := F_value.same W10
  have S_C := S_C.wr W10
  have S_F := S_F.wr W10
  have S_A := S_A.wr W10
  have S_H := S_H.wr W10
  have S_L := S_L.wr W10
  have E_a0 := E_a0.wr W10
  have F_coder := F_coder.other W10 (Or.inr (slot_ne (Or.inr (ow hw 22 rfl)) (Or.inr (ow hw 21 rfl)) (by decide) (t := .byte) (t' := (.array .byte)) (by decide) (by decide)))
  have V_a1 := V_a1.other W10 (Ne.symm ne)
  have E_b3 := E_b3.wr W10
  have V_b3 := V_b3.other W10 (Ne.symm ne_a0_b3)
  have Zs11 := Nat.le_trans Zs8 (Keep.of_wr W10).1
  have Kp12 := Kp9.wr W10 (Or.inl (List.mem_of_getElem? (i := 0) rfl))
  refine Go.st (S' := T10.setTop (mkF m 57 #[vr a0, vr a1, vi 0, vi 3, .val .null, vr b3] [])) st10 ?_
  exact Go.ret0 X10 hx hlk Bd.returns (hb hby d3_57) (by rw [e10]; exact ⟨rfl, N10, Kp12, E_a0, _, _, _, _, (own_u16 [c1, c2, c3]), F_coder, F_value, V_b3, Or.inr ⟨rfl, rfl, rfl, (List.forall_mem_cons.mpr ⟨y1, (List.forall_mem_cons.mpr ⟨y2, (List.forall_mem_cons.mpr ⟨y3, (fun _ hx => nomatch hx)⟩)⟩)⟩)⟩⟩) (by decide) (by decide)
def Q_c5_3_1 (Z : State) (a2 : Addr) (k2 : ClassId) (c1 : Int32) (c2 : Int32) (c3 : Int32) (h0 : Heap) (n0 : Nat) (v : Option Value) (h : Heap) (L : List Loc) : Prop := v = some (.int 1) ∧ Fr n0 L ∧ Keep h0 h [a2] ∧ Arv Z h a2 k2 .byte (3 : Int32) [(.int ((c1.toInt8.toInt32).toInt8.toInt32)), (.int 0), (.int 0)] (.int 0)
theorem rmC5_3_1 (l : Launch) (Z : State) (az : Array Value) (hw : HW az Z) (ws : List Jvm.Cond) (a0 : Addr) (p1 : Int32) (a2 : Addr) (p3 : Int32) (p4 : Int32) (k0 k2 : ClassId) (c1 : Int32) (c2 : Int32) (c3 : Int32) (h0 : Heap) (n0 : Nat) (Z0 : n0 ≤ h0.size) (V_a0 : Arv Z h0 a0 k0 .char (3 : Int32) [(.int c1), (.int c2), (.int c3)] (.int 0)) (V_a2 : Arv Z h0 a2 k2 .byte (3 : Int32) [(.int 0), (.int 0), (.int 0)] (.int 0)) (ne : a0 ≠ a2) (g_a2 : n0 ≤ a2) (h1 : p1 = 0) (h3 : p3 = 0) (h4 : p4 = (3 : Int32)) (u1 : ¬ (255 : Int32) < c1) (u2 : (255 : Int32) < c2) :
    MF l mN21 (Jvm.Cond.code mN21 jdk_52_method_21_code 7 (some .int) :: ws) (rO 0 0 0 0) #[(.ref a0), (.int p1), (.ref a2), (.int p3), (.int p4)] Z h0 (Q_c5_3_1 Z a2 k2 c1 c2 c3 h0 n0) := by
  refine MetFree.of_bodySF (plainFor_of_name pn_3) hisR ?_
  intro p e s m args below meth c s₁ Bd hml0 hP hK
  obtain ⟨rfl, hZ, hh⟩ := hP
  have hx := Bd.exec
  have hby := Bd.bytes
  have hlk : meth.locks = false := Bd.notSynchronized
  have hml : c.maxLocals = 7 := hml0
  have hown : s.vm.findClass "java/lang/StringUTF16" = some m.cls := findClass_of_methodNamed Bd.named
  have X0 : Stand p l e (rO 0 0 0 0) s m #[(.ref a0), (.int p1), (.ref a2), (.int p3), (.int p4)] below meth c s₁ [] 0 0 := Stand.of_body Bd
  have e0 : s₁.heap = h0 := by rw [← hh, Bd.state]; rfl
  have N0 := Fr.nil n0
  show Go p e below s ((Q_c5_3_1 Z a2 k2 c1 c2 c3 h0 n0)) (rO 0 0 0 0).cells (rO 0 0 0 0).slots (s₁.setTop (entryFrame m #[(.ref a0), (.int p1), (.ref a2), (.int p3), (.int p4)] 7))
  rw [ef_9 m a0 p1 a2 p3 p4]
  subst h1 h3 h4
  refine Go.st (S' := s₁.setTop (mkF m 12 #[vr a0, vi 0, vr a2, vi 0, vi 3, vi 0, .unset] [.int 0, .ref a0])) (fun _ kk => XS.iconst X0.here hx rfl (hb hby d9_0) (XS.istore X0.here hx rfl (hb hby d9_1) rfl (l' := #[vr a0, vi 0, vr a2, vi 0, vi 3, vi 0, .unset]) rfl (XS.iload X0.here hx rfl (hb hby d9_3) rfl (XS.iload X0.here hx rfl (hb hby d9_5) rfl (XS.icmpNo X0.here hx rfl (hb hby d9_7) rfl (tlt (by decide : (0 : Int32) < (3 : Int32))).2.1 (XS.aloadN X0.here hx rfl (hb hby d9_10) rfl rfl (XS.iloadN X0.here hx rfl (hb hby d9_11) rfl kk))))))) ?_
  obtain ⟨cl1, Ar1, qk1, S1, Ng1, H1, G1⟩ := (id V_a0)
  have hin1 : ¬ ((0 : Int32) < 0 ∨ cl1.slots.size ≤ ((0 : Int32)).toNatClampNeg) := inb_of S1 ⟨by decide, by decide⟩
  have hat1 : cl1.slots[((0 : Int32)).toNatClampNeg]? = some (.int c1) := Has.at H1 hin1 rfl
  refine Go.st (S' := s₁.setTop (mkF m 31 #[vr a0, vi 0, vr a2, vi 0, vi 3, vi 0, vi c1] [.int (c1.toInt8.toInt32), .int 0, .ref a2])) (fun _ kk => X0.caload hx (j := (0 : Int32)) (v := (.int c1)) (by rw [e0]; exact Ar1.1) (State.isArrayOf_alike hZ.alike Ar1.2.1) Ar1.2.2 hin1 hat1 (g := (mkF m 12 #[vr a0, vi 0, vr a2, vi 0, vi 3, vi 0, .unset] [.int 0, .ref a0])) rfl rfl (hb hby d9_12) _ (XS.istore X0.here hx rfl (hb hby d9_13) rfl (l' := #[vr a0, vi 0, vr a2, vi 0, vi 3, vi 0, vi c1]) rfl (XS.iload X0.here hx rfl (hb hby d9_15) rfl (XS.sipush X0.here hx rfl (hb hby d9_17) (XS.icmpYes X0.here hx rfl (pc0 := 20) (pc' := 26) rfl (hb hby d9_20) rfl (flt u1).2.2.2 (by decide) (by decide) (XS.aloadN X0.here hx rfl (hb hby d9_26) rfl rfl (XS.iloadN X0.here hx rfl (hb hby d9_27) rfl (XS.iload X0.here hx rfl (hb hby d9_28) rfl (XS.i2b X0.here hx rfl (hb hby d9_30) rfl kk))))))))) ?_
  obtain ⟨cl2, Ar2, qk2, S2, Ng2, H2, G2⟩ := (id V_a2)
  have hin2 : ¬ ((0 : Int32) < 0 ∨ cl2.slots.size ≤ ((0 : Int32)).toNatClampNeg) := inb_of S2 ⟨by decide, by decide⟩
  obtain ⟨T2, h2, X2, e2, W2, st2⟩ := stB X0 hx hZ e0 Ar2 (j := (0 : Int32)) hin2 (g := (mkF m 31 #[vr a0, vi 0, vr a2, vi 0, vi 3, vi 0, vi c1] [.int (c1.toInt8.toInt32), .int 0, .ref a2])) rfl rfl (hb hby d9_31)
  have V_a2 : Arv Z h2 a2 k2 .byte (3 : Int32) [(.int ((c1.toInt8.toInt32).toInt8.toInt32)), (.int 0), (.int 0)] (.int 0) := Arv.set Ar2 qk2 S2 Ng2 H2 G2 (fits_nar_byte _) W2 0 rfl (Nat.le_of_ble_eq_true rfl)
  have N2 := Fr.snoc X2 N0 g_a2
  have V_a0 := V_a0.other W2 ne
  have Zs3 := Nat.le_trans Z0 (Keep.of_wr W2).1
  have Kp4 := (Keep.refl h0 [a2]).wr W2 (Or.inl (List.mem_of_getElem? (i := 0) rfl))
  refine Go.st (S' := T2.setTop (mkF m 12 #[vr a0, vi 1, vr a2, vi 1, vi 3, vi 1, vi c1] [.int 1, .ref a0])) (fun _ kk => st2 _ (XS.iinc X2.here hx rfl (hb hby d9_32) rfl (l' := #[vr a0, vi 1, vr a2, vi 0, vi 3, vi 0, vi c1]) rfl (XS.iinc X2.here hx rfl (hb hby d9_35) rfl (l' := #[vr a0, vi 1, vr a2, vi 1, vi 3, vi 0, vi c1]) rfl (XS.iinc X2.here hx rfl (hb hby d9_38) rfl (l' := #[vr a0, vi 1, vr a2, vi 1, vi 3, vi 1, vi c1]) rfl (XS.goto X2.here hx rfl (pc0 := 41) (pc' := 3) rfl (hb hby d9_41) (by decide) (by decide) (XS.iload X2.here hx rfl (hb hby d9_3) rfl (XS.iload X2.here hx rfl (hb hby d9_5) rfl (XS.icmpNo X2.here hx rfl (hb hby d9_7) rfl (tlt (by decide : (1 : Int32) < (3 : Int32))).2.1 (XS.aloadN X2.here hx rfl (hb hby d9_10) rfl rfl (XS.iloadN X2.here hx rfl (hb hby d9_11) rfl kk)))))))))) ?_
  obtain ⟨cl5, Ar5, qk5, S5, Ng5, H5, G5⟩ := (id V_a0)
  have hin5 : ¬ ((1 : Int32) < 0 ∨ cl5.slots.size ≤ ((1 : Int32)).toNatClampNeg) := inb_of S5 ⟨by decide, by decide⟩
  have hat5 : cl5.slots[((1 : Int32)).toNatClampNeg]? = some (.int c2) := Has.at H5 hin5 rfl
  refine Go.st (S' := T2.setTop (mkF m 25 #[vr a0, vi 1, vr a2, vi 1, vi 3, vi 1, vi c2] [.int 1])) (fun _ kk => X2.caload hx (j := (1 : Int32)) (v := (.int c2)) (by rw [e2]; exact Ar5.1) (State.isArrayOf_alike hZ.alike Ar5.2.1) Ar5.2.2 hin5 hat5 (g := (mkF m 12 #[vr a0, vi 1, vr a2, vi 1, vi 3, vi 1, vi c1] [.int 1, .ref a0])) rfl rfl (hb hby d9_12) _ (XS.istore X2.here hx rfl (hb hby d9_13) rfl (l' := #[vr a0, vi 1, vr a2, vi 1, vi 3, vi 1, vi c2]) rfl (XS.iload X2.here hx rfl (hb hby d9_15) rfl (XS.sipush X2.here hx rfl (hb hby d9_17) (XS.icmpNo X2.here hx rfl (hb hby d9_20) rfl (tlt u2).2.2.2 (XS.iload X2.here hx rfl (hb hby d9_23) rfl kk)))))) ?_
  exact Go.retI X2 hx hlk Bd.returns (hb hby d9_25) (by rw [e2]; exact ⟨rfl, N2, Kp4, V_a2⟩) (by decide) (by decide)
def Q_c3_3_1 (Z : State) (c1 : Int32) (c2 : Int32) (c3 : Int32) (h0 : Heap) (n0 : Nat) (v : Option Value) (h : Heap) (L : List Loc) : Prop := ∃ (b : Addr) (k : ClassId), v = some (.ref b) ∧ Fr n0 L ∧ Keep h0 h [] ∧ Arv Z h b k .byte (6 : Int32) [(.int (((c1 >>> ((0 : Int32) &&& 31)).toInt8.toInt32).toInt8.toInt32)), (.int (((c1 >>> ((8 : Int32) &&& 31)).toInt8.toInt32).toInt8.toInt32)), (.int (((c2 >>> ((0 : Int32) &&& 31)).toInt8.toInt32).toInt8.toInt32)), (.int (((c2 >>> ((8 : Int32) &&& 31)).toInt8.toInt32).toInt8.toInt32)), (.int (((c3 >>> ((0 : Int32) &&& 31)).toInt8.toInt32).toInt8.toInt32)), (.int (((c3 >>> ((8 : Int32) &&& 31)).toInt8.toInt32).toInt8.toInt32))] (.int 0) ∧ Exa Z h b "[B" ∧ h0.size ≤ b
theorem rmC3_3_1 (l : Launch) (Z : State) (az : Array Value) (hw : HW az Z) (ws : List Jvm.Cond) (a0 : Addr) (p1 : Int32) (p2 : Int32) (zc : Int32) (fm : Value) (k0 : ClassId) (c1 : Int32) (c2 : Int32) (c3 : Int32) (h0 : Heap) (n0 : Nat) (Z0 : n0 ≤ h0.size) (S_C : tS0 Z h0 (.int zc)) (hzc : ¬ zc = 0) (S_F : tS1 Z h0 fm) (hfm : fm.isRef = true) (S_A : tS2 Z h0 (.int 1)) (S_H : tS3 Z h0 (.int 0)) (S_L : tS4 Z h0 (.int 8)) (V_a0 : Arv Z h0 a0 k0 .char (3 : Int32) [(.int c1), (.int c2), (.int c3)] (.int 0)) (h1 : p1 = 0) (h2 : p2 = (3 : Int32)) (y1 : 0 ≤ c1.toInt ∧ c1.toInt ≤ 65535) (y2 : 0 ≤ c2.toInt ∧ c2.toInt ≤ 65535) (y3 : 0 ≤ c3.toInt ∧ c3.toInt ≤ 65535) (u1 : ¬ (255 : Int32) < c1) (u2 : (255 : Int32) < c2) :
    MF l mN20 (Jvm.Cond.code mN20 jdk_52_method_16_code 6 (some (.array .byte)) :: ws) (rO 3 2 9 40) #[(.ref a0), (.int p1), (.int p2)] Z h0 (Q_c3_3_1 Z c1 c2 c3 h0 n0) := by
  refine MetFree.of_bodySF (plainFor_of_name pn_3) hisR ?_
  intro p e s m args below meth c s₁ Bd hml0 hP hK
  obtain ⟨rfl, hZ, hh⟩ := hP
  have hx := Bd.exec
  have hby := Bd.bytes
  have hlk : meth.locks = false := Bd.notSynchronized
  have hml : c.maxLocals = 6 := hml0
  have hown : s.vm.findClass "java/lang/StringUTF16" = some m.cls := findClass_of_methodNamed Bd.named
  have X0 : Stand p l e (rO 3 2 9 40) s m #[(.ref a0), (.int p1), (.int p2)] below meth c s₁ [] 0 0 := Stand.of_body Bd
  have e0 : s₁.heap = h0 := by rw [← hh, Bd.state]; rfl
  have N0 := Fr.nil n0
  show Go p e below s ((Q_c3_3_1 Z c1 c2 c3 h0 n0)) (rO 3 2 9 40).cells (rO 3 2 9 40).slots (s₁.setTop (entryFrame m #[(.ref a0), (.int p1), (.int p2)] 6))
  rw [ef_8 m a0 p1 p2]
  subst h1 h2
  have hix0 : ¬ ((1 : Int32) <<< ((1 : Int32) &&& 31)) < 0 ∧ ((1 : Int32) <<< ((1 : Int32) &&& 31)) < (6 : Int32) := by decide
  have hix1 : ¬ (((1 : Int32) <<< ((1 : Int32) &&& 31)) + (1 : Int32)) < 0 ∧ (((1 : Int32) <<< ((1 : Int32) &&& 31)) + (1 : Int32)) < (6 : Int32) := by decide
  refine Go.st (S' := s₁.setTop (mkF m 1 #[vr a0, vi 0, vi 3, .unset, .unset, .unset] [.int 3])) (fun _ kk => XS.iloadN X0.here hx rfl (hb hby d8_0) rfl kk) ?_
  obtain ⟨T1, h1, k1, X1, e1, E1, A1, E_b1, st1⟩ := newPE X0 hx hZ (ow hw 20 rfl) e0 (g := (mkF m 1 #[vr a0, vi 0, vi 3, .unset, .unset, .unset] [.int 3])) rfl (hb hby d8_1) rfl (by decide) (cap := 3) (by decide) (by decide) (by decide : 0 + 1 ≤ _) (by decide : 0 + 3 ≤ _) (ad := "[B") rfl
  obtain ⟨b1, g1⟩ : ∃ z, z = h0.size := ⟨_, rfl⟩
  rw [← g1] at A1 E_b1 st1
  have ne_a0_b1 : a0 ≠ b1 := Nat.ne_of_lt (Nat.lt_of_lt_of_le V_a0.lt (Nat.le_of_eq g1.symm))
  have g_b1 : n0 ≤ b1 := Nat.le_trans Z0 (Nat.le_of_eq g1.symm)
  have sz_b1 : h0.size ≤ b1 := Nat.le_trans (Keep.refl h0 []).1 (Nat.le_of_eq g1.symm)
  have S_C := S_C.ext E1
  have S_F := S_F.ext E1
  have S_A := S_A.ext E1
  have S_H := S_H.ext E1
  have S_L := S_L.ext E1
  have V_a0 := V_a0.ext E1
  have Zs2 := Nat.le_trans Z0 E1.1
  have Kp3 := (Keep.refl h0 []).ext E1
  have V_b1 : Arv Z h1 b1 k1 .byte (3 : Int32) [(.int 0), (.int 0), (.int 0)] (.int 0) := (Arv.new A1 (by decide)).pad (pad_rep [] (.int 0) 3)
  refine Go.st (S' := T1.setTop (mkF m 9 #[vr a0, vi 0, vi 3, vr b1, .unset, .unset] [.int 3, .int 0, .ref b1, .int 0, .ref a0])) (fun _ kk => st1 _ (XS.astoreN X1.here hx rfl (hb hby d8_3) rfl rfl (l' := #[vr a0, vi 0, vi 3, vr b1, .unset, .unset]) rfl (XS.aloadN X1.here hx rfl (hb hby d8_4) rfl rfl (XS.iloadN X1.here hx rfl (hb hby d8_5) rfl (XS.aloadN X1.here hx rfl (hb hby d8_6) rfl rfl (XS.iconst X1.here hx rfl (hb hby d8_7) (XS.iloadN X1.here hx rfl (hb hby d8_8) rfl kk))))))) ?_
  obtain ⟨_, _, ⟨T4, L4, k4, n4⟩, -, X4, ⟨Lc4, hQ4, l4, y4, z4⟩, st4⟩ := Jvm.LawKit.callS X1 hx (y := mN21) hown (mvT hZ (ow hw 46 rfl)) (mvT hZ (ow hw 47 rfl)) (mvT hZ (ow hw 44 rfl)) (mvT hZ (ow hw 48 rfl)) (by decide) (backOf (W := 0) (rmC5_3_1 l Z az hw [] a0 (0 : Int32) b1 (0 : Int32) (3 : Int32) k0 k1 c1 c2 c3 h1 n0 Zs2 V_a0 V_b1 ne_a0_b1 g_b1 rfl rfl rfl u1 u2) hZ (ow hw 48 rfl) (ow hw 44 rfl) (by decide) (by decide)) (g := (mkF m 9 #[vr a0, vi 0, vi 3, vr b1, .unset, .unset] [.int 3, .int 0, .ref b1, .int 0, .ref a0])) rfl (by rw [hml]; rfl) (argsL := [.ref a0, .int 0, .ref b1, .int 0, .int 3]) (rest := []) (lenOf pd_8 rfl) rfl (oW rfl rfl) (hb hby d8_9) (fun _ _ => ⟨rfl, e1, (by decide : 1 + 0 ≤ _), (by decide : 3 + 0 ≤ _)⟩)
  dsimp only [Pt.U, Pt.locs, Pt.cells, Pt.slots] at X4 l4 y4 z4 st4 hQ4
  subst l4 y4 z4
  obtain ⟨rfl, N4q, K4, Va4⟩ := hQ4
  have N4 := Fr.app N0 N4q
  have S_C := own_stak K4 (allS (P := fun x => ∀ cell : Cell, (h1)[x]? = some cell → cell.vm.isStatics = false) (Exa.nostat E_b1) all0) S_C
  have S_F := own_stak K4 (allS (P := fun x => ∀ cell : Cell, (h1)[x]? = some cell → cell.vm.isStatics = false) (Exa.nostat E_b1) all0) S_F
  have S_A := own_stak K4 (allS (P := fun x => ∀ cell : Cell, (h1)[x]? = some cell → cell.vm.isStatics = false) (Exa.nostat E_b1) all0) S_A
  have S_H := own_stak K4 (allS (P := fun x => ∀ cell : Cell, (h1)[x]? = some cell → cell.vm.isStatics = false) (Exa.nostat E_b1) all0) S_H
  have S_L := own_stak K4 (allS (P := fun x => ∀ cell : Cell, (h1)[x]? = some cell → cell.vm.isStatics = false) (Exa.nostat E_b1) all0) S_L
  have V_a0 := V_a0.keep K4 (ninS ne_a0_b1 nin0)
  have E_b1 := E_b1.keep K4
  have Zs5 := Nat.le_trans Zs2 K4.1
  have Kp6 := Kp3.trans K4 (allS (Or.inr sz_b1) all0)
  refine Go.st (S' := T4.setTop (mkF m 23 #[vr a0, vi 0, vi 3, vr b1, vi 1, .unset] [.int 3, .int 0, .ref a0])) (fun _ kk => st4 _ (XS.istore X4.here hx rfl (hb hby d8_12) rfl (l' := #[vr a0, vi 0, vi 3, vr b1, vi 1, .unset]) rfl (XS.iload X4.here hx rfl (hb hby d8_14) rfl (XS.iloadN X4.here hx rfl (hb hby d8_16) rfl (XS.icmpNo X4.here hx rfl (hb hby d8_17) rfl (feq (by decide : ¬ ((1 : Int32) = (3 : Int32)))).1 (XS.aloadN X4.here hx rfl (hb hby d8_20) rfl rfl (XS.iloadN X4.here hx rfl (hb hby d8_21) rfl (XS.iloadN X4.here hx rfl (hb hby d8_22) rfl kk)))))))) ?_
  obtain ⟨_, _, ⟨T7, L7, k7, n7⟩, -, X7, ⟨Lc7, hQ7, l7, y7, z7⟩, st7⟩ := Jvm.LawKit.callS X4 hx (y := mN27) hown (mvT hZ (ow hw 96 rfl)) (mvT hZ (ow hw 97 rfl)) (mvT hZ (ow hw 44 rfl)) (mvT hZ (ow hw 98 rfl)) (by decide) (backOf (W := 0) (rmTB_3 l Z az hw [] a0 (0 : Int32) (3 : Int32) zc fm k0 c1 c2 c3 T4.heap n0 Zs5 S_C hzc S_F hfm S_A S_H S_L V_a0 rfl rfl) hZ (ow hw 98 rfl) (ow hw 44 rfl) (by decide) (by decide)) (g := (mkF m 23 #[vr a0, vi 0, vi 3, vr b1, vi 1, .unset] [.int 3, .int 0, .ref a0])) rfl (by rw [hml]; rfl) (argsL := [.ref a0, .int 0, .int 3]) (rest := []) (lenOf pd_7 rfl) rfl (oW rfl rfl) (hb hby d8_23) (fun _ _ => ⟨rfl, rfl, (by decide : 1 + 1 ≤ _), (by decide : 3 + 6 ≤ _)⟩)
  dsimp only [Pt.U, Pt.locs, Pt.cells, Pt.slots] at X7 l7 y7 z7 st7 hQ7
  subst l7 y7 z7
  obtain ⟨b7, kb7, rfl, N7q, K7, V_b7, E_b7, gb7⟩ := hQ7
  have Ex7 := own_extK K7
  have N7 := Fr.app N4 N7q
  have ne_a0_b7 : a0 ≠ b7 := Nat.ne_of_lt (Nat.lt_of_lt_of_le V_a0.lt gb7)
  have ne_b1_b7 : b1 ≠ b7 := Nat.ne_of_lt (Nat.lt_of_lt_of_le E_b1.lt gb7)
  have g_b7 : n0 ≤ b7 := Nat.le_trans Zs5 gb7
  have sz_b7 : h0.size ≤ b7 := Nat.le_trans Kp6.1 gb7
  have S_C := S_C.ext Ex7
  have S_F := S_F.ext Ex7
  have S_A := S_A.ext Ex7
  have S_H := S_H.ext Ex7
  have S_L := S_L.ext Ex7
  have V_a0 := V_a0.ext Ex7
  have E_b1 := E_b1.ext Ex7
  have Va4 := Va4.ext Ex7
  have Zs8 := Nat.le_trans Zs5 Ex7.1
  have Kp9 := Kp6.ext Ex7
  refine Go.st (S' := T7.setTop (mkF m 32 #[vr a0, vi 0, vi 3, vr b1, vi 1, vr b7] [.int 1, .ref b7])) (fun _ kk => st7 _ (XS.astore X7.here hx rfl (hb hby d8_26) rfl rfl (l' := #[vr a0, vi 0, vi 3, vr b1, vi 1, vr b7]) rfl (XS.aload X7.here hx rfl (hb hby d8_28) rfl rfl (XS.iload X7.here hx rfl (hb hby d8_30) rfl kk)))) ?_
  obtain ⟨_, _, ⟨T10, L10, k10, n10⟩, -, X10, ⟨Lc10, hQ10, l10, y10, z10⟩, st10⟩ := Jvm.LawKit.callS X7 hx (y := mN22) hown (mvT hZ (ow hw 112 rfl)) (mvT hZ (ow hw 113 rfl)) (mvT hZ (ow hw 44 rfl)) (mvT hZ (ow hw 114 rfl)) (by decide) (backOf (W := 0) (rmUg l Z az hw [] b7 (1 : Int32) zc fm kb7 (6 : Int32) [(((c1 >>> ((0 : Int32) &&& 31)).toInt8.toInt32).toInt8.toInt32), (((c1 >>> ((8 : Int32) &&& 31)).toInt8.toInt32).toInt8.toInt32), (((c2 >>> ((0 : Int32) &&& 31)).toInt8.toInt32).toInt8.toInt32), (((c2 >>> ((8 : Int32) &&& 31)).toInt8.toInt32).toInt8.toInt32), (((c3 >>> ((0 : Int32) &&& 31)).toInt8.toInt32).toInt8.toInt32), (((c3 >>> ((8 : Int32) &&& 31)).toInt8.toInt32).toInt8.toInt32)] T7.heap n0 Zs8 S_C hzc S_F hfm S_A S_H S_L V_b7 hix0 hix1) hZ (ow hw 114 rfl) (ow hw 44 rfl) (by decide) (by decide)) (g := (mkF m 32 #[vr a0, vi 0, vi 3, vr b1, vi 1, vr b7] [.int 1, .ref b7])) rfl (by rw [hml]; rfl) (argsL := [.ref b7, .int 1]) (rest := []) (lenOf pd_14 rfl) rfl (oW rfl rfl) (hb hby d8_32) (fun _ _ => ⟨rfl, rfl, (by decide : 2 + 0 ≤ _), (by decide : 9 + 0 ≤ _)⟩)
  dsimp only [Pt.U, Pt.locs, Pt.cells, Pt.slots] at X10 l10 y10 z10 st10 hQ10
  subst l10 y10 z10
  obtain ⟨hv10, N10q, e10⟩ := hQ10
  subst hv10
  have N10 := Fr.app N7 N10q
  refine Go.st (S' := T10.setTop (mkF m 35 #[vr a0, vi 0, vi 3, vr b1, vi 1, vr b7] [.int (own_g16 (bt [(((c1 >>> ((0 : Int32) &&& 31)).toInt8.toInt32).toInt8.toInt32), (((c1 >>> ((8 : Int32) &&& 31)).toInt8.toInt32).toInt8.toInt32), (((c2 >>> ((0 : Int32) &&& 31)).toInt8.toInt32).toInt8.toInt32), (((c2 >>> ((8 : Int32) &&& 31)).toInt8.toInt32).toInt8.toInt32), (((c3 >>> ((0 : Int32) &&& 31)).toInt8.toInt32).toInt8.toInt32), (((c3 >>> ((8 : Int32) &&& 31)).toInt8.toInt32).toInt8.toInt32)] ((1 : Int32) <<< ((1 : Int32) &&& 31))) (bt [(((c1 >>> ((0 : Int32) &&& 31)).toInt8.toInt32).toInt8.toInt32), (((c1 >>> ((8 : Int32) &&& 31)).toInt8.toInt32).toInt8.toInt32), (((c2 >>> ((0 : Int32) &&& 31)).toInt8.toInt32).toInt8.toInt32), (((c2 >>> ((8 : Int32) &&& 31)).toInt8.toInt32).toInt8.toInt32), (((c3 >>> ((0 : Int32) &&& 31)).toInt8.toInt32).toInt8.toInt32), (((c3 >>> ((8 : Int32) &&& 31)).toInt8.toInt32).toInt8.toInt32)] (((1 : Int32) <<< ((1 : Int32) &&& 31)) + (1 : Int32))))])) st10 ?_
  rw [show (own_g16 (bt [(((c1 >>> ((0 : Int32) &&& 31)).toInt8.toInt32).toInt8.toInt32), (((c1 >>> ((8 : Int32) &&& 31)).toInt8.toInt32).toInt8.toInt32), (((c2 >>> ((0 : Int32) &&& 31)).toInt8.toInt32).toInt8.toInt32), (((c2 >>> ((8 : Int32) &&& 31)).toInt8.toInt32).toInt8.toInt32), (((c3 >>> ((0 : Int32) &&& 31)).toInt8.toInt32).toInt8.toInt32), (((c3 >>> ((8 : Int32) &&& 31)).toInt8.toInt32).toInt8.toInt32)] ((1 : Int32) <<< ((1 : Int32) &&& 31))) (bt [(((c1 >>> ((0 : Int32) &&& 31)).toInt8.toInt32).toInt8.toInt32), (((c1 >>> ((8 : Int32) &&& 31)).toInt8.toInt32).toInt8.toInt32), (((c2 >>> ((0 : Int32) &&& 31)).toInt8.toInt32).toInt8.toInt32), (((c2 >>> ((8 : Int32) &&& 31)).toInt8.toInt32).toInt8.toInt32), (((c3 >>> ((0 : Int32) &&& 31)).toInt8.toInt32).toInt8.toInt32), (((c3 >>> ((8 : Int32) &&& 31)).toInt8.toInt32).toInt8.toInt32)] (((1 : Int32) <<< ((1 : Int32) &&& 31)) + (1 : Int32)))) = c2 from own_rtg y2]
  refine Go.st (S' := T10.setTop (mkF m 56 #[vr a0, vi 0, vi 3, vr b1, vi 1, vr b7] [.ref b7])) (fun _ kk => XS.sipush X10.here hx rfl (hb hby d8_35) (XS.icmpYes X10.here hx rfl (pc0 := 38) (pc' := 54) rfl (hb hby d8_38) rfl (tlt u2).2.2.1 (by decide) (by decide) (XS.aload X10.here hx rfl (hb hby d8_54) rfl rfl kk))) ?_
  exact Go.retA X10 hx hlk Bd.returns rfl rfl (hb hby d8_56) (by rw [e10]; exact ⟨_, _, rfl, N10, Kp9, V_b7, E_b7, sz_b7⟩) (by decide) (by decide)
theorem rmI5_3_1 (l : Launch) (Z : State) (az : Array Value) (hw : HW az Z) (ws : List Jvm.Cond) (a0 : Addr) (a1 : Addr) (p2 : Int32) (p3 : Int32) (zc : Int32) (fm : Value) (k1 : ClassId) (c1 : Int32) (c2 : Int32) (c3 : Int32) (h0 : Heap) (n0 : Nat) (Z0 : n0 ≤ h0.size) (S_C : tS0 Z h0 (.int zc)) (hzc : ¬ zc = 0) (S_F : tS1 Z h0 fm) (hfm : fm.isRef = true) (S_A : tS2 Z h0 (.int 1)) (S_H : tS3 Z h0 (.int 0)) (S_L : tS4 Z h0 (.int 8)) (E_a0 : Exa Z h0 a0 "java/lang/String") (F_coder : tF0 Z h0 a0 (.int 0)) (F_value : tF1 Z h0 a0 .null) (g_a0 : n0 ≤ a0) (ne : a0 ≠ a1) (V_a1 : Arv Z h0 a1 k1 .char (3 : Int32) [(.int c1), (.int c2), (.int c3)] (.int 0)) (h2 : p2 = 0) (h3 : p3 = (3 : Int32)) (y1 : 0 ≤ c1.toInt ∧ c1.toInt ≤ 65535) (y2 : 0 ≤ c2.toInt ∧ c2.toInt ≤ 65535) (y3 : 0 ≤ c3.toInt ∧ c3.toInt ≤ 65535) (u1 : ¬ (255 : Int32) < c1) (u2 : (255 : Int32) < c2) :
    MF l mN10 (Jvm.Cond.code mN10 jdk_42_method_149_code 6 none :: ws) (rO 4 2 9 57) #[(.ref a0), (.ref a1), (.int p2), (.int p3), .null] Z h0 (Q_in_3 Z a0 c1 c2 c3 h0 n0) := by
  refine MetFree.of_bodySF (plainFor_of_name pn_1) hisR ?_
  intro p e s m args below meth c s₁ Bd hml0 hP hK
  obtain ⟨rfl, hZ, hh⟩ := hP
  have hx := Bd.exec
  have hby := Bd.bytes
  have hlk : meth.locks = false := Bd.notSynchronized
  have hml : c.maxLocals = 6 := hml0
  have hown : s.vm.findClass "java/lang/String" = some m.cls := findClass_of_methodNamed Bd.named
  have hnm := (name_of_methodNamed Bd.named Bd.method).1
  have X0 : Stand p l e (rO 4 2 9 57) s m #[(.ref a0), (.ref a1), (.int p2), (.int p3), .null] below meth c s₁ [] 0 0 := Stand.of_body Bd
  have e0 : s₁.heap = h0 := by rw [← hh, Bd.state]; rfl
  have N0 := Fr.nil n0
  show Go p e below s ((Q_in_3 Z a0 c1 c2 c3 h0 n0)) (rO 4 2 9 57).cells (rO 4 2 9 57).slots (s₁.setTop (entryFrame m #[(.ref a0), (.ref a1), (.int p2), (.int p3), .null] 6))
  rw [ef_3n4 m a0 a1 p2 p3]
  subst h2 h3
  refine Go.st (S' := s₁.setTop (mkF m 1 #[vr a0, vr a1, vi 0, vi 3, .val .null, .unset] [.ref a0])) (fun _ kk => XS.aloadN X0.here hx rfl (hb hby d3_0) rfl rfl kk) ?_
  obtain ⟨T1, X1, e1, st1⟩ := initO X0 hx hZ hown (ow hw 16 rfl) (ow hw 17 rfl) (ow hw 18 rfl) e0 (g := (mkF m 1 #[vr a0, vr a1, vi 0, vi 3, .val .null, .unset] [.ref a0])) rfl (by rw [hml]; rfl) rfl (hb hby d3_1) (by decide) (W := 0) (oW rfl rfl) (by decide)
  refine Go.st (S' := T1.setTop (mkF m 27 #[vr a0, vr a1, vi 0, vi 3, .val .null, .unset] [])) (fun _ kk => st1 _ (XS.iloadN X1.here hx rfl (hb hby d3_4) rfl (XS.ifYes X1.here hx rfl (pc0 := 5) (pc' := 27) rfl (hb hby d3_5) rfl ((if0 _ _).trans (feq (by decide : ¬ ((3 : Int32) = (0 : Int32)))).2) (by decide) (by decide) kk))) ?_
  obtain ⟨T2, X2, e2, st2⟩ := getS2 X1 hx hZ hown (host := "") (Or.inl (ow hw 41 rfl)) Via.refl e1 S_C (g := (mkF m 27 #[vr a0, vr a1, vi 0, vi 3, .val .null, .unset] [])) rfl (hb hby d3_27)
  refine Go.st (S' := T2.setTop (mkF m 36 #[vr a0, vr a1, vi 0, vi 3, .val .null, .unset] [.int 3, .int 0, .ref a1])) (fun _ kk => st2 _ (XS.ifNo X2.here hx rfl (hb hby d3_30) rfl ((if0 _ _).trans (feq hzc).1) (XS.aloadN X2.here hx rfl (hb hby d3_33) rfl rfl (XS.iloadN X2.here hx rfl (hb hby d3_34) rfl (XS.iloadN X2.here hx rfl (hb hby d3_35) rfl kk))))) ?_
  obtain ⟨_, _, ⟨T3, L3, k3, n3⟩, -, X3, ⟨Lc3, hQ3, l3, y3, z3⟩, st3⟩ := Jvm.LawKit.callS X2 hx (y := mN20) hown (mvT hZ (ow hw 42 rfl)) (mvT hZ (ow hw 43 rfl)) (mvT hZ (ow hw 44 rfl)) (mvT hZ (ow hw 45 rfl)) (by decide) (backOf (W := 0) (rmC3_3_1 l Z az hw [] a1 (0 : Int32) (3 : Int32) zc fm k1 c1 c2 c3 h0 n0 Z0 S_C hzc S_F hfm S_A S_H S_L V_a1 rfl rfl y1 y2 y3 u1 u2) hZ (ow hw 45 rfl) (ow hw 44 rfl) (by decide) (by decide)) (g := (mkF m 36 #[vr a0, vr a1, vi 0, vi 3, .val .null, .unset] [.int 3, .int 0, .ref a1])) rfl (by rw [hml]; rfl) (argsL := [.ref a1, .int 0, .int 3]) (rest := []) (lenOf pd_7 rfl) rfl (oW rfl rfl) (hb hby d3_36) (fun _ _ => ⟨rfl, e2, (by decide : 0 + 2 ≤ _), (by decide : 0 + 9 ≤ _)⟩)
  dsimp only [Pt.U, Pt.locs, Pt.cells, Pt.slots] at X3 l3 y3 z3 st3 hQ3
  subst l3 y3 z3
  obtain ⟨b3, kb3, rfl, N3q, K3, V_b3, E_b3, gb3⟩ := hQ3
  have Ex3 := own_extK K3
  have N3 := Fr.app N0 N3q
  have ne_a0_b3 : a0 ≠ b3 := Nat.ne_of_lt (Nat.lt_of_lt_of_le E_a0.lt gb3)
  have ne_a1_b3 : a1 ≠ b3 := Nat.ne_of_lt (Nat.lt_of_lt_of_le V_a1.lt gb3)
  have g_b3 : n0 ≤ b3 := Nat.le_trans Z0 gb3
  have sz_b3 : h0.size ≤ b3 := Nat.le_trans (Keep.refl h0 [a0]).1 gb3
  have S_C := S_C.ext Ex3
  have S_F := S_F.ext Ex3
  have S_A := S_A.ext Ex3
  have S_H := S_H.ext Ex3
  have S_L := S_L.ext Ex3
  have E_a0 := E_a0.ext Ex3
  have F_coder := F_coder.ext Ex3
  have F_value := F_value.ext Ex3
  have V_a1 := V_a1.ext Ex3
  have Zs4 := Nat.le_trans Z0 Ex3.1
  have Kp5 := (Keep.refl h0 [a0]).ext Ex3
  refine Go.st (S' := T3.setTop (mkF m 45 #[vr a0, vr a1, vi 0, vi 3, .val .null, vr b3] [.int 3, .ref b3, .ref a0])) (fun _ kk => st3 _ (XS.astore X3.here hx rfl (hb hby d3_39) rfl rfl (l' := #[vr a0, vr a1, vi 0, vi 3, .val .null, vr b3]) rfl (XS.aloadN X3.here hx rfl (hb hby d3_41) rfl rfl (XS.aload X3.here hx rfl (hb hby d3_42) rfl rfl (XS.iloadN X3.here hx rfl (hb hby d3_44) rfl kk))))) ?_
  obtain ⟨_, _, ⟨T6, L6, k6, n6⟩, -, X6, ⟨Lc6, hQ6, l6, y6, z6⟩, st6⟩ := Jvm.LawKit.callS X3 hx (y := mN19) hown (mvT hZ (ow hw 49 rfl)) (mvT hZ (ow hw 50 rfl)) (mvT hZ (ow hw 44 rfl)) (mvT hZ (ow hw 51 rfl)) (by decide) (backOf (W := 1) (rmCd_3_1 l Z az hw [] b3 (3 : Int32) kb3 _ T3.heap n0 Zs4 V_b3 rfl) hZ (ow hw 51 rfl) (ow hw 44 rfl) (by decide) (by decide)) (g := (mkF m 45 #[vr a0, vr a1, vi 0, vi 3, .val .null, vr b3] [.int 3, .ref b3, .ref a0])) rfl (by rw [hml]; rfl) (argsL := [.ref b3, .int 3]) (rest := [.ref a0]) (lenOf pd_9 rfl) rfl (oW rfl rfl) (hb hby d3_45) (fun _ _ => ⟨rfl, rfl, (by decide : 2 + 0 ≤ _), (by decide : 9 + 0 ≤ _)⟩)
  dsimp only [Pt.U, Pt.locs, Pt.cells, Pt.slots] at X6 l6 y6 z6 st6 hQ6
  subst l6 y6 z6
  obtain ⟨hv6, N6q, e6⟩ := hQ6
  subst hv6
  have N6 := Fr.app N3 N6q
  refine Go.st (S' := T6.setTop (mkF m 48 #[vr a0, vr a1, vi 0, vi 3, .val .null, vr b3] [.int 1, .ref a0])) st6 ?_
  obtain ⟨T7, h7, X7, e7, W7, st7⟩ := putFN X6 hx hZ hown (ow hw 26 rfl) Via.refl e6 F_coder E_a0 (Or.inr ⟨(ow hw 22 rfl), rfl, hnm⟩) (ow hw 7 rfl) (ty := .byte) (v' := .int (nar .byte (1 : Int32))) (by decide) rfl (fits_nar_byte _) (g := (mkF m 48 #[vr a0, vr a1, vi 0, vi 3, .val .null, vr b3] [.int 1, .ref a0])) rfl rfl (hb hby d3_48)
  have N7 := Fr.snoc X7 N6 g_a0
  have F_coder := F_coder.same W7
  have S_C := S_C.wr W7
  have S_F := S_F.wr W7
  have S_A := S_A.wr W7
  have S_H := S_H.wr W7
  have S_L := S_L.wr W7
  have E_a0 := E_a0.wr W7
  have F_value := F_value.other W7 (Or.inr (slot_ne (Or.inr (ow hw 21 rfl)) (Or.inr (ow hw 22 rfl)) (by decide) (t := (.array .byte)) (t' := .byte) (by decide) (by decide)))
  have V_a1 := V_a1.other W7 (Ne.symm ne)
  have E_b3 := E_b3.wr W7
  have V_b3 := V_b3.other W7 (Ne.symm ne_a0_b3)
  have Zs8 := Nat.le_trans Zs4 (Keep.of_wr W7).1
  have Kp9 := Kp5.wr W7 (Or.inl (List.mem_of_getElem? (i := 0) rfl))
  refine Go.st (S' := T7.setTop (mkF m 54 #[vr a0, vr a1, vi 0, vi 3, .val .null, vr b3] [.ref b3, .ref a0])) (fun _ kk => st7 _ (XS.aloadN X7.here hx rfl (hb hby d3_51) rfl rfl (XS.aload X7.here hx rfl (hb hby d3_52) rfl rfl kk))) ?_
  obtain ⟨T10, h10, X10, e10, W10, st10⟩ := putF X7 hx hZ hown (host := "") (Or.inl (ow hw 25 rfl)) Via.refl e7 F_value E_a0 (Or.inr ⟨(ow hw 21 rfl), rfl, hnm⟩) (ow hw 7 rfl) (ty := (.array .byte)) (by decide) rfl rfl (g := (mkF m 54 #[vr a0, vr a1, vi 0, vi 3, .val .null, vr b3] [.ref b3, .ref a0])) rfl rfl (hb hby d3_54)
  have N10 := Fr.snoc X10 N7 g_a0
  have F_value := F_value.same W10
  have S_C := S_C.wr W10
  have S_F := S_F.wr W10
  have S_A := S_A.wr W10
  have S_H := S_H.wr W10
  have S_L := S_L.wr W10
  have E_a0 := E_a0.wr W10
  have F_coder := F_coder.other W10 (Or.inr (slot_ne (Or.inr (ow hw 22 rfl)) (Or.inr (ow hw 21 rfl)) (by decide) (t := .byte) (t' := (.array .byte)) (by decide) (by decide)))
  have V_a1 := V_a1.other W10 (Ne.symm ne)
  have E_b3 := E_b3.wr W10
  have V_b3 := V_b3.other W10 (Ne.symm ne_a0_b3)
  have Zs11 := Nat.le_trans Zs8 (Keep.of_wr W10).1
  have Kp12 := Kp9.wr W10 (Or.inl (List.mem_of_getElem? (i := 0) rfl))
  refine Go.st (S' := T10.setTop (mkF m 57 #[vr a0, vr a1, vi 0, vi 3, .val .null, vr b3] [])) st10 ?_
  exact Go.ret0 X10 hx hlk Bd.returns (hb hby d3_57) (by rw [e10]; exact ⟨rfl, N10, Kp12, E_a0, _, _, _, _, (own_u16 [c1, c2, c3]), F_coder, F_value, V_b3, Or.inr ⟨rfl, rfl, rfl, (List.forall_mem_cons.mpr ⟨y1, (List.forall_mem_cons.mpr ⟨y2, (List.forall_mem_cons.mpr ⟨y3, (fun _ hx => nomatch hx)⟩)⟩)⟩)⟩⟩) (by decide) (by decide)
def Q_c5_3_2 (Z : State) (a2 : Addr) (k2 : ClassId) (c1 : Int32) (c2 : Int32) (c3 : Int32) (h0 : Heap) (n0 : Nat) (v : Option Value) (h : Heap) (L : List Loc) : Prop := v = some (.int 2) ∧ Fr n0 L ∧ Keep h0 h [a2] ∧ Arv Z h a2 k2 .byte (3 : Int32) [(.int ((c1.toInt8.toInt32).toInt8.toInt32)), (.int ((c2.toInt8.toInt32).toInt8.toInt32)), (.int 0)] (.int 0)
theorem rmC5_3_2 (l : Launch) (Z : State) (az : Array Value) (hw : HW az Z) (ws : List Jvm.Cond) (a0 : Addr) (p1 : Int32) (a2 : Addr) (p3 : Int32) (p4 : Int32) (k0 k2 : ClassId) (c1 : Int32) (c2 : Int32) (c3 : Int32) (h0 : Heap) (n0 : Nat) (Z0 : n0 ≤ h0.size) (V_a0 : Arv Z h0 a0 k0 .char (3 : Int32) [(.int c1), (.int c2), (.int c3)] (.int 0)) (V_a2 : Arv Z h0 a2 k2 .byte (3 : Int32) [(.int 0), (.int 0), (.int 0)] (.int 0)) (ne : a0 ≠ a2) (g_a2 : n0 ≤ a2) (h1 : p1 = 0) (h3 : p3 = 0) (h4 : p4 = (3 : Int32)) (u1 : ¬ (255 : Int32) < c1) (u2 : ¬ (255 : Int32) < c2) (u3 : (255 : Int32) < c3) :
    MF l mN21 (Jvm.Cond.code mN21 jdk_52_method_21_code 7 (some .int) :: ws) (rO 0 0 0 0) #[(.ref a0), (.int p1), (.ref a2), (.int p3), (.int p4)] Z h0 (Q_c5_3_2 Z a2 k2 c1 c2 c3 h0 n0) := by
  refine MetFree.of_bodySF (plainFor_of_name pn_3) hisR ?_
  intro p e s m args below meth c s₁ Bd hml0 hP hK
  obtain ⟨rfl, hZ, hh⟩ := hP
  have hx := Bd.exec
  have hby := Bd.bytes
  have hlk : meth.locks = false := Bd.notSynchronized
  have hml : c.maxLocals = 7 := hml0
  have hown : s.vm.findClass "java/lang/StringUTF16" = some m.cls := findClass_of_methodNamed Bd.named
  have X0 : Stand p l e (rO 0 0 0 0) s m #[(.ref a0), (.int p1), (.ref a2), (.int p3), (.int p4)] below meth c s₁ [] 0 0 := Stand.of_body Bd
  have e0 : s₁.heap = h0 := by rw [← hh, Bd.state]; rfl
  have N0 := Fr.nil n0
  show Go p e below s ((Q_c5_3_2 Z a2 k2 c1 c2 c3 h0 n0)) (rO 0 0 0 0).cells (rO 0 0 0 0).slots (s₁.setTop (entryFrame m #[(.ref a0), (.int p1), (.ref a2), (.int p3), (.int p4)] 7))
  rw [ef_9 m a0 p1 a2 p3 p4]
  subst h1 h3 h4
  refine Go.st (S' := s₁.setTop (mkF m 12 #[vr a0, vi 0, vr a2, vi 0, vi 3, vi 0, .unset] [.int 0, .ref a0])) (fun _ kk => XS.iconst X0.here hx rfl (hb hby d9_0) (XS.istore X0.here hx rfl (hb hby d9_1) rfl (l' := #[vr a0, vi 0, vr a2, vi 0, vi 3, vi 0, .unset]) rfl (XS.iload X0.here hx rfl (hb hby d9_3) rfl (XS.iload X0.here hx rfl (hb hby d9_5) rfl (XS.icmpNo X0.here hx rfl (hb hby d9_7) rfl (tlt (by decide : (0 : Int32) < (3 : Int32))).2.1 (XS.aloadN X0.here hx rfl (hb hby d9_10) rfl rfl (XS.iloadN X0.here hx rfl (hb hby d9_11) rfl kk))))))) ?_
  obtain ⟨cl1, Ar1, qk1, S1, Ng1, H1, G1⟩ := (id V_a0)
  have hin1 : ¬ ((0 : Int32) < 0 ∨ cl1.slots.size ≤ ((0 : Int32)).toNatClampNeg) := inb_of S1 ⟨by decide, by decide⟩
  have hat1 : cl1.slots[((0 : Int32)).toNatClampNeg]? = some (.int c1) := Has.at H1 hin1 rfl
  refine Go.st (S' := s₁.setTop (mkF m 31 #[vr a0, vi 0, vr a2, vi 0, vi 3, vi 0, vi c1] [.int (c1.toInt8.toInt32), .int 0, .ref a2])) (fun _ kk => X0.caload hx (j := (0 : Int32)) (v := (.int c1)) (by rw [e0]; exact Ar1.1) (State.isArrayOf_alike hZ.alike Ar1.2.1) Ar1.2.2 hin1 hat1 (g := (mkF m 12 #[vr a0, vi 0, vr a2, vi 0, vi 3, vi 0, .unset] [.int 0, .ref a0])) rfl rfl (hb hby d9_12) _ (XS.istore X0.here hx rfl (hb hby d9_13) rfl (l' := #[vr a0, vi 0, vr a2, vi 0, vi 3, vi 0, vi c1]) rfl (XS.iload X0.here hx rfl (hb hby d9_15) rfl (XS.sipush X0.here hx rfl (hb hby d9_17) (XS.icmpYes X0.here hx rfl (pc0 := 20) (pc' := 26) rfl (hb hby d9_20) rfl (flt u1).2.2.2 (by decide) (by decide) (XS.aloadN X0.here hx rfl (hb hby d9_26) rfl rfl (XS.iloadN X0.here hx rfl (hb hby d9_27) rfl (XS.iload X0.here hx rfl (hb hby d9_28) rfl (XS.i2b X0.here hx rfl (hb hby d9_30) rfl kk))))))))) ?_
  obtain ⟨cl2, Ar2, qk2, S2, Ng2, H2, G2⟩ := (id V_a2)
  have hin2 : ¬ ((0 : Int32) < 0 ∨ cl2.slots.size ≤ ((0 : Int32)).toNatClampNeg) := inb_of S2 ⟨by decide, by decide⟩
  obtain ⟨T2, h2, X2, e2, W2, st2⟩ := stB X0 hx hZ e0 Ar2 (j := (0 : Int32)) hin2 (g := (mkF m 31 #[vr a0, vi 0, vr a2, vi 0, vi 3, vi 0, vi c1] [.int (c1.toInt8.toInt32), .int 0, .ref a2])) rfl rfl (hb hby d9_31)
  have V_a2 : Arv Z h2 a2 k2 .byte (3 : Int32) [(.int ((c1.toInt8.toInt32).toInt8.toInt32)), (.int 0), (.int 0)] (.int 0) := Arv.set Ar2 qk2 S2 Ng2 H2 G2 (fits_nar_byte _) W2 0 rfl (Nat.le_of_ble_eq_true rfl)
  have N2 := Fr.snoc X2 N0 g_a2
  have V_a0 := V_a0.other W2 ne
  have Zs3 := Nat.le_trans Z0 (Keep.of_wr W2).1
  have Kp4 := (Keep.refl h0 [a2]).wr W2 (Or.inl (List.mem_of_getElem? (i := 0) rfl))
  refine Go.st (S' := T2.setTop (mkF m 12 #[vr a0, vi 1, vr a2, vi 1, vi 3, vi 1, vi c1] [.int 1, .ref a0])) (fun _ kk => st2 _ (XS.iinc X2.here hx rfl (hb hby d9_32) rfl (l' := #[vr a0, vi 1, vr a2, vi 0, vi 3, vi 0, vi c1]) rfl (XS.iinc X2.here hx rfl (hb hby d9_35) rfl (l' := #[vr a0, vi 1, vr a2, vi 1, vi 3, vi 0, vi c1]) rfl (XS.iinc X2.here hx rfl (hb hby d9_38) rfl (l' := #[vr a0, vi 1, vr a2, vi 1, vi 3, vi 1, vi c1]) rfl (XS.goto X2.here hx rfl (pc0 := 41) (pc' := 3) rfl (hb hby d9_41) (by decide) (by decide) (XS.iload X2.here hx rfl (hb hby d9_3) rfl (XS.iload X2.here hx rfl (hb hby d9_5) rfl (XS.icmpNo X2.here hx rfl (hb hby d9_7) rfl (tlt (by decide : (1 : Int32) < (3 : Int32))).2.1 (XS.aloadN X2.here hx rfl (hb hby d9_10) rfl rfl (XS.iloadN X2.here hx rfl (hb hby d9_11) rfl kk)))))))))) ?_
  obtain ⟨cl5, Ar5, qk5, S5, Ng5, H5, G5⟩ := (id V_a0)
  have hin5 : ¬ ((1 : Int32) < 0 ∨ cl5.slots.size ≤ ((1 : Int32)).toNatClampNeg) := inb_of S5 ⟨by decide, by decide⟩
  have hat5 : cl5.slots[((1 : Int32)).toNatClampNeg]? = some (.int c2) := Has.at H5 hin5 rfl
  refine Go.st (S' := T2.setTop (mkF m 31 #[vr a0, vi 1, vr a2, vi 1, vi 3, vi 1, vi c2] [.int (c2.toInt8.toInt32), .int 1, .ref a2])) (fun _ kk => X2.caload hx (j := (1 : Int32)) (v := (.int c2)) (by rw [e2]; exact Ar5.1) (State.isArrayOf_alike hZ.alike Ar5.2.1) Ar5.2.2 hin5 hat5 (g := (mkF m 12 #[vr a0, vi 1, vr a2, vi 1, vi 3, vi 1, vi c1] [.int 1, .ref a0])) rfl rfl (hb hby d9_12) _ (XS.istore X2.here hx rfl (hb hby d9_13) rfl (l' := #[vr a0, vi 1, vr a2, vi 1, vi 3, vi 1, vi c2]) rfl (XS.iload X2.here hx rfl (hb hby d9_15) rfl (XS.sipush X2.here hx rfl (hb hby d9_17) (XS.icmpYes X2.here hx rfl (pc0 := 20) (pc' := 26) rfl (hb hby d9_20) rfl (flt u2).2.2.2 (by decide) (by decide) (XS.aloadN X2.here hx rfl (hb hby d9_26) rfl rfl (XS.iloadN X2.here hx rfl (hb hby d9_27) rfl (XS.iload X2.here hx rfl (hb hby d9_28) rfl (XS.i2b X2.here hx rfl (hb hby d9_30) rfl kk))))))))) ?_
  obtain ⟨cl6, Ar6, qk6, S6, Ng6, H6, G6⟩ := (id V_a2)
  have hin6 : ¬ ((1 : Int32) < 0 ∨ cl6.slots.size ≤ ((1 : Int32)).toNatClampNeg) := inb_of S6 ⟨by decide, by decide⟩
  obtain ⟨T6, h6, X6, e6, W6, st6⟩ := stB X2 hx hZ e2 Ar6 (j := (1 : Int32)) hin6 (g := (mkF m 31 #[vr a0, vi 1, vr a2, vi 1, vi 3, vi 1, vi c2] [.int (c2.toInt8.toInt32), .int 1, .ref a2])) rfl rfl (hb hby d9_31)
  have V_a2 : Arv Z h6 a2 k2 .byte (3 : Int32) [(.int ((c1.toInt8.toInt32).toInt8.toInt32)), (.int ((c2.toInt8.toInt32).toInt8.toInt32)), (.int 0)] (.int 0) := Arv.set Ar6 qk6 S6 Ng6 H6 G6 (fits_nar_byte _) W6 1 rfl (Nat.le_of_ble_eq_true rfl)
  have N6 := Fr.snoc X6 N2 g_a2
  have V_a0 := V_a0.other W6 ne
  have Zs7 := Nat.le_trans Zs3 (Keep.of_wr W6).1
  have Kp8 := Kp4.wr W6 (Or.inl (List.mem_of_getElem? (i := 0) rfl))
  refine Go.st (S' := T6.setTop (mkF m 12 #[vr a0, vi 2, vr a2, vi 2, vi 3, vi 2, vi c2] [.int 2, .ref a0])) (fun _ kk => st6 _ (XS.iinc X6.here hx rfl (hb hby d9_32) rfl (l' := #[vr a0, vi 2, vr a2, vi 1, vi 3, vi 1, vi c2]) rfl (XS.iinc X6.here hx rfl (hb hby d9_35) rfl (l' := #[vr a0, vi 2, vr a2, vi 2, vi 3, vi 1, vi c2]) rfl (XS.iinc X6.here hx rfl (hb hby d9_38) rfl (l' := #[vr a0, vi 2, vr a2, vi 2, vi 3, vi 2, vi c2]) rfl (XS.goto X6.here hx rfl (pc0 := 41) (pc' := 3) rfl (hb hby d9_41) (by decide) (by decide) (XS.iload X6.here hx rfl (hb hby d9_3) rfl (XS.iload X6.here hx rfl (hb hby d9_5) rfl (XS.icmpNo X6.here hx rfl (hb hby d9_7) rfl (tlt (by decide : (2 : Int32) < (3 : Int32))).2.1 (XS.aloadN X6.here hx rfl (hb hby d9_10) rfl rfl (XS.iloadN X6.here hx rfl (hb hby d9_11) rfl kk)))))))))) ?_
  obtain ⟨cl9, Ar9, qk9, S9, Ng9, H9, G9⟩ := (id V_a0)
  have hin9 : ¬ ((2 : Int32) < 0 ∨ cl9.slots.size ≤ ((2 : Int32)).toNatClampNeg) := inb_of S9 ⟨by decide, by decide⟩
  have hat9 : cl9.slots[((2 : Int32)).toNatClampNeg]? = some (.int c3) := Has.at H9 hin9 rfl
  refine Go.st (S' := T6.setTop (mkF m 25 #[vr a0, vi 2, vr a2, vi 2, vi 3, vi 2, vi c3] [.int 2])) (fun _ kk => X6.caload hx (j := (2 : Int32)) (v := (.int c3)) (by rw [e6]; exact Ar9.1) (State.isArrayOf_alike hZ.alike Ar9.2.1) Ar9.2.2 hin9 hat9 (g := (mkF m 12 #[vr a0, vi 2, vr a2, vi 2, vi 3, vi 2, vi c2] [.int 2, .ref a0])) rfl rfl (hb hby d9_12) _ (XS.istore X6.here hx rfl (hb hby d9_13) rfl (l' := #[vr a0, vi 2, vr a2, vi 2, vi 3, vi 2, vi c3]) rfl (XS.iload X6.here hx rfl (hb hby d9_15) rfl (XS.sipush X6.here hx rfl (hb hby d9_17) (XS.icmpNo X6.here hx rfl (hb hby d9_20) rfl (tlt u3).2.2.2 (XS.iload X6.here hx rfl (hb hby d9_23) rfl kk)))))) ?_
  exact Go.retI X6 hx hlk Bd.returns (hb hby d9_25) (by rw [e6]; exact ⟨rfl, N6, Kp8, V_a2⟩) (by decide) (by decide)
def Q_c3_3_2 (Z : State) (c1 : Int32) (c2 : Int32) (c3 : Int32) (h0 : Heap) (n0 : Nat) (v : Option Value) (h : Heap) (L : List Loc) : Prop := ∃ (b : Addr) (k : ClassId), v = some (.ref b) ∧ Fr n0 L ∧ Keep h0 h [] ∧ Arv Z h b k .byte (6 : Int32) [(.int (((c1 >>> ((0 : Int32) &&& 31)).toInt8.toInt32).toInt8.toInt32)), (.int (((c1 >>> ((8 : Int32) &&& 31)).toInt8.toInt32).toInt8.toInt32)), (.int (((c2 >>> ((0 : Int32) &&& 31)).toInt8.toInt32).toInt8.toInt32)), (.int (((c2 >>> ((8 : Int32) &&& 31)).toInt8.toInt32).toInt8.toInt32)), (.int (((c3 >>> ((0 : Int32) &&& 31)).toInt8.toInt32).toInt8.toInt32)), (.int (((c3 >>> ((8 : Int32) &&& 31)).toInt8.toInt32).toInt8.toInt32))] (.int 0) ∧ Exa Z h b "[B" ∧ h0.size ≤ b
theorem rmC3_3_2 (l : Launch) (Z : State) (az : Array Value) (hw : HW az Z) (ws : List Jvm.Cond) (a0 : Addr) (p1 : Int32) (p2 : Int32) (zc : Int32) (fm : Value) (k0 : ClassId) (c1 : Int32) (c2 : Int32) (c3 : Int32) (h0 : Heap) (n0 : Nat) (Z0 : n0 ≤ h0.size) (S_C : tS0 Z h0 (.int zc)) (hzc : ¬ zc = 0) (S_F : tS1 Z h0 fm) (hfm : fm.isRef = true) (S_A : tS2 Z h0 (.int 1)) (S_H : tS3 Z h0 (.int 0)) (S_L : tS4 Z h0 (.int 8)) (V_a0 : Arv Z h0 a0 k0 .char (3 : Int32) [(.int c1), (.int c2), (.int c3)] (.int 0)) (h1 : p1 = 0) (h2 : p2 = (3 : Int32)) (y1 : 0 ≤ c1.toInt ∧ c1.toInt ≤ 65535) (y2 : 0 ≤ c2.toInt ∧ c2.toInt ≤ 65535) (y3 : 0 ≤ c3.toInt ∧ c3.toInt ≤ 65535) (u1 : ¬ (255 : Int32) < c1) (u2 : ¬ (255 : Int32) < c2) (u3 : (255 : Int32) < c3) :
    MF l mN20 (Jvm.Cond.code mN20 jdk_52_method_16_code 6 (some (.array .byte)) :: ws) (rO 3 2 9 40) #[(.ref a0), (.int p1), (.int p2)] Z h0 (Q_c3_3_2 Z c1 c2 c3 h0 n0) := by
  refine MetFree.of_bodySF (plainFor_of_name pn_3) hisR ?_
  intro p e s m args below meth c s₁ Bd hml0 hP hK
  obtain ⟨rfl, hZ, hh⟩ := hP
  have hx := Bd.exec
  have hby := Bd.bytes
  have hlk : meth.locks = false := Bd.notSynchronized
  have hml : c.maxLocals = 6 := hml0
  have hown : s.vm.findClass "java/lang/StringUTF16" = some m.cls := findClass_of_methodNamed Bd.named
  have X0 : Stand p l e (rO 3 2 9 40) s m #[(.ref a0), (.int p1), (.int p2)] below meth c s₁ [] 0 0 := Stand.of_body Bd
  have e0 : s₁.heap = h0 := by rw [← hh, Bd.state]; rfl
  have N0 := Fr.nil n0
  show Go p e below s ((Q_c3_3_2 Z c1 c2 c3 h0 n0)) (rO 3 2 9 40).cells (rO 3 2 9 40).slots (s₁.setTop (entryFrame m #[(.ref a0), (.int p1), (.int p2)] 6))
  rw [ef_8 m a0 p1 p2]
  subst h1 h2
  have hix0 : ¬ ((2 : Int32) <<< ((1 : Int32) &&& 31)) < 0 ∧ ((2 : Int32) <<< ((1 : Int32) &&& 31)) < (6 : Int32) := by decide
  have hix1 : ¬ (((2 : Int32) <<< ((1 : Int32) &&& 31)) + (1 : Int32)) < 0 ∧ (((2 : Int32) <<< ((1 : Int32) &&& 31)) + (1 : Int32)) < (6 : Int32) := by decide
  refine Go.st (S' := s₁.setTop (mkF m 1 #[vr a0, vi 0, vi 3, .unset, .unset, .unset] [.int 3])) (fun _ kk => XS.iloadN X0.here hx rfl (hb hby d8_0) rfl kk) ?_
  obtain ⟨T1, h1, k1, X1, e1, E1, A1, E_b1, st1⟩ := newPE X0 hx hZ (ow hw 20 rfl) e0 (g := (mkF m 1 #[vr a0, vi 0, vi 3, .unset, .unset, .unset] [.int 3])) rfl (hb hby d8_1) rfl (by decide) (cap := 3) (by decide) (by decide) (by decide : 0 + 1 ≤ _) (by decide : 0 + 3 ≤ _) (ad := "[B") rfl
  obtain ⟨b1, g1⟩ : ∃ z, z = h0.size := ⟨_, rfl⟩
  rw [← g1] at A1 E_b1 st1
  have ne_a0_b1 : a0 ≠ b1 := Nat.ne_of_lt (Nat.lt_of_lt_of_le V_a0.lt (Nat.le_of_eq g1.symm))
  have g_b1 : n0 ≤ b1 := Nat.le_trans Z0 (Nat.le_of_eq g1.symm)
  have sz_b1 : h0.size ≤ b1 := Nat.le_trans (Keep.refl h0 []).1 (Nat.le_of_eq g1.symm)
  have S_C := S_C.ext E1
  have S_F := S_F.ext E1
  have S_A := S_A.ext E1
  have S_H := S_H.ext E1
  have S_L := S_L.ext E1
  have V_a0 := V_a0.ext E1
  have Zs2 := Nat.le_trans Z0 E1.1
  have Kp3 := (Keep.refl h0 []).ext E1
  have V_b1 : Arv Z h1 b1 k1 .byte (3 : Int32) [(.int 0), (.int 0), (.int 0)] (.int 0) := (Arv.new A1 (by decide)).pad (pad_rep [] (.int 0) 3)
  refine Go.st (S' := T1.setTop (mkF m 9 #[vr a0, vi 0, vi 3, vr b1, .unset, .unset] [.int 3, .int 0, .ref b1, .int 0, .ref a0])) (fun _ kk => st1 _ (XS.astoreN X1.here hx rfl (hb hby d8_3) rfl rfl (l' := #[vr a0, vi 0, vi 3, vr b1, .unset, .unset]) rfl (XS.aloadN X1.here hx rfl (hb hby d8_4) rfl rfl (XS.iloadN X1.here hx rfl (hb hby d8_5) rfl (XS.aloadN X1.here hx rfl (hb hby d8_6) rfl rfl (XS.iconst X1.here hx rfl (hb hby d8_7) (XS.iloadN X1.here hx rfl (hb hby d8_8) rfl kk))))))) ?_
  obtain ⟨_, _, ⟨T4, L4, k4, n4⟩, -, X4, ⟨Lc4, hQ4, l4, y4, z4⟩, st4⟩ := Jvm.LawKit.callS X1 hx (y := mN21) hown (mvT hZ (ow hw 46 rfl)) (mvT hZ (ow hw 47 rfl)) (mvT hZ (ow hw 44 rfl)) (mvT hZ (ow hw 48 rfl)) (by decide) (backOf (W := 0) (rmC5_3_2 l Z az hw [] a0 (0 : Int32) b1 (0 : Int32) (3 : Int32) k0 k1 c1 c2 c3 h1 n0 Zs2 V_a0 V_b1 ne_a0_b1 g_b1 rfl rfl rfl u1 u2 u3) hZ (ow hw 48 rfl) (ow hw 44 rfl) (by decide) (by decide)) (g := (mkF m 9 #[vr a0, vi 0, vi 3, vr b1, .unset, .unset] [.int 3, .int 0, .ref b1, .int 0, .ref a0])) rfl (by rw [hml]; rfl) (argsL := [.ref a0, .int 0, .ref b1, .int 0, .int 3]) (rest := []) (lenOf pd_8 rfl) rfl (oW rfl rfl) (hb hby d8_9) (fun _ _ => ⟨rfl, e1, (by decide : 1 + 0 ≤ _), (by decide : 3 + 0 ≤ _)⟩)
  dsimp only [Pt.U, Pt.locs, Pt.cells, Pt.slots] at X4 l4 y4 z4 st4 hQ4
  subst l4 y4 z4
  obtain ⟨rfl, N4q, K4, Va4⟩ := hQ4
  have N4 := Fr.app N0 N4q
  have S_C := own_stak K4 (allS (P := fun x => ∀ cell : Cell, (h1)[x]? = some cell → cell.vm.isStatics = false) (Exa.nostat E_b1) all0) S_C
  have S_F := own_stak K4 (allS (P := fun x => ∀ cell : Cell, (h1)[x]? = some cell → cell.vm.isStatics = false) (Exa.nostat E_b1) all0) S_F
  have S_A := own_stak K4 (allS (P := fun x => ∀ cell : Cell, (h1)[x]? = some cell → cell.vm.isStatics = false) (Exa.nostat E_b1) all0) S_A
  have S_H := own_stak K4 (allS (P := fun x => ∀ cell : Cell, (h1)[x]? = some cell → cell.vm.isStatics = false) (Exa.nostat E_b1) all0) S_H
  have S_L := own_stak K4 (allS (P := fun x => ∀ cell : Cell, (h1)[x]? = some cell → cell.vm.isStatics = false) (Exa.nostat E_b1) all0) S_L
  have V_a0 := V_a0.keep K4 (ninS ne_a0_b1 nin0)
  have E_b1 := E_b1.keep K4
  have Zs5 := Nat.le_trans Zs2 K4.1
  have Kp6 := Kp3.trans K4 (allS (Or.inr sz_b1) all0)
  refine Go.st (S' := T4.setTop (mkF m 23 #[vr a0, vi 0, vi 3, vr b1, vi 2, .unset] [.int 3, .int 0, .ref a0])) (fun _ kk => st4 _ (XS.istore X4.here hx rfl (hb hby d8_12) rfl (l' := #[vr a0, vi 0, vi 3, vr b1, vi 2, .unset]) rfl (XS.iload X4.here hx rfl (hb hby d8_14) rfl (XS.iloadN X4.here hx rfl (hb hby d8_16) rfl (XS.icmpNo X4.here hx rfl (hb hby d8_17) rfl (feq (by decide : ¬ ((2 : Int32) = (3 : Int32)))).1 (XS.aloadN X4.here hx rfl (hb hby d8_20) rfl rfl (XS.iloadN X4.here hx rfl (hb hby d8_21) rfl (XS.iloadN X4.here hx rfl (hb hby d8_22) rfl kk)))))))) ?_
  obtain ⟨_, _, ⟨T7, L7, k7, n7⟩, -, X7, ⟨Lc7, hQ7, l7, y7, z7⟩, st7⟩ := Jvm.LawKit.callS X4 hx (y := mN27) hown (mvT hZ (ow hw 96 rfl)) (mvT hZ (ow hw 97 rfl)) (mvT hZ (ow hw 44 rfl)) (mvT hZ (ow hw 98 rfl)) (by decide) (backOf (W := 0) (rmTB_3 l Z az hw [] a0 (0 : Int32) (3 : Int32) zc fm k0 c1 c2 c3 T4.heap n0 Zs5 S_C hzc S_F hfm S_A S_H S_L V_a0 rfl rfl) hZ (ow hw 98 rfl) (ow hw 44 rfl) (by decide) (by decide)) (g := (mkF m 23 #[vr a0, vi 0, vi 3, vr b1, vi 2, .unset] [.int 3, .int 0, .ref a0])) rfl (by rw [hml]; rfl) (argsL := [.ref a0, .int 0, .int 3]) (rest := []) (lenOf pd_7 rfl) rfl (oW rfl rfl) (hb hby d8_23) (fun _ _ => ⟨rfl, rfl, (by decide : 1 + 1 ≤ _), (by decide : 3 + 6 ≤ _)⟩)
  dsimp only [Pt.U, Pt.locs, Pt.cells, Pt.slots] at X7 l7 y7 z7 st7 hQ7
  subst l7 y7 z7
  obtain ⟨b7, kb7, rfl, N7q, K7, V_b7, E_b7, gb7⟩ := hQ7
  have Ex7 := own_extK K7
  have N7 := Fr.app N4 N7q
  have ne_a0_b7 : a0 ≠ b7 := Nat.ne_of_lt (Nat.lt_of_lt_of_le V_a0.lt gb7)
  have ne_b1_b7 : b1 ≠ b7 := Nat.ne_of_lt (Nat.lt_of_lt_of_le E_b1.lt gb7)
  have g_b7 : n0 ≤ b7 := Nat.le_trans Zs5 gb7
  have sz_b7 : h0.size ≤ b7 := Nat.le_trans Kp6.1 gb7
  have S_C := S_C.ext Ex7
  have S_F := S_F.ext Ex7
  have S_A := S_A.ext Ex7
  have S_H := S_H.ext Ex7
  have S_L := S_L.ext Ex7
  have V_a0 := V_a0.ext Ex7
  have E_b1 := E_b1.ext Ex7
  have Va4 := Va4.ext Ex7
  have Zs8 := Nat.le_trans Zs5 Ex7.1
  have Kp9 := Kp6.ext Ex7
  refine Go.st (S' := T7.setTop (mkF m 32 #[vr a0, vi 0, vi 3, vr b1, vi 2, vr b7] [.int 2, .ref b7])) (fun _ kk => st7 _ (XS.astore X7.here hx rfl (hb hby d8_26) rfl rfl (l' := #[vr a0, vi 0, vi 3, vr b1, vi 2, vr b7]) rfl (XS.aload X7.here hx rfl (hb hby d8_28) rfl rfl (XS.iload X7.here hx rfl (hb hby d8_30) rfl kk)))) ?_
  obtain ⟨_, _, ⟨T10, L10, k10, n10⟩, -, X10, ⟨Lc10, hQ10, l10, y10, z10⟩, st10⟩ := Jvm.LawKit.callS X7 hx (y := mN22) hown (mvT hZ (ow hw 112 rfl)) (mvT hZ (ow hw 113 rfl)) (mvT hZ (ow hw 44 rfl)) (mvT hZ (ow hw 114 rfl)) (by decide) (backOf (W := 0) (rmUg l Z az hw [] b7 (2 : Int32) zc fm kb7 (6 : Int32) [(((c1 >>> ((0 : Int32) &&& 31)).toInt8.toInt32).toInt8.toInt32), (((c1 >>> ((8 : Int32) &&& 31)).toInt8.toInt32).toInt8.toInt32), (((c2 >>> ((0 : Int32) &&& 31)).toInt8.toInt32).toInt8.toInt32), (((c2 >>> ((8 : Int32) &&& 31)).toInt8.toInt32).toInt8.toInt32), (((c3 >>> ((0 : Int32) &&& 31)).toInt8.toInt32).toInt8.toInt32), (((c3 >>> ((8 : Int32) &&& 31)).toInt8.toInt32).toInt8.toInt32)] T7.heap n0 Zs8 S_C hzc S_F hfm S_A S_H S_L V_b7 hix0 hix1) hZ (ow hw 114 rfl) (ow hw 44 rfl) (by decide) (by decide)) (g := (mkF m 32 #[vr a0, vi 0, vi 3, vr b1, vi 2, vr b7] [.int 2, .ref b7])) rfl (by rw [hml]; rfl) (argsL := [.ref b7, .int 2]) (rest := []) (lenOf pd_14 rfl) rfl (oW rfl rfl) (hb hby d8_32) (fun _ _ => ⟨rfl, rfl, (by decide : 2 + 0 ≤ _), (by decide : 9 + 0 ≤ _)⟩)
  dsimp only [Pt.U, Pt.locs, Pt.cells, Pt.slots] at X10 l10 y10 z10 st10 hQ10
  subst l10 y10 z10
  obtain ⟨hv10, N10q, e10⟩ := hQ10
  subst hv10
  have N10 := Fr.app N7 N10q
  refine Go.st (S' := T10.setTop (mkF m 35 #[vr a0, vi 0, vi 3, vr b1, vi 2, vr b7] [.int (own_g16 (bt [(((c1 >>> ((0 : Int32) &&& 31)).toInt8.toInt32).toInt8.toInt32), (((c1 >>> ((8 : Int32) &&& 31)).toInt8.toInt32).toInt8.toInt32), (((c2 >>> ((0 : Int32) &&& 31)).toInt8.toInt32).toInt8.toInt32), (((c2 >>> ((8 : Int32) &&& 31)).toInt8.toInt32).toInt8.toInt32), (((c3 >>> ((0 : Int32) &&& 31)).toInt8.toInt32).toInt8.toInt32), (((c3 >>> ((8 : Int32) &&& 31)).toInt8.toInt32).toInt8.toInt32)] ((2 : Int32) <<< ((1 : Int32) &&& 31))) (bt [(((c1 >>> ((0 : Int32) &&& 31)).toInt8.toInt32).toInt8.toInt32), (((c1 >>> ((8 : Int32) &&& 31)).toInt8.toInt32).toInt8.toInt32), (((c2 >>> ((0 : Int32) &&& 31)).toInt8.toInt32).toInt8.toInt32), (((c2 >>> ((8 : Int32) &&& 31)).toInt8.toInt32).toInt8.toInt32), (((c3 >>> ((0 : Int32) &&& 31)).toInt8.toInt32).toInt8.toInt32), (((c3 >>> ((8 : Int32) &&& 31)).toInt8.toInt32).toInt8.toInt32)] (((2 : Int32) <<< ((1 : Int32) &&& 31)) + (1 : Int32))))])) st10 ?_
  rw [show (own_g16 (bt [(((c1 >>> ((0 : Int32) &&& 31)).toInt8.toInt32).toInt8.toInt32), (((c1 >>> ((8 : Int32) &&& 31)).toInt8.toInt32).toInt8.toInt32), (((c2 >>> ((0 : Int32) &&& 31)).toInt8.toInt32).toInt8.toInt32), (((c2 >>> ((8 : Int32) &&& 31)).toInt8.toInt32).toInt8.toInt32), (((c3 >>> ((0 : Int32) &&& 31)).toInt8.toInt32).toInt8.toInt32), (((c3 >>> ((8 : Int32) &&& 31)).toInt8.toInt32).toInt8.toInt32)] ((2 : Int32) <<< ((1 : Int32) &&& 31))) (bt [(((c1 >>> ((0 : Int32) &&& 31)).toInt8.toInt32).toInt8.toInt32), (((c1 >>> ((8 : Int32) &&& 31)).toInt8.toInt32).toInt8.toInt32), (((c2 >>> ((0 : Int32) &&& 31)).toInt8.toInt32).toInt8.toInt32), (((c2 >>> ((8 : Int32) &&& 31)).toInt8.toInt32).toInt8.toInt32), (((c3 >>> ((0 : Int32) &&& 31)).toInt8.toInt32).toInt8.toInt32), (((c3 >>> ((8 : Int32) &&& 31)).toInt8.toInt32).toInt8.toInt32)] (((2 : Int32) <<< ((1 : Int32) &&& 31)) + (1 : Int32)))) = c3 from own_rtg y3]
  refine Go.st (S' := T10.setTop (mkF m 56 #[vr a0, vi 0, vi 3, vr b1, vi 2, vr b7] [.ref b7])) (fun _ kk => XS.sipush X10.here hx rfl (hb hby d8_35) (XS.icmpYes X10.here hx rfl (pc0 := 38) (pc' := 54) rfl (hb hby d8_38) rfl (tlt u3).2.2.1 (by decide) (by decide) (XS.aload X10.here hx rfl (hb hby d8_54) rfl rfl kk))) ?_
  exact Go.retA X10 hx hlk Bd.returns rfl rfl (hb hby d8_56) (by rw [e10]; exact ⟨_, _, rfl, N10, Kp9, V_b7, E_b7, sz_b7⟩) (by decide) (by decide)
theorem rmI5_3_2 (l : Launch) (Z : State) (az : Array Value) (hw : HW az Z) (ws : List Jvm.Cond) (a0 : Addr) (a1 : Addr) (p2 : Int32) (p3 : Int32) (zc : Int32) (fm : Value) (k1 : ClassId) (c1 : Int32) (c2 : Int32) (c3 : Int32) (h0 : Heap) (n0 : Nat) (Z0 : n0 ≤ h0.size) (S_C : tS0 Z h0 (.int zc)) (hzc : ¬ zc = 0) (S_F : tS1 Z h0 fm) (hfm : fm.isRef = true) (S_A : tS2 Z h0 (.int 1)) (S_H : tS3 Z h0 (.int 0)) (S_L : tS4 Z h0 (.int 8)) (E_a0 : Exa Z h0 a0 "java/lang/String") (F_coder : tF0 Z h0 a0 (.int 0)) (F_value : tF1 Z h0 a0 .null) (g_a0 : n0 ≤ a0) (ne : a0 ≠ a1) (V_a1 : Arv Z h0 a1 k1 .char (3 : Int32) [(.int c1), (.int c2), (.int c3)] (.int 0)) (h2 : p2 = 0) (h3 : p3 = (3 : Int32)) (y1 : 0 ≤ c1.toInt ∧ c1.toInt ≤ 65535) (y2 : 0 ≤ c2.toInt ∧ c2.toInt ≤ 65535) (y3 : 0 ≤ c3.toInt ∧ c3.toInt ≤ 65535) (u1 : ¬ (255 : Int32) < c1) (u2 : ¬ (255 : Int32) < c2) (u3 : (255 : Int32) < c3) :
    MF l mN10 (Jvm.Cond.code mN10 jdk_42_method_149_code 6 none :: ws) (rO 4 2 9 57) #[(.ref a0), (.ref a1), (.int p2), (.int p3), .null] Z h0 (Q_in_3 Z a0 c1 c2 c3 h0 n0) := by
  refine MetFree.of_bodySF (plainFor_of_name pn_1) hisR ?_
  intro p e s m args below meth c s₁ Bd hml0 hP hK
  obtain ⟨rfl, hZ, hh⟩ := hP
  have hx := Bd.exec
  have hby := Bd.bytes
  have hlk : meth.locks = false := Bd.notSynchronized
  have hml : c.maxLocals = 6 := hml0
  have hown : s.vm.findClass "java/lang/String" = some m.cls := findClass_of_methodNamed Bd.named
  have hnm := (name_of_methodNamed Bd.named Bd.method).1
  have X0 : Stand p l e (rO 4 2 9 57) s m #[(.ref a0), (.ref a1), (.int p2), (.int p3), .null] below meth c s₁ [] 0 0 := Stand.of_body Bd
  have e0 : s₁.heap = h0 := by rw [← hh, Bd.state]; rfl
  have N0 := Fr.nil n0
  show Go p e below s ((Q_in_3 Z a0 c1 c2 c3 h0 n0)) (rO 4 2 9 57).cells (rO 4 2 9 57).slots (s₁.setTop (entryFrame m #[(.ref a0), (.ref a1), (.int p2), (.int p3), .null] 6))
  rw [ef_3n4 m a0 a1 p2 p3]
  subst h2 h3
  refine Go.st (S' := s₁.setTop (mkF m 1 #[vr a0, vr a1, vi 0, vi 3, .val .null, .unset] [.ref a0])) (fun _ kk => XS.aloadN X0.here hx rfl (hb hby d3_0) rfl rfl kk) ?_
  obtain ⟨T1, X1, e1, st1⟩ := initO X0 hx hZ hown (ow hw 16 rfl) (ow hw 17 rfl) (ow hw 18 rfl) e0 (g := (mkF m 1 #[vr a0, vr a1, vi 0, vi 3, .val .null, .unset] [.ref a0])) rfl (by rw [hml]; rfl) rfl (hb hby d3_1) (by decide) (W := 0) (oW rfl rfl) (by decide)
  refine Go.st (S' := T1.setTop (mkF m 27 #[vr a0, vr a1, vi 0, vi 3, .val .null, .unset] [])) (fun _ kk => st1 _ (XS.iloadN X1.here hx rfl (hb hby d3_4) rfl (XS.ifYes X1.here hx rfl (pc0 := 5) (pc' := 27) rfl (hb hby d3_5) rfl ((if0 _ _).trans (feq (by decide : ¬ ((3 : Int32) = (0 : Int32)))).2) (by decide) (by decide) kk))) ?_
  obtain ⟨T2, X2, e2, st2⟩ := getS2 X1 hx hZ hown (host := "") (Or.inl (ow hw 41 rfl)) Via.refl e1 S_C (g := (mkF m 27 #[vr a0, vr a1, vi 0, vi 3, .val .null, .unset] [])) rfl (hb hby d3_27)
  refine Go.st (S' := T2.setTop (mkF m 36 #[vr a0, vr a1, vi 0, vi 3, .val .null, .unset] [.int 3, .int 0, .ref a1])) (fun _ kk => st2 _ (XS.ifNo X2.here hx rfl (hb hby d3_30) rfl ((if0 _ _).trans (feq hzc).1) (XS.aloadN X2.here hx rfl (hb hby d3_33) rfl rfl (XS.iloadN X2.here hx rfl (hb hby d3_34) rfl (XS.iloadN X2.here hx rfl (hb hby d3_35) rfl kk))))) ?_
  obtain ⟨_, _, ⟨T3, L3, k3, n3⟩, -, X3, ⟨Lc3, hQ3, l3, y3, z3⟩, st3⟩ := Jvm.LawKit.callS X2 hx (y := mN20) hown (mvT hZ (ow hw 42 rfl)) (mvT hZ (ow hw 43 rfl)) (mvT hZ (ow hw 44 rfl)) (mvT hZ (ow hw 45 rfl)) (by decide) (backOf (W := 0) (rmC3_3_2 l Z az hw [] a1 (0 : Int32) (3 : Int32) zc fm k1 c1 c2 c3 h0 n0 Z0 S_C hzc S_F hfm S_A S_H S_L V_a1 rfl rfl y1 y2 y3 u1 u2 u3) hZ (ow hw 45 rfl) (ow hw 44 rfl) (by decide) (by decide)) (g := (mkF m 36 #[vr a0, vr a1, vi 0, vi 3, .val .null, .unset] [.int 3, .int 0, .ref a1])) rfl (by rw [hml]; rfl) (argsL := [.ref a1, .int 0, .int 3]) (rest := []) (lenOf pd_7 rfl) rfl (oW rfl rfl) (hb hby d3_36) (fun _ _ => ⟨rfl, e2, (by decide : 0 + 2 ≤ _), (by decide : 0 + 9 ≤ _)⟩)
  dsimp only [Pt.U, Pt.locs, Pt.cells, Pt.slots] at X3 l3 y3 z3 st3 hQ3
  subst l3 y3 z3
  obtain ⟨b3, kb3, rfl, N3q, K3, V_b3, E_b3, gb3⟩ := hQ3
  have Ex3 := own_extK K3
  have N3 := Fr.app N0 N3q
  have ne_a0_b3 : a0 ≠ b3 := Nat.ne_of_lt (Nat.lt_of_lt_of_le E_a0.lt gb3)
  have ne_a1_b3 : a1 ≠ b3 := Nat.ne_of_lt (Nat.lt_of_lt_of_le V_a1.lt gb3)
  have g_b3 : n0 ≤ b3 := Nat.le_trans Z0 gb3
  have sz_b3 : h0.size ≤ b3 := Nat.le_trans (Keep.refl h0 [a0]).1 gb3
  have S_C := S_C.ext Ex3
  have S_F := S_F.ext Ex3
  have S_A := S_A.ext Ex3
  have S_H := S_H.ext Ex3
  have S_L := S_L.ext Ex3
  have E_a0 := E_a0.ext Ex3
  have F_coder := F_coder.ext Ex3
  have F_value := F_value.ext Ex3
  have V_a1 := V_a1.ext Ex3
  have Zs4 := Nat.le_trans Z0 Ex3.1
  have Kp5 := (Keep.refl h0 [a0]).ext Ex3
  refine Go.st (S' := T3.setTop (mkF m 45 #[vr a0, vr a1, vi 0, vi 3, .val .null, vr b3] [.int 3, .ref b3, .ref a0])) (fun _ kk => st3 _ (XS.astore X3.here hx rfl (hb hby d3_39) rfl rfl (l' := #[vr a0, vr a1, vi 0, vi 3, .val .null, vr b3]) rfl (XS.aloadN X3.here hx rfl (hb hby d3_41) rfl rfl (XS.aload X3.here hx rfl (hb hby d3_42) rfl rfl (XS.iloadN X3.here hx rfl (hb hby d3_44) rfl kk))))) ?_
  obtain ⟨_, _, ⟨T6, L6, k6, n6⟩, -, X6, ⟨Lc6, hQ6, l6, y6, z6⟩, st6⟩ := Jvm.LawKit.callS X3 hx (y := mN19) hown (mvT hZ (ow hw 49 rfl)) (mvT hZ (ow hw 50 rfl)) (mvT hZ (ow hw 44 rfl)) (mvT hZ (ow hw 51 rfl)) (by decide) (backOf (W := 1) (rmCd_3_1 l Z az hw [] b3 (3 : Int32) kb3 _ T3.heap n0 Zs4 V_b3 rfl) hZ (ow hw 51 rfl) (ow hw 44 rfl) (by decide) (by decide)) (g := (mkF m 45 #[vr a0, vr a1, vi 0, vi 3, .val .null, vr b3] [.int 3, .ref b3, .ref a0])) rfl (by rw [hml]; rfl) (argsL := [.ref b3, .int 3]) (rest := [.ref a0]) (lenOf pd_9 rfl) rfl (oW rfl rfl) (hb hby d3_45) (fun _ _ => ⟨rfl, rfl, (by decide : 2 + 0 ≤ _), (by decide : 9 + 0 ≤ _)⟩)
  dsimp only [Pt.U, Pt.locs, Pt.cells, Pt.slots] at X6 l6 y6 z6 st6 hQ6
  subst l6 y6 z6
  obtain ⟨hv6, N6q, e6⟩ := hQ6
  subst hv6
  have N6 := Fr.app N3 N6q
  refine Go.st (S' := T6.setTop (mkF m 48 #[vr a0, vr a1, vi 0, vi 3, .val .null, vr b3] [.int 1, .ref a0])) st6 ?_
  obtain ⟨T7, h7, X7, e7, W7, st7⟩ := putFN X6 hx hZ hown (ow hw 26 rfl) Via.refl e6 F_coder E_a0 (Or.inr ⟨(ow hw 22 rfl), rfl, hnm⟩) (ow hw 7 rfl) (ty := .byte) (v' := .int (nar .byte (1 : Int32))) (by decide) rfl (fits_nar_byte _) (g := (mkF m 48 #[vr a0, vr a1, vi 0, vi 3, .val .null, vr b3] [.int 1, .ref a0])) rfl rfl (hb hby d3_48)
  have N7 := Fr.snoc X7 N6 g_a0
  have F_coder := F_coder.same W7
  have S_C := S_C.wr W7
  have S_F := S_F.wr W7
  have S_A := S_A.wr W7
  have S_H := S_H.wr W7
  have S_L := S_L.wr W7
  have E_a0 := E_a0.wr W7
  have F_value := F_value.other W7 (Or.inr (slot_ne (Or.inr (ow hw 21 rfl)) (Or.inr (ow hw 22 rfl)) (by decide) (t := (.array .byte)) (t' := .byte) (by decide) (by decide)))
  have V_a1 := V_a1.other W7 (Ne.symm ne)
  have E_b3 := E_b3.wr W7
  have V_b3 := V_b3.other W7 (Ne.symm ne_a0_b3)
  have Zs8 := Nat.le_trans Zs4 (Keep.of_wr W7).1
  have Kp9 := Kp5.wr W7 (Or.inl (List.mem_of_getElem? (i := 0) rfl))
  refine Go.st (S' := T7.setTop (mkF m 54 #[vr a0, vr a1, vi 0, vi 3, .val .null, vr b3] [.ref b3, .ref a0])) (fun _ kk => st7 _ (XS.aloadN X7.here hx rfl (hb hby d3_51) rfl rfl (XS.aload X7.here hx rfl (hb hby d3_52) rfl rfl kk))) ?_
  obtain ⟨T10, h10, X10, e10, W10, st10⟩ := putF X7 hx hZ hown (host := "") (Or.inl (ow hw 25 rfl)) Via.refl e7 F_value E_a0 (Or.inr ⟨(ow hw 21 rfl), rfl, hnm⟩) (ow hw 7 rfl) (ty := (.array .byte)) (by decide) rfl rfl (g := (mkF m 54 #[vr a0, vr a1, vi 0, vi 3, .val .null, vr b3] [.ref b3, .ref a0])) rfl rfl (hb hby d3_54)
  have N10 := Fr.snoc X10 N7 g_a0
  have F_value := F_value.same W10
  have S_C := S_C.wr W10
  have S_F := S_F.wr W10
  have S_A := S_A.wr W10
  have S_H := S_H.wr W10
  have S_L := S_L.wr W10
  have E_a0 := E_a0.wr W10
  have F_coder := F_coder.other W10 (Or.inr (slot_ne (Or.inr (ow hw 22 rfl)) (Or.inr (ow hw 21 rfl)) (by decide) (t := .byte) (t' := (.array .byte)) (by decide) (by decide)))
  have V_a1 := V_a1.other W10 (Ne.symm ne)
  have E_b3 := E_b3.wr W10
  have V_b3 := V_b3.other W10 (Ne.symm ne_a0_b3)
  have Zs11 := Nat.le_trans Zs8 (Keep.of_wr W10).1
  have Kp12 := Kp9.wr W10 (Or.inl (List.mem_of_getElem? (i := 0) rfl))
  refine Go.st (S' := T10.setTop (mkF m 57 #[vr a0, vr a1, vi 0, vi 3, .val .null, vr b3] [])) st10 ?_
  exact Go.ret0 X10 hx hlk Bd.returns (hb hby d3_57) (by rw [e10]; exact ⟨rfl, N10, Kp12, E_a0, _, _, _, _, (own_u16 [c1, c2, c3]), F_coder, F_value, V_b3, Or.inr ⟨rfl, rfl, rfl, (List.forall_mem_cons.mpr ⟨y1, (List.forall_mem_cons.mpr ⟨y2, (List.forall_mem_cons.mpr ⟨y3, (fun _ hx => nomatch hx)⟩)⟩)⟩)⟩⟩) (by decide) (by decide)
def Q_c5_3_3 (Z : State) (a2 : Addr) (k2 : ClassId) (c1 : Int32) (c2 : Int32) (c3 : Int32) (h0 : Heap) (n0 : Nat) (v : Option Value) (h : Heap) (L : List Loc) : Prop := v = some (.int 3) ∧ Fr n0 L ∧ Keep h0 h [a2] ∧ Arv Z h a2 k2 .byte (3 : Int32) [(.int ((c1.toInt8.toInt32).toInt8.toInt32)), (.int ((c2.toInt8.toInt32).toInt8.toInt32)), (.int ((c3.toInt8.toInt32).toInt8.toInt32))] (.int 0)
theorem rmC5_3_3 (l : Launch) (Z : State) (az : Array Value) (hw : HW az Z) (ws : List Jvm.Cond) (a0 : Addr) (p1 : Int32) (a2 : Addr) (p3 : Int32) (p4 : Int32) (k0 k2 : ClassId) (c1 : Int32) (c2 : Int32) (c3 : Int32) (h0 : Heap) (n0 : Nat) (Z0 : n0 ≤ h0.size) (V_a0 : Arv Z h0 a0 k0 .char (3 : Int32) [(.int c1), (.int c2), (.int c3)] (.int 0)) (V_a2 : Arv Z h0 a2 k2 .byte (3 : Int32) [(.int 0), (.int 0), (.int 0)] (.int 0)) (ne : a0 ≠ a2) (g_a2 : n0 ≤ a2) (h1 : p1 = 0) (h3 : p3 = 0) (h4 : p4 = (3 : Int32)) (u1 : ¬ (255 : Int32) < c1) (u2 : ¬ (255 : Int32) < c2) (u3 : ¬ (255 : Int32) < c3) :
    MF l mN21 (Jvm.Cond.code mN21 jdk_52_method_21_code 7 (some .int) :: ws) (rO 0 0 0 0) #[(.ref a0), (.int p1), (.ref a2), (.int p3), (.int p4)] Z h0 (Q_c5_3_3 Z a2 k2 c1 c2 c3 h0 n0) := by
  refine MetFree.of_bodySF (plainFor_of_name pn_3) hisR ?_
  intro p e s m args below meth c s₁ Bd hml0 hP hK
  obtain ⟨rfl, hZ, hh⟩ := hP
  have hx := Bd.exec
  have hby := Bd.bytes
  have hlk : meth.locks = false := Bd.notSynchronized
  have hml : c.maxLocals = 7 := hml0
  have hown : s.vm.findClass "java/lang/StringUTF16" = some m.cls := findClass_of_methodNamed Bd.named
  have X0 : Stand p l e (rO 0 0 0 0) s m #[(.ref a0), (.int p1), (.ref a2), (.int p3), (.int p4)] below meth c s₁ [] 0 0 := Stand.of_body Bd
  have e0 : s₁.heap = h0 := by rw [← hh, Bd.state]; rfl
  have N0 := Fr.nil n0
  show Go p e below s ((Q_c5_3_3 Z a2 k2 c1 c2 c3 h0 n0)) (rO 0 0 0 0).cells (rO 0 0 0 0).slots (s₁.setTop (entryFrame m #[(.ref a0), (.int p1), (.ref a2), (.int p3), (.int p4)] 7))
  rw [ef_9 m a0 p1 a2 p3 p4]
  subst h1 h3 h4
  refine Go.st (S' := s₁.setTop (mkF m 12 #[vr a0, vi 0, vr a2, vi 0, vi 3, vi 0, .unset] [.int 0, .ref a0])) (fun _ kk => XS.iconst X0.here hx rfl (hb hby d9_0) (XS.istore X0.here hx rfl (hb hby d9_1) rfl (l' := #[vr a0, vi 0, vr a2, vi 0, vi 3, vi 0, .unset]) rfl (XS.iload X0.here hx rfl (hb hby d9_3) rfl (XS.iload X0.here hx rfl (hb hby d9_5) rfl (XS.icmpNo X0.here hx rfl (hb hby d9_7) rfl (tlt (by decide : (0 : Int32) < (3 : Int32))).2.1 (XS.aloadN X0.here hx rfl (hb hby d9_10) rfl rfl (XS.iloadN X0.here hx rfl (hb hby d9_11) rfl kk))))))) ?_
  obtain ⟨cl1, Ar1, qk1, S1, Ng1, H1, G1⟩ := (id V_a0)
  have hin1 : ¬ ((0 : Int32) < 0 ∨ cl1.slots.size ≤ ((0 : Int32)).toNatClampNeg) := inb_of S1 ⟨by decide, by decide⟩
  have hat1 : cl1.slots[((0 : Int32)).toNatClampNeg]? = some (.int c1) := Has.at H1 hin1 rfl
  refine Go.st (S' := s₁.setTop (mkF m 31 #[vr a0, vi 0, vr a2, vi 0, vi 3, vi 0, vi c1] [.int (c1.toInt8.toInt32), .int 0, .ref a2])) (fun _ kk => X0.caload hx (j := (0 : Int32)) (v := (.int c1)) (by rw [e0]; exact Ar1.1) (State.isArrayOf_alike hZ.alike Ar1.2.1) Ar1.2.2 hin1 hat1 (g := (mkF m 12 #[vr a0, vi 0, vr a2, vi 0, vi 3, vi 0, .unset] [.int 0, .ref a0])) rfl rfl (hb hby d9_12) _ (XS.istore X0.here hx rfl (hb hby d9_13) rfl (l' := #[vr a0, vi 0, vr a2, vi 0, vi 3, vi 0, vi c1]) rfl (XS.iload X0.here hx rfl (hb hby d9_15) rfl (XS.sipush X0.here hx rfl (hb hby d9_17) (XS.icmpYes X0.here hx rfl (pc0 := 20) (pc' := 26) rfl (hb hby d9_20) rfl (flt u1).2.2.2 (by decide) (by decide) (XS.aloadN X0.here hx rfl (hb hby d9_26) rfl rfl (XS.iloadN X0.here hx rfl (hb hby d9_27) rfl (XS.iload X0.here hx rfl (hb hby d9_28) rfl (XS.i2b X0.here hx rfl (hb hby d9_30) rfl kk))))))))) ?_
  obtain ⟨cl2, Ar2, qk2, S2, Ng2, H2, G2⟩ := (id V_a2)
  have hin2 : ¬ ((0 : Int32) < 0 ∨ cl2.slots.size ≤ ((0 : Int32)).toNatClampNeg) := inb_of S2 ⟨by decide, by decide⟩
  obtain ⟨T2, h2, X2, e2, W2, st2⟩ := stB X0 hx hZ e0 Ar2 (j := (0 : Int32)) hin2 (g := (mkF m 31 #[vr a0, vi 0, vr a2, vi 0, vi 3, vi 0, vi c1] [.int (c1.toInt8.toInt32), .int 0, .ref a2])) rfl rfl (hb hby d9_31)
  have V_a2 : Arv Z h2 a2 k2 .byte (3 : Int32) [(.int ((c1.toInt8.toInt32).toInt8.toInt32)), (.int 0), (.int 0)] (.int 0) := Arv.set Ar2 qk2 S2 Ng2 H2 G2 (fits_nar_byte _) W2 0 rfl (Nat.le_of_ble_eq_true rfl)
  have N2 := Fr.snoc X2 N0 g_a2
  have V_a0 := V_a0.other W2 ne
  have Zs3 := Nat.le_trans Z0 (Keep.of_wr W2).1
  have Kp4 := (Keep.refl h0 [a2]).wr W2 (Or.inl (List.mem_of_getElem? (i := 0) rfl))
  refine Go.st (S' := T2.setTop (mkF m 12 #[vr a0, vi 1, vr a2, vi 1, vi 3, vi 1, vi c1] [.int 1, .ref a0])) (fun _ kk => st2 _ (XS.iinc X2.here hx rfl (hb hby d9_32) rfl (l' := #[vr a0, vi 1, vr a2, vi 0, vi 3, vi 0, vi c1]) rfl (XS.iinc X2.here hx rfl (hb hby d9_35) rfl (l' := #[vr a0, vi 1, vr a2, vi 1, vi 3, vi 0, vi c1]) rfl (XS.iinc X2.here hx rfl (hb hby d9_38) rfl (l' := #[vr a0, vi 1, vr a2, vi 1, vi 3, vi 1, vi c1]) rfl (XS.goto X2.here hx rfl (pc0 := 41) (pc' := 3) rfl (hb hby d9_41) (by decide) (by decide) (XS.iload X2.here hx rfl (hb hby d9_3) rfl (XS.iload X2.here hx rfl (hb hby d9_5) rfl (XS.icmpNo X2.here hx rfl (hb hby d9_7) rfl (tlt (by decide : (1 : Int32) < (3 : Int32))).2.1 (XS.aloadN X2.here hx rfl (hb hby d9_10) rfl rfl (XS.iloadN X2.here hx rfl (hb hby d9_11) rfl kk)))))))))) ?_
  obtain ⟨cl5, Ar5, qk5, S5, Ng5, H5, G5⟩ := (id V_a0)
  have hin5 : ¬ ((1 : Int32) < 0 ∨ cl5.slots.size ≤ ((1 : Int32)).toNatClampNeg) := inb_of S5 ⟨by decide, by decide⟩
  have hat5 : cl5.slots[((1 : Int32)).toNatClampNeg]? = some (.int c2) := Has.at H5 hin5 rfl
  refine Go.st (S' := T2.setTop (mkF m 31 #[vr a0, vi 1, vr a2, vi 1, vi 3, vi 1, vi c2] [.int (c2.toInt8.toInt32), .int 1, .ref a2])) (fun _ kk => X2.caload hx (j := (1 : Int32)) (v := (.int c2)) (by rw [e2]; exact Ar5.1) (State.isArrayOf_alike hZ.alike Ar5.2.1) Ar5.2.2 hin5 hat5 (g := (mkF m 12 #[vr a0, vi 1, vr a2, vi 1, vi 3, vi 1, vi c1] [.int 1, .ref a0])) rfl rfl (hb hby d9_12) _ (XS.istore X2.here hx rfl (hb hby d9_13) rfl (l' := #[vr a0, vi 1, vr a2, vi 1, vi 3, vi 1, vi c2]) rfl (XS.iload X2.here hx rfl (hb hby d9_15) rfl (XS.sipush X2.here hx rfl (hb hby d9_17) (XS.icmpYes X2.here hx rfl (pc0 := 20) (pc' := 26) rfl (hb hby d9_20) rfl (flt u2).2.2.2 (by decide) (by decide) (XS.aloadN X2.here hx rfl (hb hby d9_26) rfl rfl (XS.iloadN X2.here hx rfl (hb hby d9_27) rfl (XS.iload X2.here hx rfl (hb hby d9_28) rfl (XS.i2b X2.here hx rfl (hb hby d9_30) rfl kk))))))))) ?_
  obtain ⟨cl6, Ar6, qk6, S6, Ng6, H6, G6⟩ := (id V_a2)
  have hin6 : ¬ ((1 : Int32) < 0 ∨ cl6.slots.size ≤ ((1 : Int32)).toNatClampNeg) := inb_of S6 ⟨by decide, by decide⟩
  obtain ⟨T6, h6, X6, e6, W6, st6⟩ := stB X2 hx hZ e2 Ar6 (j := (1 : Int32)) hin6 (g := (mkF m 31 #[vr a0, vi 1, vr a2, vi 1, vi 3, vi 1, vi c2] [.int (c2.toInt8.toInt32), .int 1, .ref a2])) rfl rfl (hb hby d9_31)
  have V_a2 : Arv Z h6 a2 k2 .byte (3 : Int32) [(.int ((c1.toInt8.toInt32).toInt8.toInt32)), (.int ((c2.toInt8.toInt32).toInt8.toInt32)), (.int 0)] (.int 0) := Arv.set Ar6 qk6 S6 Ng6 H6 G6 (fits_nar_byte _) W6 1 rfl (Nat.le_of_ble_eq_true rfl)
  have N6 := Fr.snoc X6 N2 g_a2
  have V_a0 := V_a0.other W6 ne
  have Zs7 := Nat.le_trans Zs3 (Keep.of_wr W6).1
  have Kp8 := Kp4.wr W6 (Or.inl (List.mem_of_getElem? (i := 0) rfl))
  refine Go.st (S' := T6.setTop (mkF m 12 #[vr a0, vi 2, vr a2, vi 2, vi 3, vi 2, vi c2] [.int 2, .ref a0])) (fun _ kk => st6 _ (XS.iinc X6.here hx rfl (hb hby d9_32) rfl (l' := #[vr a0, vi 2, vr a2, vi 1, vi 3, vi 1, vi c2]) rfl (XS.iinc X6.here hx rfl (hb hby d9_35) rfl (l' := #[vr a0, vi 2, vr a2, vi 2, vi 3, vi 1, vi c2]) rfl (XS.iinc X6.here hx rfl (hb hby d9_38) rfl (l' := #[vr a0, vi 2, vr a2, vi 2, vi 3, vi 2, vi c2]) rfl (XS.goto X6.here hx rfl (pc0 := 41) (pc' := 3) rfl (hb hby d9_41) (by decide) (by decide) (XS.iload X6.here hx rfl (hb hby d9_3) rfl (XS.iload X6.here hx rfl (hb hby d9_5) rfl (XS.icmpNo X6.here hx rfl (hb hby d9_7) rfl (tlt (by decide : (2 : Int32) < (3 : Int32))).2.1 (XS.aloadN X6.here hx rfl (hb hby d9_10) rfl rfl (XS.iloadN X6.here hx rfl (hb hby d9_11) rfl kk)))))))))) ?_
  obtain ⟨cl9, Ar9, qk9, S9, Ng9, H9, G9⟩ := (id V_a0)
  have hin9 : ¬ ((2 : Int32) < 0 ∨ cl9.slots.size ≤ ((2 : Int32)).toNatClampNeg) := inb_of S9 ⟨by decide, by decide⟩
  have hat9 : cl9.slots[((2 : Int32)).toNatClampNeg]? = some (.int c3) := Has.at H9 hin9 rfl
  refine Go.st (S' := T6.setTop (mkF m 31 #[vr a0, vi 2, vr a2, vi 2, vi 3, vi 2, vi c3] [.int (c3.toInt8.toInt32), .int 2, .ref a2])) (fun _ kk => X6.caload hx (j := (2 : Int32)) (v := (.int c3)) (by rw [e6]; exact Ar9.1) (State.isArrayOf_alike hZ.alike Ar9.2.1) Ar9.2.2 hin9 hat9 (g := (mkF m 12 #[vr a0, vi 2, vr a2, vi 2, vi 3, vi 2, vi c2] [.int 2, .ref a0])) rfl rfl (hb hby d9_12) _ (XS.istore X6.here hx rfl (hb hby d9_13) rfl (l' := #[vr a0, vi 2, vr a2, vi 2, vi 3, vi 2, vi c3]) rfl (XS.iload X6.here hx rfl (hb hby d9_15) rfl (XS.sipush X6.here hx rfl (hb hby d9_17) (XS.icmpYes X6.here hx rfl (pc0 := 20) (pc' := 26) rfl (hb hby d9_20) rfl (flt u3).2.2.2 (by decide) (by decide) (XS.aloadN X6.here hx rfl (hb hby d9_26) rfl rfl (XS.iloadN X6.here hx rfl (hb hby d9_27) rfl (XS.iload X6.here hx rfl (hb hby d9_28) rfl (XS.i2b X6.here hx rfl (hb hby d9_30) rfl kk))))))))) ?_
  obtain ⟨cl10, Ar10, qk10, S10, Ng10, H10, G10⟩ := (id V_a2)
  have hin10 : ¬ ((2 : Int32) < 0 ∨ cl10.slots.size ≤ ((2 : Int32)).toNatClampNeg) := inb_of S10 ⟨by decide, by decide⟩
  obtain ⟨T10, h10, X10, e10, W10, st10⟩ := stB X6 hx hZ e6 Ar10 (j := (2 : Int32)) hin10 (g := (mkF m 31 #[vr a0, vi 2, vr a2, vi 2, vi 3, vi 2, vi c3] [.int (c3.toInt8.toInt32), .int 2, .ref a2])) rfl rfl (hb hby d9_31)
  have V_a2 : Arv Z h10 a2 k2 .byte (3 : Int32) [(.int ((c1.toInt8.toInt32).toInt8.toInt32)), (.int ((c2.toInt8.toInt32).toInt8.toInt32)), (.int ((c3.toInt8.toInt32).toInt8.toInt32))] (.int 0) := Arv.set Ar10 qk10 S10 Ng10 H10 G10 (fits_nar_byte _) W10 2 rfl (Nat.le_of_ble_eq_true rfl)
  have N10 := Fr.snoc X10 N6 g_a2
  have V_a0 := V_a0.other W10 ne
  have Zs11 := Nat.le_trans Zs7 (Keep.of_wr W10).1
  have Kp12 := Kp8.wr W10 (Or.inl (List.mem_of_getElem? (i := 0) rfl))
  refine Go.st (S' := T10.setTop (mkF m 46 #[vr a0, vi 3, vr a2, vi 3, vi 3, vi 3, vi c3] [.int 3])) (fun _ kk => st10 _ (XS.iinc X10.here hx rfl (hb hby d9_32) rfl (l' := #[vr a0, vi 3, vr a2, vi 2, vi 3, vi 2, vi c3]) rfl (XS.iinc X10.here hx rfl (hb hby d9_35) rfl (l' := #[vr a0, vi 3, vr a2, vi 3, vi 3, vi 2, vi c3]) rfl (XS.iinc X10.here hx rfl (hb hby d9_38) rfl (l' := #[vr a0, vi 3, vr a2, vi 3, vi 3, vi 3, vi c3]) rfl (XS.goto X10.here hx rfl (pc0 := 41) (pc' := 3) rfl (hb hby d9_41) (by decide) (by decide) (XS.iload X10.here hx rfl (hb hby d9_3) rfl (XS.iload X10.here hx rfl (hb hby d9_5) rfl (XS.icmpYes X10.here hx rfl (pc0 := 7) (pc' := 44) rfl (hb hby d9_7) rfl (flt (by decide : ¬ ((3 : Int32) < (3 : Int32)))).2.1 (by decide) (by decide) (XS.iload X10.here hx rfl (hb hby d9_44) rfl kk))))))))) ?_
  exact Go.retI X10 hx hlk Bd.returns (hb hby d9_46) (by rw [e10]; exact ⟨rfl, N10, Kp12, V_a2⟩) (by decide) (by decide)
def Q_c3_3_3 (Z : State) (c1 : Int32) (c2 : Int32) (c3 : Int32) (h0 : Heap) (n0 : Nat) (v : Option Value) (h : Heap) (L : List Loc) : Prop := ∃ (b : Addr) (k : ClassId), v = some (.ref b) ∧ Fr n0 L ∧ Keep h0 h [] ∧ Arv Z h b k .byte (3 : Int32) [(.int ((c1.toInt8.toInt32).toInt8.toInt32)), (.int ((c2.toInt8.toInt32).toInt8.toInt32)), (.int ((c3.toInt8.toInt32).toInt8.toInt32))] (.int 0) ∧ Exa Z h b "[B" ∧ h0.size ≤ b
theorem rmC3_3_3 (l : Launch) (Z : State) (az : Array Value) (hw : HW az Z) (ws : List Jvm.Cond) (a0 : Addr) (p1 : Int32) (p2 : Int32) (zc : Int32) (fm : Value) (k0 : ClassId) (c1 : Int32) (c2 : Int32) (c3 : Int32) (h0 : Heap) (n0 : Nat) (Z0 : n0 ≤ h0.size) (S_C : tS0 Z h0 (.int zc)) (hzc : ¬ zc = 0) (S_F : tS1 Z h0 fm) (hfm : fm.isRef = true) (S_A : tS2 Z h0 (.int 1)) (S_H : tS3 Z h0 (.int 0)) (S_L : tS4 Z h0 (.int 8)) (V_a0 : Arv Z h0 a0 k0 .char (3 : Int32) [(.int c1), (.int c2), (.int c3)] (.int 0)) (h1 : p1 = 0) (h2 : p2 = (3 : Int32)) (y1 : 0 ≤ c1.toInt ∧ c1.toInt ≤ 65535) (y2 : 0 ≤ c2.toInt ∧ c2.toInt ≤ 65535) (y3 : 0 ≤ c3.toInt ∧ c3.toInt ≤ 65535) (u1 : ¬ (255 : Int32) < c1) (u2 : ¬ (255 : Int32) < c2) (u3 : ¬ (255 : Int32) < c3) :
    MF l mN20 (Jvm.Cond.code mN20 jdk_52_method_16_code 6 (some (.array .byte)) :: ws) (rO 3 2 9 40) #[(.ref a0), (.int p1), (.int p2)] Z h0 (Q_c3_3_3 Z c1 c2 c3 h0 n0) := by
  refine MetFree.of_bodySF (plainFor_of_name pn_3) hisR ?_
  intro p e s m args below meth c s₁ Bd hml0 hP hK
  obtain ⟨rfl, hZ, hh⟩ := hP
  have hx := Bd.exec
  have hby := Bd.bytes
  have hlk : meth.locks = false := Bd.notSynchronized
  have hml : c.maxLocals = 6 := hml0
  have hown : s.vm.findClass "java/lang/StringUTF16" = some m.cls := findClass_of_methodNamed Bd.named
  have X0 : Stand p l e (rO 3 2 9 40) s m #[(.ref a0), (.int p1), (.int p2)] below meth c s₁ [] 0 0 := Stand.of_body Bd
  have e0 : s₁.heap = h0 := by rw [← hh, Bd.state]; rfl
  have N0 := Fr.nil n0
  show Go p e below s ((Q_c3_3_3 Z c1 c2 c3 h0 n0)) (rO 3 2 9 40).cells (rO 3 2 9 40).slots (s₁.setTop (entryFrame m #[(.ref a0), (.int p1), (.int p2)] 6))
  rw [ef_8 m a0 p1 p2]
  subst h1 h2
  refine Go.st (S' := s₁.setTop (mkF m 1 #[vr a0, vi 0, vi 3, .unset, .unset, .unset] [.int 3])) (fun _ kk => XS.iloadN X0.here hx rfl (hb hby d8_0) rfl kk) ?_
  obtain ⟨T1, h1, k1, X1, e1, E1, A1, E_b1, st1⟩ := newPE X0 hx hZ (ow hw 20 rfl) e0 (g := (mkF m 1 #[vr a0, vi 0, vi 3, .unset, .unset, .unset] [.int 3])) rfl (hb hby d8_1) rfl (by decide) (cap := 3) (by decide) (by decide) (by decide : 0 + 1 ≤ _) (by decide : 0 + 3 ≤ _) (ad := "[B") rfl
  obtain ⟨b1, g1⟩ : ∃ z, z = h0.size := ⟨_, rfl⟩
  rw [← g1] at A1 E_b1 st1
  have ne_a0_b1 : a0 ≠ b1 := Nat.ne_of_lt (Nat.lt_of_lt_of_le V_a0.lt (Nat.le_of_eq g1.symm))
  have g_b1 : n0 ≤ b1 := Nat.le_trans Z0 (Nat.le_of_eq g1.symm)
  have sz_b1 : h0.size ≤ b1 := Nat.le_trans (Keep.refl h0 []).1 (Nat.le_of_eq g1.symm)
  have S_C := S_C.ext E1
  have S_F := S_F.ext E1
  have S_A := S_A.ext E1
  have S_H := S_H.ext E1
  have S_L := S_L.ext E1
  have V_a0 := V_a0.ext E1
  have Zs2 := Nat.le_trans Z0 E1.1
  have Kp3 := (Keep.refl h0 []).ext E1
  have V_b1 : Arv Z h1 b1 k1 .byte (3 : Int32) [(.int 0), (.int 0), (.int 0)] (.int 0) := (Arv.new A1 (by decide)).pad (pad_rep [] (.int 0) 3)
  refine Go.st (S' := T1.setTop (mkF m 9 #[vr a0, vi 0, vi 3, vr b1, .unset, .unset] [.int 3, .int 0, .ref b1, .int 0, .ref a0])) (fun _ kk => st1 _ (XS.astoreN X1.here hx rfl (hb hby d8_3) rfl rfl (l' := #[vr a0, vi 0, vi 3, vr b1, .unset, .unset]) rfl (XS.aloadN X1.here hx rfl (hb hby d8_4) rfl rfl (XS.iloadN X1.here hx rfl (hb hby d8_5) rfl (XS.aloadN X1.here hx rfl (hb hby d8_6) rfl rfl (XS.iconst X1.here hx rfl (hb hby d8_7) (XS.iloadN X1.here hx rfl (hb hby d8_8) rfl kk))))))) ?_
  obtain ⟨_, _, ⟨T4, L4, k4, n4⟩, -, X4, ⟨Lc4, hQ4, l4, y4, z4⟩, st4⟩ := Jvm.LawKit.callS X1 hx (y := mN21) hown (mvT hZ (ow hw 46 rfl)) (mvT hZ (ow hw 47 rfl)) (mvT hZ (ow hw 44 rfl)) (mvT hZ (ow hw 48 rfl)) (by decide) (backOf (W := 0) (rmC5_3_3 l Z az hw [] a0 (0 : Int32) b1 (0 : Int32) (3 : Int32) k0 k1 c1 c2 c3 h1 n0 Zs2 V_a0 V_b1 ne_a0_b1 g_b1 rfl rfl rfl u1 u2 u3) hZ (ow hw 48 rfl) (ow hw 44 rfl) (by decide) (by decide)) (g := (mkF m 9 #[vr a0, vi 0, vi 3, vr b1, .unset, .unset] [.int 3, .int 0, .ref b1, .int 0, .ref a0])) rfl (by rw [hml]; rfl) (argsL := [.ref a0, .int 0, .ref b1, .int 0, .int 3]) (rest := []) (lenOf pd_8 rfl) rfl (oW rfl rfl) (hb hby d8_9) (fun _ _ => ⟨rfl, e1, (by decide : 1 + 0 ≤ _), (by decide : 3 + 0 ≤ _)⟩)
  dsimp only [Pt.U, Pt.locs, Pt.cells, Pt.slots] at X4 l4 y4 z4 st4 hQ4
  subst l4 y4 z4
  obtain ⟨rfl, N4q, K4, Va4⟩ := hQ4
  have N4 := Fr.app N0 N4q
  have S_C := own_stak K4 (allS (P := fun x => ∀ cell : Cell, (h1)[x]? = some cell → cell.vm.isStatics = false) (Exa.nostat E_b1) all0) S_C
  have S_F := own_stak K4 (allS (P := fun x => ∀ cell : Cell, (h1)[x]? = some cell → cell.vm.isStatics = false) (Exa.nostat E_b1) all0) S_F
  have S_A := own_stak K4 (allS (P := fun x => ∀ cell : Cell, (h1)[x]? = some cell → cell.vm.isStatics = false) (Exa.nostat E_b1) all0) S_A
  have S_H := own_stak K4 (allS (P := fun x => ∀ cell : Cell, (h1)[x]? = some cell → cell.vm.isStatics = false) (Exa.nostat E_b1) all0) S_H
  have S_L := own_stak K4 (allS (P := fun x => ∀ cell : Cell, (h1)[x]? = some cell → cell.vm.isStatics = false) (Exa.nostat E_b1) all0) S_L
  have V_a0 := V_a0.keep K4 (ninS ne_a0_b1 nin0)
  have E_b1 := E_b1.keep K4
  have Zs5 := Nat.le_trans Zs2 K4.1
  have Kp6 := Kp3.trans K4 (allS (Or.inr sz_b1) all0)
  refine Go.st (S' := T4.setTop (mkF m 58 #[vr a0, vi 0, vi 3, vr b1, vi 3, .unset] [.ref b1])) (fun _ kk => st4 _ (XS.istore X4.here hx rfl (hb hby d8_12) rfl (l' := #[vr a0, vi 0, vi 3, vr b1, vi 3, .unset]) rfl (XS.iload X4.here hx rfl (hb hby d8_14) rfl (XS.iloadN X4.here hx rfl (hb hby d8_16) rfl (XS.icmpYes X4.here hx rfl (pc0 := 17) (pc' := 57) rfl (hb hby d8_17) rfl (teq (by decide : (3 : Int32) = (3 : Int32))).1 (by decide) (by decide) (XS.aloadN X4.here hx rfl (hb hby d8_57) rfl rfl kk)))))) ?_
  exact Go.retA X4 hx hlk Bd.returns rfl rfl (hb hby d8_58) (by exact ⟨_, _, rfl, N4, Kp6, Va4, E_b1, sz_b1⟩) (by decide) (by decide)
theorem rmCd_3_0 (l : Launch) (Z : State) (az : Array Value) (hw : HW az Z) (ws : List Jvm.Cond) (a0 : Addr) (p1 : Int32) (k0 : ClassId) (vs : List Value) (h0 : Heap) (n0 : Nat) (Z0 : n0 ≤ h0.size) (V_a0 : Arv Z h0 a0 k0 .byte (3 : Int32) vs (.int 0)) (h1 : p1 = (3 : Int32)) :
    MF l mN19 (Jvm.Cond.code mN19 jdk_52_method_15_code 2 (some .byte) :: ws) (rO 0 0 0 0) #[(.ref a0), (.int p1)] Z h0 (PQ (.int 0) n0 h0) := by
  refine MetFree.of_bodySF (plainFor_of_name pn_3) hisR ?_
  intro p e s m args below meth c s₁ Bd hml0 hP hK
  obtain ⟨rfl, hZ, hh⟩ := hP
  have hx := Bd.exec
  have hby := Bd.bytes
  have hlk : meth.locks = false := Bd.notSynchronized
  have hml : c.maxLocals = 2 := hml0
  have hown : s.vm.findClass "java/lang/StringUTF16" = some m.cls := findClass_of_methodNamed Bd.named
  have X0 : Stand p l e (rO 0 0 0 0) s m #[(.ref a0), (.int p1)] below meth c s₁ [] 0 0 := Stand.of_body Bd
  have e0 : s₁.heap = h0 := by rw [← hh, Bd.state]; rfl
  have N0 := Fr.nil n0
  show Go p e below s ((PQ (.int 0) n0 h0)) (rO 0 0 0 0).cells (rO 0 0 0 0).slots (s₁.setTop (entryFrame m #[(.ref a0), (.int p1)] 2))
  rw [ef_10 m a0 p1]
  subst h1
  refine Go.st (S' := s₁.setTop (mkF m 2 #[vr a0, vi 3] [.ref a0, .int 3])) (fun _ kk => XS.iloadN X0.here hx rfl (hb hby d10_0) rfl (XS.aloadN X0.here hx rfl (hb hby d10_1) rfl rfl kk)) ?_
  obtain ⟨cl1, Ar1, -, S1, Ng1, -, -⟩ := (id V_a0)
  refine Go.st (S' := s₁.setTop (mkF m 3 #[vr a0, vi 3] [.int 3, .int 3])) (fun _ kk => X0.arraylength hx (by rw [e0]; exact Ar1.1) (State.isArrayOf_alike hZ.alike Ar1.2.1) (g := (mkF m 2 #[vr a0, vi 3] [.ref a0, .int 3])) rfl rfl (hb hby d10_2) _ (by rw [len_of S1 Ng1]; exact kk)) ?_
  refine Go.st (S' := s₁.setTop (mkF m 8 #[vr a0, vi 3] [.int ((((0 : Int32).toUInt32 >>> ((31 : Int32) &&& 31).toUInt32).toInt32).toInt8.toInt32)])) (fun _ kk => XS.isub X0.here hx rfl (hb hby d10_3) rfl (XS.bipush X0.here hx rfl (hb hby d10_4) (XS.iushr X0.here hx rfl (hb hby d10_6) rfl (XS.i2b X0.here hx rfl (hb hby d10_7) rfl kk)))) ?_
  exact Go.retN X0 hx hlk (t := .byte) Bd.returns (by simp) (hb hby d10_8) (⟨rfl, N0, e0⟩) (by decide) (by decide)
theorem rmI5_3_3 (l : Launch) (Z : State) (az : Array Value) (hw : HW az Z) (ws : List Jvm.Cond) (a0 : Addr) (a1 : Addr) (p2 : Int32) (p3 : Int32) (zc : Int32) (fm : Value) (k1 : ClassId) (c1 : Int32) (c2 : Int32) (c3 : Int32) (h0 : Heap) (n0 : Nat) (Z0 : n0 ≤ h0.size) (S_C : tS0 Z h0 (.int zc)) (hzc : ¬ zc = 0) (S_F : tS1 Z h0 fm) (hfm : fm.isRef = true) (S_A : tS2 Z h0 (.int 1)) (S_H : tS3 Z h0 (.int 0)) (S_L : tS4 Z h0 (.int 8)) (E_a0 : Exa Z h0 a0 "java/lang/String") (F_coder : tF0 Z h0 a0 (.int 0)) (F_value : tF1 Z h0 a0 .null) (g_a0 : n0 ≤ a0) (ne : a0 ≠ a1) (V_a1 : Arv Z h0 a1 k1 .char (3 : Int32) [(.int c1), (.int c2), (.int c3)] (.int 0)) (h2 : p2 = 0) (h3 : p3 = (3 : Int32)) (y1 : 0 ≤ c1.toInt ∧ c1.toInt ≤ 65535) (y2 : 0 ≤ c2.toInt ∧ c2.toInt ≤ 65535) (y3 : 0 ≤ c3.toInt ∧ c3.toInt ≤ 65535) (u1 : ¬ (255 : Int32) < c1) (u2 : ¬ (255 : Int32) < c2) (u3 : ¬ (255 : Int32) < c3) :
    MF l mN10 (Jvm.Cond.code mN10 jdk_42_method_149_code 6 none :: ws) (rO 4 2 9 57) #[(.ref a0), (.ref a1), (.int p2), (.int p3), .null] Z h0 (Q_in_3 Z a0 c1 c2 c3 h0 n0) := by
  refine MetFree.of_bodySF (plainFor_of_name pn_1) hisR ?_
  intro p e s m args below meth c s₁ Bd hml0 hP hK
  obtain ⟨rfl, hZ, hh⟩ := hP
  have hx := Bd.exec
  have hby := Bd.bytes
  have hlk : meth.locks = false := Bd.notSynchronized
  have hml : c.maxLocals = 6 := hml0
  have hown : s.vm.findClass "java/lang/String" = some m.cls := findClass_of_methodNamed Bd.named
  have hnm := (name_of_methodNamed Bd.named Bd.method).1
  have X0 : Stand p l e (rO 4 2 9 57) s m #[(.ref a0), (.ref a1), (.int p2), (.int p3), .null] below meth c s₁ [] 0 0 := Stand.of_body Bd
  have e0 : s₁.heap = h0 := by rw [← hh, Bd.state]; rfl
  have N0 := Fr.nil n0
  show Go p e below s ((Q_in_3 Z a0 c1 c2 c3 h0 n0)) (rO 4 2 9 57).cells (rO 4 2 9 57).slots (s₁.setTop (entryFrame m #[(.ref a0), (.ref a1), (.int p2), (.int p3), .null] 6))
  rw [ef_3n4 m a0 a1 p2 p3]
  subst h2 h3
  refine Go.st (S' := s₁.setTop (mkF m 1 #[vr a0, vr a1, vi 0, vi 3, .val .null, .unset] [.ref a0])) (fun _ kk => XS.aloadN X0.here hx rfl (hb hby d3_0) rfl rfl kk) ?_
  obtain ⟨T1, X1, e1, st1⟩ := initO X0 hx hZ hown (ow hw 16 rfl) (ow hw 17 rfl) (ow hw 18 rfl) e0 (g := (mkF m 1 #[vr a0, vr a1, vi 0, vi 3, .val .null, .unset] [.ref a0])) rfl (by rw [hml]; rfl) rfl (hb hby d3_1) (by decide) (W := 0) (oW rfl rfl) (by decide)
  refine Go.st (S' := T1.setTop (mkF m 27 #[vr a0, vr a1, vi 0, vi 3, .val .null, .unset] [])) (fun _ kk => st1 _ (XS.iloadN X1.here hx rfl (hb hby d3_4) rfl (XS.ifYes X1.here hx rfl (pc0 := 5) (pc' := 27) rfl (hb hby d3_5) rfl ((if0 _ _).trans (feq (by decide : ¬ ((3 : Int32) = (0 : Int32)))).2) (by decide) (by decide) kk))) ?_
  obtain ⟨T2, X2, e2, st2⟩ := getS2 X1 hx hZ hown (host := "") (Or.inl (ow hw 41 rfl)) Via.refl e1 S_C (g := (mkF m 27 #[vr a0, vr a1, vi 0, vi 3, .val .null, .unset] [])) rfl (hb hby d3_27)
  refine Go.st (S' := T2.setTop (mkF m 36 #[vr a0, vr a1, vi 0, vi 3, .val .null, .unset] [.int 3, .int 0, .ref a1])) (fun _ kk => st2 _ (XS.ifNo X2.here hx rfl (hb hby d3_30) rfl ((if0 _ _).trans (feq hzc).1) (XS.aloadN X2.here hx rfl (hb hby d3_33) rfl rfl (XS.iloadN X2.here hx rfl (hb hby d3_34) rfl (XS.iloadN X2.here hx rfl (hb hby d3_35) rfl kk))))) ?_
  obtain ⟨_, _, ⟨T3, L3, k3, n3⟩, -, X3, ⟨Lc3, hQ3, l3, y3, z3⟩, st3⟩ := Jvm.LawKit.callS X2 hx (y := mN20) hown (mvT hZ (ow hw 42 rfl)) (mvT hZ (ow hw 43 rfl)) (mvT hZ (ow hw 44 rfl)) (mvT hZ (ow hw 45 rfl)) (by decide) (backOf (W := 0) (rmC3_3_3 l Z az hw [] a1 (0 : Int32) (3 : Int32) zc fm k1 c1 c2 c3 h0 n0 Z0 S_C hzc S_F hfm S_A S_H S_L V_a1 rfl rfl y1 y2 y3 u1 u2 u3) hZ (ow hw 45 rfl) (ow hw 44 rfl) (by decide) (by decide)) (g := (mkF m 36 #[vr a0, vr a1, vi 0, vi 3, .val .null, .unset] [.int 3, .int 0, .ref a1])) rfl (by rw [hml]; rfl) (argsL := [.ref a1, .int 0, .int 3]) (rest := []) (lenOf pd_7 rfl) rfl (oW rfl rfl) (hb hby d3_36) (fun _ _ => ⟨rfl, e2, (by decide : 0 + 2 ≤ _), (by decide : 0 + 9 ≤ _)⟩)
  dsimp only [Pt.U, Pt.locs, Pt.cells, Pt.slots] at X3 l3 y3 z3 st3 hQ3
  subst l3 y3 z3
  obtain ⟨b3, kb3, rfl, N3q, K3, V_b3, E_b3, gb3⟩ := hQ3
  have Ex3 := own_extK K3
  have N3 := Fr.app N0 N3q
  have ne_a0_b3 : a0 ≠ b3 := Nat.ne_of_lt (Nat.lt_of_lt_of_le E_a0.lt gb3)
  have ne_a1_b3 : a1 ≠ b3 := Nat.ne_of_lt (Nat.lt_of_lt_of_le V_a1.lt gb3)
  have g_b3 : n0 ≤ b3 := Nat.le_trans Z0 gb3
  have sz_b3 : h0.size ≤ b3 := Nat.le_trans (Keep.refl h0 [a0]).1 gb3
  have S_C := S_C.ext Ex3
  have S_F := S_F.ext Ex3
  have S_A := S_A.ext Ex3
  have S_H := S_H.ext Ex3
  have S_L := S_L.ext Ex3
  have E_a0 := E_a0.ext Ex3
  have F_coder := F_coder.ext Ex3
  have F_value := F_value.ext Ex3
  have V_a1 := V_a1.ext Ex3
  have Zs4 := Nat.le_trans Z0 Ex3.1
  have Kp5 := (Keep.refl h0 [a0]).ext Ex3
  refine Go.st (S' := T3.setTop (mkF m 45 #[vr a0, vr a1, vi 0, vi 3, .val .null, vr b3] [.int 3, .ref b3, .ref a0])) (fun _ kk => st3 _ (XS.astore X3.here hx rfl (hb hby d3_39) rfl rfl (l' := #[vr a0, vr a1, vi 0, vi 3, .val .null, vr b3]) rfl (XS.aloadN X3.here hx rfl (hb hby d3_41) rfl rfl (XS.aload X3.here hx rfl (hb hby d3_42) rfl rfl (XS.iloadN X3.here hx rfl (hb hby d3_44) rfl kk))))) ?_
  obtain ⟨_, _, ⟨T6, L6, k6, n6⟩, -, X6, ⟨Lc6, hQ6, l6, y6, z6⟩, st6⟩ := Jvm.LawKit.callS X3 hx (y := mN19) hown (mvT hZ (ow hw 49 rfl)) (mvT hZ (ow hw 50 rfl)) (mvT hZ (ow hw 44 rfl)) (mvT hZ (ow hw 51 rfl)) (by decide) (backOf (W := 1) (rmCd_3_0 l Z az hw [] b3 (3 : Int32) kb3 _ T3.heap n0 Zs4 V_b3 rfl) hZ (ow hw 51 rfl) (ow hw 44 rfl) (by decide) (by decide)) (g := (mkF m 45 #[vr a0, vr a1, vi 0, vi 3, .val .null, vr b3] [.int 3, .ref b3, .ref a0])) rfl (by rw [hml]; rfl) (argsL := [.ref b3, .int 3]) (rest := [.ref a0]) (lenOf pd_9 rfl) rfl (oW rfl rfl) (hb hby d3_45) (fun _ _ => ⟨rfl, rfl, (by decide : 2 + 0 ≤ _), (by decide : 9 + 0 ≤ _)⟩)
  dsimp only [Pt.U, Pt.locs, Pt.cells, Pt.slots] at X6 l6 y6 z6 st6 hQ6
  subst l6 y6 z6
  obtain ⟨hv6, N6q, e6⟩ := hQ6
  subst hv6
  have N6 := Fr.app N3 N6q
  refine Go.st (S' := T6.setTop (mkF m 48 #[vr a0, vr a1, vi 0, vi 3, .val .null, vr b3] [.int 0, .ref a0])) st6 ?_
  obtain ⟨T7, h7, X7, e7, W7, st7⟩ := putFN X6 hx hZ hown (ow hw 26 rfl) Via.refl e6 F_coder E_a0 (Or.inr ⟨(ow hw 22 rfl), rfl, hnm⟩) (ow hw 7 rfl) (ty := .byte) (v' := .int (nar .byte (0 : Int32))) (by decide) rfl (fits_nar_byte _) (g := (mkF m 48 #[vr a0, vr a1, vi 0, vi 3, .val .null, vr b3] [.int 0, .ref a0])) rfl rfl (hb hby d3_48)
  have N7 := Fr.snoc X7 N6 g_a0
  have F_coder := F_coder.same W7
  have S_C := S_C.wr W7
  have S_F := S_F.wr W7
  have S_A := S_A.wr W7
  have S_H := S_H.wr W7
  have S_L := S_L.wr W7
  have E_a0 := E_a0.wr W7
  have F_value := F_value.other W7 (Or.inr (slot_ne (Or.inr (ow hw 21 rfl)) (Or.inr (ow hw 22 rfl)) (by decide) (t := (.array .byte)) (t' := .byte) (by decide) (by decide)))
  have V_a1 := V_a1.other W7 (Ne.symm ne)
  have E_b3 := E_b3.wr W7
  have V_b3 := V_b3.other W7 (Ne.symm ne_a0_b3)
  have Zs8 := Nat.le_trans Zs4 (Keep.of_wr W7).1
  have Kp9 := Kp5.wr W7 (Or.inl (List.mem_of_getElem? (i := 0) rfl))
  refine Go.st (S' := T7.setTop (mkF m 54 #[vr a0, vr a1, vi 0, vi 3, .val .null, vr b3] [.ref b3, .ref a0])) (fun _ kk => st7 _ (XS.aloadN X7.here hx rfl (hb hby d3_51) rfl rfl (XS.aload X7.here hx rfl (hb hby d3_52) rfl rfl kk))) ?_
  obtain ⟨T10, h10, X10, e10, W10, st10⟩ := putF X7 hx hZ hown (host := "") (Or.inl (ow hw 25 rfl)) Via.refl e7 F_value E_a0 (Or.inr ⟨(ow hw 21 rfl), rfl, hnm⟩) (ow hw 7 rfl) (ty := (.array .byte)) (by decide) rfl rfl (g := (mkF m 54 #[vr a0, vr a1, vi 0, vi 3, .val .null, vr b3] [.ref b3, .ref a0])) rfl rfl (hb hby d3_54)
  have N10 := Fr.snoc X10 N7 g_a0
  have F_value := F_value.same W10
  have S_C := S_C.wr W10
  have S_F := S_F.wr W10
  have S_A := S_A.wr W10
  have S_H := S_H.wr W10
  have S_L := S_L.wr W10
  have E_a0 := E_a0.wr W10
  have F_coder := F_coder.other W10 (Or.inr (slot_ne (Or.inr (ow hw 22 rfl)) (Or.inr (ow hw 21 rfl)) (by decide) (t := .byte) (t' := (.array .byte)) (by decide) (by decide)))
  have V_a1 := V_a1.other W10 (Ne.symm ne)
  have E_b3 := E_b3.wr W10
  have V_b3 := V_b3.other W10 (Ne.symm ne_a0_b3)
  have Zs11 := Nat.le_trans Zs8 (Keep.of_wr W10).1
  have Kp12 := Kp9.wr W10 (Or.inl (List.mem_of_getElem? (i := 0) rfl))
  refine Go.st (S' := T10.setTop (mkF m 57 #[vr a0, vr a1, vi 0, vi 3, .val .null, vr b3] [])) st10 ?_
  exact Go.ret0 X10 hx hlk Bd.returns (hb hby d3_57) (by rw [e10]; exact ⟨rfl, N10, Kp12, E_a0, _, _, _, _, (([c1, c2, c3] : List Int32).map own_lo8), F_coder, F_value, V_b3, Or.inl ⟨rfl, rfl, rfl, (List.forall_mem_cons.mpr ⟨own_sm y1 u1, (List.forall_mem_cons.mpr ⟨own_sm y2 u2, (List.forall_mem_cons.mpr ⟨own_sm y3 u3, (fun _ hx => nomatch hx)⟩)⟩)⟩)⟩⟩) (by decide) (by decide)
theorem rmI1_3 (l : Launch) (Z : State) (az : Array Value) (hw : HW az Z) (ws : List Jvm.Cond) (a0 : Addr) (a1 : Addr) (zc : Int32) (fm : Value) (k1 : ClassId) (c1 : Int32) (c2 : Int32) (c3 : Int32) (h0 : Heap) (n0 : Nat) (Z0 : n0 ≤ h0.size) (S_C : tS0 Z h0 (.int zc)) (hzc : ¬ zc = 0) (S_F : tS1 Z h0 fm) (hfm : fm.isRef = true) (S_A : tS2 Z h0 (.int 1)) (S_H : tS3 Z h0 (.int 0)) (S_L : tS4 Z h0 (.int 8)) (E_a0 : Exa Z h0 a0 "java/lang/String") (F_coder : tF0 Z h0 a0 (.int 0)) (F_value : tF1 Z h0 a0 .null) (g_a0 : n0 ≤ a0) (ne : a0 ≠ a1) (V_a1 : Arv Z h0 a1 k1 .char (3 : Int32) [(.int c1), (.int c2), (.int c3)] (.int 0)) (y1 : 0 ≤ c1.toInt ∧ c1.toInt ≤ 65535) (y2 : 0 ≤ c2.toInt ∧ c2.toInt ≤ 65535) (y3 : 0 ≤ c3.toInt ∧ c3.toInt ≤ 65535) :
    MF l mN9 (Jvm.Cond.code mN9 jdk_42_method_3_code 2 none :: ws) (rO 5 2 9 74) #[(.ref a0), (.ref a1)] Z h0 (Q_in_3 Z a0 c1 c2 c3 h0 n0) := by
  refine MetFree.of_bodySF (plainFor_of_name pn_1) hisR ?_
  intro p e s m args below meth c s₁ Bd hml0 hP hK
  obtain ⟨rfl, hZ, hh⟩ := hP
  have hx := Bd.exec
  have hby := Bd.bytes
  have hlk : meth.locks = false := Bd.notSynchronized
  have hml : c.maxLocals = 2 := hml0
  have hown : s.vm.findClass "java/lang/String" = some m.cls := findClass_of_methodNamed Bd.named
  have X0 : Stand p l e (rO 5 2 9 74) s m #[(.ref a0), (.ref a1)] below meth c s₁ [] 0 0 := Stand.of_body Bd
  have e0 : s₁.heap = h0 := by rw [← hh, Bd.state]; rfl
  have N0 := Fr.nil n0
  show Go p e below s ((Q_in_3 Z a0 c1 c2 c3 h0 n0)) (rO 5 2 9 74).cells (rO 5 2 9 74).slots (s₁.setTop (entryFrame m #[(.ref a0), (.ref a1)] 2))
  rw [ef_2 m a0 a1]
  refine Go.st (S' := s₁.setTop (mkF m 4 #[vr a0, vr a1] [.ref a1, .int 0, .ref a1, .ref a0])) (fun _ kk => XS.aloadN X0.here hx rfl (hb hby d2_0) rfl rfl (XS.aloadN X0.here hx rfl (hb hby d2_1) rfl rfl (XS.iconst X0.here hx rfl (hb hby d2_2) (XS.aloadN X0.here hx rfl (hb hby d2_3) rfl rfl kk)))) ?_
  obtain ⟨cl1, Ar1, -, S1, Ng1, -, -⟩ := (id V_a1)
  refine Go.st (S' := s₁.setTop (mkF m 5 #[vr a0, vr a1] [.int 3, .int 0, .ref a1, .ref a0])) (fun _ kk => X0.arraylength hx (by rw [e0]; exact Ar1.1) (State.isArrayOf_alike hZ.alike Ar1.2.1) (g := (mkF m 4 #[vr a0, vr a1] [.ref a1, .int 0, .ref a1, .ref a0])) rfl rfl (hb hby d2_4) _ (by rw [len_of S1 Ng1]; exact kk)) ?_
  refine Go.st (S' := s₁.setTop (mkF m 6 #[vr a0, vr a1] [.null, .int 3, .int 0, .ref a1, .ref a0])) (fun _ kk => XS.aconstNull X0.here hx rfl (hb hby d2_5) kk) ?_
  by_cases hc2 : (255 : Int32) < c1
  · obtain ⟨_, _, ⟨T3, L3, k3, n3⟩, -, X3, ⟨Lc3, hQ3, l3, y3, z3⟩, st3⟩ := X0.specialBack hx (y := mN10) rfl hown (mvT hZ (ow hw 12 rfl)) (mvT hZ (ow hw 13 rfl)) (mvT hZ (ow hw 15 rfl)) (by decide) (backOf (W := 0) (rmI5_3_0 l Z az hw [] a0 a1 (0 : Int32) (3 : Int32) zc fm k1 c1 c2 c3 h0 n0 Z0 S_C hzc S_F hfm S_A S_H S_L E_a0 F_coder F_value g_a0 ne V_a1 rfl rfl y1 y2 y3 hc2) hZ (ow hw 15 rfl) (ow hw 8 rfl) (by decide) (by decide)) (g := (mkF m 6 #[vr a0, vr a1] [.null, .int 3, .int 0, .ref a1, .ref a0])) rfl (by rw [hml]; rfl) (Steps.refl _) (a := a0) (argsL := [.ref a1, .int 0, .int 3, .null]) (rest := []) (lenOf pd_2 rfl) rfl (oW rfl rfl) (hb hby d2_6) (fun _ _ => ⟨rfl, e0, (by decide : 0 + 2 ≤ _), (by decide : 0 + 9 ≤ _)⟩)
    dsimp only [Pt.U, Pt.locs, Pt.cells, Pt.slots] at X3 l3 y3 z3 st3 hQ3
    subst l3 y3 z3
    obtain ⟨rfl, N3q, K3, CS3⟩ := hQ3
    have N3 := Fr.app N0 N3q
    have S_C := own_stak K3 (allS (P := fun x => ∀ cell : Cell, (h0)[x]? = some cell → cell.vm.isStatics = false) (Exa.nostat E_a0) all0) S_C
    have S_F := own_stak K3 (allS (P := fun x => ∀ cell : Cell, (h0)[x]? = some cell → cell.vm.isStatics = false) (Exa.nostat E_a0) all0) S_F
    have S_A := own_stak K3 (allS (P := fun x => ∀ cell : Cell, (h0)[x]? = some cell → cell.vm.isStatics = false) (Exa.nostat E_a0) all0) S_A
    have S_H := own_stak K3 (allS (P := fun x => ∀ cell : Cell, (h0)[x]? = some cell → cell.vm.isStatics = false) (Exa.nostat E_a0) all0) S_H
    have S_L := own_stak K3 (allS (P := fun x => ∀ cell : Cell, (h0)[x]? = some cell → cell.vm.isStatics = false) (Exa.nostat E_a0) all0) S_L
    have E_a0 := E_a0.keep K3
    have V_a1 := V_a1.keep K3 (ninS (Ne.symm ne) nin0)
    have Zs4 := Nat.le_trans Z0 K3.1
    have Kp5 := (Keep.refl h0 [a0]).trans K3 (allS (Or.inl (List.mem_of_getElem? (i := 0) rfl)) all0)
    have Ec3 := CS3.1
    refine Go.tr (S' := T3.setTop (mkF m 9 #[vr a0, vr a1] [])) st3 ?_
    exact Go.ret0 X3 hx hlk Bd.returns (hb hby d2_9) (by exact ⟨rfl, N3, Kp5, CS3⟩) (by decide) (by decide)
  · by_cases hc6 : (255 : Int32) < c2
    · obtain ⟨_, _, ⟨T7, L7, k7, n7⟩, -, X7, ⟨Lc7, hQ7, l7, y7, z7⟩, st7⟩ := X0.specialBack hx (y := mN10) rfl hown (mvT hZ (ow hw 12 rfl)) (mvT hZ (ow hw 13 rfl)) (mvT hZ (ow hw 15 rfl)) (by decide) (backOf (W := 0) (rmI5_3_1 l Z az hw [] a0 a1 (0 : Int32) (3 : Int32) zc fm k1 c1 c2 c3 h0 n0 Z0 S_C hzc S_F hfm S_A S_H S_L E_a0 F_coder F_value g_a0 ne V_a1 rfl rfl y1 y2 y3 hc2 hc6) hZ (ow hw 15 rfl) (ow hw 8 rfl) (by decide) (by decide)) (g := (mkF m 6 #[vr a0, vr a1] [.null, .int 3, .int 0, .ref a1, .ref a0])) rfl (by rw [hml]; rfl) (Steps.refl _) (a := a0) (argsL := [.ref a1, .int 0, .int 3, .null]) (rest := []) (lenOf pd_2 rfl) rfl (oW rfl rfl) (hb hby d2_6) (fun _ _ => ⟨rfl, e0, (by decide : 0 + 2 ≤ _), (by decide : 0 + 9 ≤ _)⟩)
      dsimp only [Pt.U, Pt.locs, Pt.cells, Pt.slots] at X7 l7 y7 z7 st7 hQ7
      subst l7 y7 z7
      obtain ⟨rfl, N7q, K7, CS7⟩ := hQ7
      have N7 := Fr.app N0 N7q
      have S_C := own_stak K7 (allS (P := fun x => ∀ cell : Cell, (h0)[x]? = some cell → cell.vm.isStatics = false) (Exa.nostat E_a0) all0) S_C
      have S_F := own_stak K7 (allS (P := fun x => ∀ cell : Cell, (h0)[x]? = some cell → cell.vm.isStatics = false) (Exa.nostat E_a0) all0) S_F
      have S_A := own_stak K7 (allS (P := fun x => ∀ cell : Cell, (h0)[x]? = some cell → cell.vm.isStatics = false) (Exa.nostat E_a0) all0) S_A
      have S_H := own_stak K7 (allS (P := fun x => ∀ cell : Cell, (h0)[x]? = some cell → cell.vm.isStatics = false) (Exa.nostat E_a0) all0) S_H
      have S_L := own_stak K7 (allS (P := fun x => ∀ cell : Cell, (h0)[x]? = some cell → cell.vm.isStatics = false) (Exa.nostat E_a0) all0) S_L
      have E_a0 := E_a0.keep K7
      have V_a1 := V_a1.keep K7 (ninS (Ne.symm ne) nin0)
      have Zs8 := Nat.le_trans Z0 K7.1
      have Kp9 := (Keep.refl h0 [a0]).trans K7 (allS (Or.inl (List.mem_of_getElem? (i := 0) rfl)) all0)
      have Ec7 := CS7.1
      refine Go.tr (S' := T7.setTop (mkF m 9 #[vr a0, vr a1] [])) st7 ?_
      exact Go.ret0 X7 hx hlk Bd.returns (hb hby d2_9) (by exact ⟨rfl, N7, Kp9, CS7⟩) (by decide) (by decide)
    · by_cases hc10 : (255 : Int32) < c3
      · obtain ⟨_, _, ⟨T11, L11, k11, n11⟩, -, X11, ⟨Lc11, hQ11, l11, y11, z11⟩, st11⟩ := X0.specialBack hx (y := mN10) rfl hown (mvT hZ (ow hw 12 rfl)) (mvT hZ (ow hw 13 rfl)) (mvT hZ (ow hw 15 rfl)) (by decide) (backOf (W := 0) (rmI5_3_2 l Z az hw [] a0 a1 (0 : Int32) (3 : Int32) zc fm k1 c1 c2 c3 h0 n0 Z0 S_C hzc S_F hfm S_A S_H S_L E_a0 F_coder F_value g_a0 ne V_a1 rfl rfl y1 y2 y3 hc2 hc6 hc10) hZ (ow hw 15 rfl) (ow hw 8 rfl) (by decide) (by decide)) (g := (mkF m 6 #[vr a0, vr a1] [.null, .int 3, .int 0, .ref a1, .ref a0])) rfl (by rw [hml]; rfl) (Steps.refl _) (a := a0) (argsL := [.ref a1, .int 0, .int 3, .null]) (rest := []) (lenOf pd_2 rfl) rfl (oW rfl rfl) (hb hby d2_6) (fun _ _ => ⟨rfl, e0, (by decide : 0 + 2 ≤ _), (by decide : 0 + 9 ≤ _)⟩)
        dsimp only [Pt.U, Pt.locs, Pt.cells, Pt.slots] at X11 l11 y11 z11 st11 hQ11
        subst l11 y11 z11
        obtain ⟨rfl, N11q, K11, CS11⟩ := hQ11
        have N11 := Fr.app N0 N11q
        have S_C := own_stak K11 (allS (P := fun x => ∀ cell : Cell, (h0)[x]? = some cell → cell.vm.isStatics = false) (Exa.nostat E_a0) all0) S_C
        have S_F := own_stak K11 (allS (P := fun x => ∀ cell : Cell, (h0)[x]? = some cell → cell.vm.isStatics = false) (Exa.nostat E_a0) all0) S_F
        have S_A := own_stak K11 (allS (P := fun x => ∀ cell : Cell, (h0)[x]? = some cell → cell.vm.isStatics = false) (Exa.nostat E_a0) all0) S_A
        have S_H := own_stak K11 (allS (P := fun x => ∀ cell : Cell, (h0)[x]? = some cell → cell.vm.isStatics = false) (Exa.nostat E_a0) all0) S_H
        have S_L := own_stak K11 (allS (P := fun x => ∀ cell : Cell, (h0)[x]? = some cell → cell.vm.isStatics = false) (Exa.nostat E_a0) all0) S_L
        have E_a0 := E_a0.keep K11
        have V_a1 := V_a1.keep K11 (ninS (Ne.symm ne) nin0)
        have Zs12 := Nat.le_trans Z0 K11.1
        have Kp13 := (Keep.refl h0 [a0]).trans K11 (allS (Or.inl (List.mem_of_getElem? (i := 0) rfl)) all0)
        have Ec11 := CS11.1
        refine Go.tr (S' := T11.setTop (mkF m 9 #[vr a0, vr a1] [])) st11 ?_
        exact Go.ret0 X11 hx hlk Bd.returns (hb hby d2_9) (by exact ⟨rfl, N11, Kp13, CS11⟩) (by decide) (by decide)
      · obtain ⟨_, _, ⟨T14, L14, k14, n14⟩, -, X14, ⟨Lc14, hQ14, l14, y14, z14⟩, st14⟩ := X0.specialBack hx (y := mN10) rfl hown (mvT hZ (ow hw 12 rfl)) (mvT hZ (ow hw 13 rfl)) (mvT hZ (ow hw 15 rfl)) (by decide) (backOf (W := 0) (rmI5_3_3 l Z az hw [] a0 a1 (0 : Int32) (3 : Int32) zc fm k1 c1 c2 c3 h0 n0 Z0 S_C hzc S_F hfm S_A S_H S_L E_a0 F_coder F_value g_a0 ne V_a1 rfl rfl y1 y2 y3 hc2 hc6 hc10) hZ (ow hw 15 rfl) (ow hw 8 rfl) (by decide) (by decide)) (g := (mkF m 6 #[vr a0, vr a1] [.null, .int 3, .int 0, .ref a1, .ref a0])) rfl (by rw [hml]; rfl) (Steps.refl _) (a := a0) (argsL := [.ref a1, .int 0, .int 3, .null]) (rest := []) (lenOf pd_2 rfl) rfl (oW rfl rfl) (hb hby d2_6) (fun _ _ => ⟨rfl, e0, (by decide : 0 + 2 ≤ _), (by decide : 0 + 9 ≤ _)⟩)
        dsimp only [Pt.U, Pt.locs, Pt.cells, Pt.slots] at X14 l14 y14 z14 st14 hQ14
        subst l14 y14 z14
        obtain ⟨rfl, N14q, K14, CS14⟩ := hQ14
        have N14 := Fr.app N0 N14q
        have S_C := own_stak K14 (allS (P := fun x => ∀ cell : Cell, (h0)[x]? = some cell → cell.vm.isStatics = false) (Exa.nostat E_a0) all0) S_C
        have S_F := own_stak K14 (allS (P := fun x => ∀ cell : Cell, (h0)[x]? = some cell → cell.vm.isStatics = false) (Exa.nostat E_a0) all0) S_F
        have S_A := own_stak K14 (allS (P := fun x => ∀ cell : Cell, (h0)[x]? = some cell → cell.vm.isStatics = false) (Exa.nostat E_a0) all0) S_A
        have S_H := own_stak K14 (allS (P := fun x => ∀ cell : Cell, (h0)[x]? = some cell → cell.vm.isStatics = false) (Exa.nostat E_a0) all0) S_H
        have S_L := own_stak K14 (allS (P := fun x => ∀ cell : Cell, (h0)[x]? = some cell → cell.vm.isStatics = false) (Exa.nostat E_a0) all0) S_L
        have E_a0 := E_a0.keep K14
        have V_a1 := V_a1.keep K14 (ninS (Ne.symm ne) nin0)
        have Zs15 := Nat.le_trans Z0 K14.1
        have Kp16 := (Keep.refl h0 [a0]).trans K14 (allS (Or.inl (List.mem_of_getElem? (i := 0) rfl)) all0)
        have Ec14 := CS14.1
        refine Go.tr (S' := T14.setTop (mkF m 9 #[vr a0, vr a1] [])) st14 ?_
        exact Go.ret0 X14 hx hlk Bd.returns (hb hby d2_9) (by exact ⟨rfl, N14, Kp16, CS14⟩) (by decide) (by decide)
def Q_nf_4 (Z : State)  (h0 : Heap) (n0 : Nat) (v : Option Value) (h : Heap) (L : List Loc) : Prop := ∃ (b : Addr) (k : ClassId), v = some (.ref b) ∧ Fr n0 L ∧ Keep h0 h [] ∧ Arv Z h b k .byte (8 : Int32) [(.int 0), (.int 0), (.int 0), (.int 0), (.int 0), (.int 0), (.int 0), (.int 0)] (.int 0) ∧ Exa Z h b "[B" ∧ h0.size ≤ b
theorem rmNF_4 (l : Launch) (Z : State) (az : Array Value) (hw : HW az Z) (ws : List Jvm.Cond) (p0 : Int32)  (h0 : Heap) (n0 : Nat) (Z0 : n0 ≤ h0.size) (h1 : p0 = (4 : Int32)) :
    MF l mN24 (Jvm.Cond.code mN24 jdk_52_method_2_code 1 (some (.array .byte)) :: ws) (rO 1 1 8 12) #[(.int p0)] Z h0 (Q_nf_4 Z h0 n0) := by
  refine MetFree.of_bodySF (plainFor_of_name pn_3) hisR ?_
  intro p e s m args below meth c s₁ Bd hml0 hP hK
  obtain ⟨rfl, hZ, hh⟩ := hP
  have hx := Bd.exec
  have hby := Bd.bytes
  have hlk : meth.locks = false := Bd.notSynchronized
  have hml : c.maxLocals = 1 := hml0
  have hown : s.vm.findClass "java/lang/StringUTF16" = some m.cls := findClass_of_methodNamed Bd.named
  have X0 : Stand p l e (rO 1 1 8 12) s m #[(.int p0)] below meth c s₁ [] 0 0 := Stand.of_body Bd
  have e0 : s₁.heap = h0 := by rw [← hh, Bd.state]; rfl
  have N0 := Fr.nil n0
  show Go p e below s ((Q_nf_4 Z h0 n0)) (rO 1 1 8 12).cells (rO 1 1 8 12).slots (s₁.setTop (entryFrame m #[(.int p0)] 1))
  rw [ef_23 m p0]
  subst h1
  refine Go.st (S' := s₁.setTop (mkF m 1 #[vi 4] [.int 4])) (fun _ kk => XS.iloadN X0.here hx rfl (hb hby d23_0) rfl kk) ?_
  obtain ⟨_, _, ⟨T1, L1, k1, n1⟩, -, X1, ⟨Lc1, hQ1, l1, y1, z1⟩, st1⟩ := Jvm.LawKit.callS X0 hx (y := mN25) hown (mvT hZ (ow hw 102 rfl)) (mvT hZ (ow hw 103 rfl)) (mvT hZ (ow hw 44 rfl)) (mvT hZ (ow hw 104 rfl)) (by decide) (backOf (W := 0) (rmNL l Z az hw [] (4 : Int32) h0 n0 Z0 (by decide) (by decide)) hZ (ow hw 104 rfl) (ow hw 44 rfl) (by decide) (by decide)) (g := (mkF m 1 #[vi 4] [.int 4])) rfl (by rw [hml]; rfl) (argsL := [.int 4]) (rest := []) (lenOf pd_18 rfl) rfl (oW rfl rfl) (hb hby d23_1) (fun _ _ => ⟨rfl, e0, (by decide : 0 + 0 ≤ _), (by decide : 0 + 0 ≤ _)⟩)
  dsimp only [Pt.U, Pt.locs, Pt.cells, Pt.slots] at X1 l1 y1 z1 st1 hQ1
  subst l1 y1 z1
  obtain ⟨hv1, N1q, e1⟩ := hQ1
  subst hv1
  have N1 := Fr.app N0 N1q
  refine Go.st (S' := T1.setTop (mkF m 4 #[vi 4] [.int ((4 : Int32) <<< ((1 : Int32) &&& 31))])) st1 ?_
  rw [show ((4 : Int32) <<< ((1 : Int32) &&& 31)) = (8 : Int32) from by decide]
  obtain ⟨T2, h2, k2, X2, e2, E2, A2, E_b2, st2⟩ := newPE X1 hx hZ (ow hw 20 rfl) e1 (g := (mkF m 4 #[vi 4] [.int 8])) rfl (hb hby d23_4) rfl (by decide) (cap := 8) (by decide) (by decide) (by decide : 0 + 1 ≤ _) (by decide : 0 + 8 ≤ _) (ad := "[B") rfl
  obtain ⟨b2, g2⟩ : ∃ z, z = h0.size := ⟨_, rfl⟩
  rw [← g2] at A2 E_b2 st2
  have g_b2 : n0 ≤ b2 := Nat.le_trans Z0 (Nat.le_of_eq g2.symm)
  have sz_b2 : h0.size ≤ b2 := Nat.le_trans (Keep.refl h0 []).1 (Nat.le_of_eq g2.symm)
  have Zs3 := Nat.le_trans Z0 E2.1
  have Kp4 := (Keep.refl h0 []).ext E2
  have V_b2 : Arv Z h2 b2 k2 .byte (8 : Int32) [(.int 0), (.int 0), (.int 0), (.int 0), (.int 0), (.int 0), (.int 0), (.int 0)] (.int 0) := (Arv.new A2 (by decide)).pad (pad_rep [] (.int 0) 8)
  refine Go.st (S' := T2.setTop (mkF m 6 #[vi 4] [.ref b2])) st2 ?_
  exact Go.retA X2 hx hlk Bd.returns rfl rfl (hb hby d23_6) (by rw [e2]; exact ⟨_, _, rfl, N1, Kp4, V_b2, E_b2, sz_b2⟩) (by decide) (by decide)
def Q_pc_4_0 (Z : State) (a0 : Addr) (k0 : ClassId) (p2 : Int32) (eb1 : Int32) (eb2 : Int32) (eb3 : Int32) (eb4 : Int32) (eb5 : Int32) (eb6 : Int32) (eb7 : Int32) (eb8 : Int32) (h0 : Heap) (n0 : Nat) (v : Option Value) (h : Heap) (L : List Loc) : Prop := v = none ∧ Fr n0 L ∧ Keep h0 h [a0] ∧ Arv Z h a0 k0 .byte (8 : Int32) [(.int (((p2 >>> ((0 : Int32) &&& 31)).toInt8.toInt32).toInt8.toInt32)), (.int (((p2 >>> ((8 : Int32) &&& 31)).toInt8.toInt32).toInt8.toInt32)), (.int eb3), (.int eb4), (.int eb5), (.int eb6), (.int eb7), (.int eb8)] (.int 0)
theorem rmPC_4_0 (l : Launch) (Z : State) (az : Array Value) (hw : HW az Z) (ws : List Jvm.Cond) (a0 : Addr) (p1 : Int32) (p2 : Int32) (zc : Int32) (fm : Value) (k0 : ClassId) (eb1 : Int32) (eb2 : Int32) (eb3 : Int32) (eb4 : Int32) (eb5 : Int32) (eb6 : Int32) (eb7 : Int32) (eb8 : Int32) (h0 : Heap) (n0 : Nat) (Z0 : n0 ≤ h0.size) (S_C : tS0 Z h0 (.int zc)) (hzc : ¬ zc = 0) (S_F : tS1 Z h0 fm) (hfm : fm.isRef = true) (S_A : tS2 Z h0 (.int 1)) (S_H : tS3 Z h0 (.int 0)) (S_L : tS4 Z h0 (.int 8)) (V_a0 : Arv Z h0 a0 k0 .byte (8 : Int32) [(.int eb1), (.int eb2), (.int eb3), (.int eb4), (.int eb5), (.int eb6), (.int eb7), (.int eb8)] (.int 0)) (E_a0 : Exa Z h0 a0 "[B") (g_a0 : n0 ≤ a0) (h1 : p1 = (0 : Int32)) :
    MF l mN26 (Jvm.Cond.code mN26 jdk_52_method_4_code 3 none :: ws) (rO 0 0 0 0) #[(.ref a0), (.int p1), (.int p2)] Z h0 (Q_pc_4_0 Z a0 k0 p2 eb1 eb2 eb3 eb4 eb5 eb6 eb7 eb8 h0 n0) := by
  refine MetFree.of_bodySF (plainFor_of_name pn_3) hisR ?_
  intro p e s m args below meth c s₁ Bd hml0 hP hK
  obtain ⟨rfl, hZ, hh⟩ := hP
  have hx := Bd.exec
  have hby := Bd.bytes
  have hlk : meth.locks = false := Bd.notSynchronized
  have hml : c.maxLocals = 3 := hml0
  have hown : s.vm.findClass "java/lang/StringUTF16" = some m.cls := findClass_of_methodNamed Bd.named
  have X0 : Stand p l e (rO 0 0 0 0) s m #[(.ref a0), (.int p1), (.int p2)] below meth c s₁ [] 0 0 := Stand.of_body Bd
  have e0 : s₁.heap = h0 := by rw [← hh, Bd.state]; rfl
  have N0 := Fr.nil n0
  show Go p e below s ((Q_pc_4_0 Z a0 k0 p2 eb1 eb2 eb3 eb4 eb5 eb6 eb7 eb8 h0 n0)) (rO 0 0 0 0).cells (rO 0 0 0 0).slots (s₁.setTop (entryFrame m #[(.ref a0), (.int p1), (.int p2)] 3))
  rw [ef_25 m a0 p1 p2]
  subst h1
  obtain ⟨T1, X1, e1, st1⟩ := getS2 X0 hx hZ hown (host := "") (Or.inl (ow hw 109 rfl)) Via.refl e0 S_A (g := (mkF m 0 #[vr a0, vi 0, vi p2] [])) rfl (hb hby d25_0)
  refine Go.st (S' := T1.setTop (mkF m 31 #[vr a0, vi 0, vi p2] [.int ((0 : Int32) <<< ((1 : Int32) &&& 31))])) (fun _ kk => st1 _ (XS.ifYes X1.here hx rfl (pc0 := 3) (pc' := 28) rfl (hb hby d25_3) rfl ((if0 _ _).trans (feq (by decide : ¬ ((1 : Int32) = (0 : Int32)))).2) (by decide) (by decide) (XS.iloadN X1.here hx rfl (hb hby d25_28) rfl (XS.iconst X1.here hx rfl (hb hby d25_29) (XS.ishl X1.here hx rfl (hb hby d25_30) rfl kk))))) ?_
  rw [show ((0 : Int32) <<< ((1 : Int32) &&& 31)) = (0 : Int32) from by decide]
  refine Go.st (S' := T1.setTop (mkF m 38 #[vr a0, vi 1, vi p2] [.int p2, .int 0, .ref a0])) (fun _ kk => XS.istoreN X1.here hx rfl (hb hby d25_31) rfl (l' := #[vr a0, vi 0, vi p2]) rfl (XS.aloadN X1.here hx rfl (hb hby d25_32) rfl rfl (XS.iloadN X1.here hx rfl (hb hby d25_33) rfl (XS.iinc X1.here hx rfl (hb hby d25_34) rfl (l' := #[vr a0, vi 1, vi p2]) rfl (XS.iloadN X1.here hx rfl (hb hby d25_37) rfl kk))))) ?_
  obtain ⟨T2, X2, e2, st2⟩ := getS2 X1 hx hZ hown (host := "") (Or.inl (ow hw 110 rfl)) Via.refl e1 S_H (g := (mkF m 38 #[vr a0, vi 1, vi p2] [.int p2, .int 0, .ref a0])) rfl (hb hby d25_38)
  refine Go.st (S' := T2.setTop (mkF m 43 #[vr a0, vi 1, vi p2] [.int ((p2 >>> ((0 : Int32) &&& 31)).toInt8.toInt32), .int 0, .ref a0])) (fun _ kk => st2 _ (XS.ishr X2.here hx rfl (hb hby d25_41) rfl (XS.i2b X2.here hx rfl (hb hby d25_42) rfl kk))) ?_
  obtain ⟨cl3, Ar3, qk3, S3, Ng3, H3, G3⟩ := (id V_a0)
  have hin3 : ¬ ((0 : Int32) < 0 ∨ cl3.slots.size ≤ ((0 : Int32)).toNatClampNeg) := inb_of S3 ⟨by decide, by decide⟩
  obtain ⟨T3, h3, X3, e3, W3, st3⟩ := stB X2 hx hZ e2 Ar3 (j := (0 : Int32)) hin3 (g := (mkF m 43 #[vr a0, vi 1, vi p2] [.int ((p2 >>> ((0 : Int32) &&& 31)).toInt8.toInt32), .int 0, .ref a0])) rfl rfl (hb hby d25_43)
  have V_a0 : Arv Z h3 a0 k0 .byte (8 : Int32) [(.int (((p2 >>> ((0 : Int32) &&& 31)).toInt8.toInt32).toInt8.toInt32)), (.int eb2), (.int eb3), (.int eb4), (.int eb5), (.int eb6), (.int eb7), (.int eb8)] (.int 0) := Arv.set Ar3 qk3 S3 Ng3 H3 G3 (fits_nar_byte _) W3 0 rfl (Nat.le_of_ble_eq_true rfl)
  have N3 := Fr.snoc X3 N0 g_a0
  have S_C := S_C.wr W3
  have S_F := S_F.wr W3
  have S_A := S_A.wr W3
  have S_H := S_H.wr W3
  have S_L := S_L.wr W3
  have E_a0 := E_a0.wr W3
  have Zs4 := Nat.le_trans Z0 (Keep.of_wr W3).1
  have Kp5 := (Keep.refl h0 [a0]).wr W3 (Or.inl (List.mem_of_getElem? (i := 0) rfl))
  refine Go.st (S' := T3.setTop (mkF m 47 #[vr a0, vi 1, vi p2] [.int p2, .int 1, .ref a0])) (fun _ kk => st3 _ (XS.aloadN X3.here hx rfl (hb hby d25_44) rfl rfl (XS.iloadN X3.here hx rfl (hb hby d25_45) rfl (XS.iloadN X3.here hx rfl (hb hby d25_46) rfl kk)))) ?_
  obtain ⟨T6, X6, e6, st6⟩ := getS2 X3 hx hZ hown (host := "") (Or.inl (ow hw 111 rfl)) Via.refl e3 S_L (g := (mkF m 47 #[vr a0, vi 1, vi p2] [.int p2, .int 1, .ref a0])) rfl (hb hby d25_47)
  refine Go.st (S' := T6.setTop (mkF m 52 #[vr a0, vi 1, vi p2] [.int ((p2 >>> ((8 : Int32) &&& 31)).toInt8.toInt32), .int 1, .ref a0])) (fun _ kk => st6 _ (XS.ishr X6.here hx rfl (hb hby d25_50) rfl (XS.i2b X6.here hx rfl (hb hby d25_51) rfl kk))) ?_
  obtain ⟨cl7, Ar7, qk7, S7, Ng7, H7, G7⟩ := (id V_a0)
  have hin7 : ¬ ((1 : Int32) < 0 ∨ cl7.slots.size ≤ ((1 : Int32)).toNatClampNeg) := inb_of S7 ⟨by decide, by decide⟩
  obtain ⟨T7, h7, X7, e7, W7, st7⟩ := stB X6 hx hZ e6 Ar7 (j := (1 : Int32)) hin7 (g := (mkF m 52 #[vr a0, vi 1, vi p2] [.int ((p2 >>> ((8 : Int32) &&& 31)).toInt8.toInt32), .int 1, .ref a0])) rfl rfl (hb hby d25_52)
  have V_a0 : Arv Z h7 a0 k0 .byte (8 : Int32) [(.int (((p2 >>> ((0 : Int32) &&& 31)).toInt8.toInt32).toInt8.toInt32)), (.int (((p2 >>> ((8 : Int32) &&& 31)).toInt8.toInt32).toInt8.toInt32)), (.int eb3), (.int eb4), (.int eb5), (.int eb6), (.int eb7), (.int eb8)] (.int 0) := Arv.set Ar7 qk7 S7 Ng7 H7 G7 (fits_nar_byte _) W7 1 rfl (Nat.le_of_ble_eq_true rfl)
  have N7 := Fr.snoc X7 N3 g_a0
  have S_C := S_C.wr W7
  have S_F := S_F.wr W7
  have S_A := S_A.wr W7
  have S_H := S_H.wr W7
  have S_L := S_L.wr W7
  have E_a0 := E_a0.wr W7
  have Zs8 := Nat.le_trans Zs4 (Keep.of_wr W7).1
  have Kp9 := Kp5.wr W7 (Or.inl (List.mem_of_getElem? (i := 0) rfl))
  refine Go.st (S' := T7.setTop (mkF m 53 #[vr a0, vi 1, vi p2] [])) st7 ?_
  exact Go.ret0 X7 hx hlk Bd.returns (hb hby d25_53) (by rw [e7]; exact ⟨rfl, N7, Kp9, V_a0⟩) (by decide) (by decide)
def Q_pc_4_1 (Z : State) (a0 : Addr) (k0 : ClassId) (p2 : Int32) (eb1 : Int32) (eb2 : Int32) (eb3 : Int32) (eb4 : Int32) (eb5 : Int32) (eb6 : Int32) (eb7 : Int32) (eb8 : Int32) (h0 : Heap) (n0 : Nat) (v : Option Value) (h : Heap) (L : List Loc) : Prop := v = none ∧ Fr n0 L ∧ Keep h0 h [a0] ∧ Arv Z h a0 k0 .byte (8 : Int32) [(.int eb1), (.int eb2), (.int (((p2 >>> ((0 : Int32) &&& 31)).toInt8.toInt32).toInt8.toInt32)), (.int (((p2 >>> ((8 : Int32) &&& 31)).toInt8.toInt32).toInt8.toInt32)), (.int eb5), (.int eb6), (.int eb7), (.int eb8)] (.int 0)
theorem rmPC_4_1 (l : Launch) (Z : State) (az : Array Value) (hw : HW az Z) (ws : List Jvm.Cond) (a0 : Addr) (p1 : Int32) (p2 : Int32) (zc : Int32) (fm : Value) (k0 : ClassId) (eb1 : Int32) (eb2 : Int32) (eb3 : Int32) (eb4 : Int32) (eb5 : Int32) (eb6 : Int32) (eb7 : Int32) (eb8 : Int32) (h0 : Heap) (n0 : Nat) (Z0 : n0 ≤ h0.size) (S_C : tS0 Z h0 (.int zc)) (hzc : ¬ zc = 0) (S_F : tS1 Z h0 fm) (hfm : fm.isRef = true) (S_A : tS2 Z h0 (.int 1)) (S_H : tS3 Z h0 (.int 0)) (S_L : tS4 Z h0 (.int 8)) (V_a0 : Arv Z h0 a0 k0 .byte (8 : Int32) [(.int eb1), (.int eb2), (.int eb3), (.int eb4), (.int eb5), (.int eb6), (.int eb7), (.int eb8)] (.int 0)) (E_a0 : Exa Z h0 a0 "[B") (g_a0 : n0 ≤ a0) (h1 : p1 = (1 : Int32)) :
    MF l mN26 (Jvm.Cond.code mN26 jdk_52_method_4_code 3 none :: ws) (rO 0 0 0 0) #[(.ref a0), (.int p1), (.int p2)] Z h0 (Q_pc_4_1 Z a0 k0 p2 eb1 eb2 eb3 eb4 eb5 eb6 eb7 eb8 h0 n0) := by
  refine MetFree.of_bodySF (plainFor_of_name pn_3) hisR ?_
  intro p e s m args below meth c s₁ Bd hml0 hP hK
  obtain ⟨rfl, hZ, hh⟩ := hP
  have hx := Bd.exec
  have hby := Bd.bytes
  have hlk : meth.locks = false := Bd.notSynchronized
  have hml : c.maxLocals = 3 := hml0
  have hown : s.vm.findClass "java/lang/StringUTF16" = some m.cls := findClass_of_methodNamed Bd.named
  have X0 : Stand p l e (rO 0 0 0 0) s m #[(.ref a0), (.int p1), (.int p2)] below meth c s₁ [] 0 0 := Stand.of_body Bd
  have e0 : s₁.heap = h0 := by rw [← hh, Bd.state]; rfl
  have N0 := Fr.nil n0
  show Go p e below s ((Q_pc_4_1 Z a0 k0 p2 eb1 eb2 eb3 eb4 eb5 eb6 eb7 eb8 h0 n0)) (rO 0 0 0 0).cells (rO 0 0 0 0).slots (s₁.setTop (entryFrame m #[(.ref a0), (.int p1), (.int p2)] 3))
  rw [ef_25 m a0 p1 p2]
  subst h1
  obtain ⟨T1, X1, e1, st1⟩ := getS2 X0 hx hZ hown (host := "") (Or.inl (ow hw 109 rfl)) Via.refl e0 S_A (g := (mkF m 0 #[vr a0, vi 1, vi p2] [])) rfl (hb hby d25_0)
  refine Go.st (S' := T1.setTop (mkF m 31 #[vr a0, vi 1, vi p2] [.int ((1 : Int32) <<< ((1 : Int32) &&& 31))])) (fun _ kk => st1 _ (XS.ifYes X1.here hx rfl (pc0 := 3) (pc' := 28) rfl (hb hby d25_3) rfl ((if0 _ _).trans (feq (by decide : ¬ ((1 : Int32) = (0 : Int32)))).2) (by decide) (by decide) (XS.iloadN X1.here hx rfl (hb hby d25_28) rfl (XS.iconst X1.here hx rfl (hb hby d25_29) (XS.ishl X1.here hx rfl (hb hby d25_30) rfl kk))))) ?_
  rw [show ((1 : Int32) <<< ((1 : Int32) &&& 31)) = (2 : Int32) from by decide]
  refine Go.st (S' := T1.setTop (mkF m 38 #[vr a0, vi 3, vi p2] [.int p2, .int 2, .ref a0])) (fun _ kk => XS.istoreN X1.here hx rfl (hb hby d25_31) rfl (l' := #[vr a0, vi 2, vi p2]) rfl (XS.aloadN X1.here hx rfl (hb hby d25_32) rfl rfl (XS.iloadN X1.here hx rfl (hb hby d25_33) rfl (XS.iinc X1.here hx rfl (hb hby d25_34) rfl (l' := #[vr a0, vi 3, vi p2]) rfl (XS.iloadN X1.here hx rfl (hb hby d25_37) rfl kk))))) ?_
  obtain ⟨T2, X2, e2, st2⟩ := getS2 X1 hx hZ hown (host := "") (Or.inl (ow hw 110 rfl)) Via.refl e1 S_H (g := (mkF m 38 #[vr a0, vi 3, vi p2] [.int p2, .int 2, .ref a0])) rfl (hb hby d25_38)
  refine Go.st (S' := T2.setTop (mkF m 43 #[vr a0, vi 3, vi p2] [.int ((p2 >>> ((0 : Int32) &&& 31)).toInt8.toInt32), .int 2, .ref a0])) (fun _ kk => st2 _ (XS.ishr X2.here hx rfl (hb hby d25_41) rfl (XS.i2b X2.here hx rfl (hb hby d25_42) rfl kk))) ?_
  obtain ⟨cl3, Ar3, qk3, S3, Ng3, H3, G3⟩ := (id V_a0)
  have hin3 : ¬ ((2 : Int32) < 0 ∨ cl3.slots.size ≤ ((2 : Int32)).toNatClampNeg) := inb_of S3 ⟨by decide, by decide⟩
  obtain ⟨T3, h3, X3, e3, W3, st3⟩ := stB X2 hx hZ e2 Ar3 (j := (2 : Int32)) hin3 (g := (mkF m 43 #[vr a0, vi 3, vi p2] [.int ((p2 >>> ((0 : Int32) &&& 31)).toInt8.toInt32), .int 2, .ref a0])) rfl rfl (hb hby d25_43)
  have V_a0 : Arv Z h3 a0 k0 .byte (8 : Int32) [(.int eb1), (.int eb2), (.int (((p2 >>> ((0 : Int32) &&& 31)).toInt8.toInt32).toInt8.toInt32)), (.int eb4), (.int eb5), (.int eb6), (.int eb7), (.int eb8)] (.int 0) := Arv.set Ar3 qk3 S3 Ng3 H3 G3 (fits_nar_byte _) W3 2 rfl (Nat.le_of_ble_eq_true rfl)
  have N3 := Fr.snoc X3 N0 g_a0
  have S_C := S_C.wr W3
  have S_F := S_F.wr W3
  have S_A := S_A.wr W3
  have S_H := S_H.wr W3
  have S_L := S_L.wr W3
  have E_a0 := E_a0.wr W3
  have Zs4 := Nat.le_trans Z0 (Keep.of_wr W3).1
  have Kp5 := (Keep.refl h0 [a0]).wr W3 (Or.inl (List.mem_of_getElem? (i := 0) rfl))
  refine Go.st (S' := T3.setTop (mkF m 47 #[vr a0, vi 3, vi p2] [.int p2, .int 3, .ref a0])) (fun _ kk => st3 _ (XS.aloadN X3.here hx rfl (hb hby d25_44) rfl rfl (XS.iloadN X3.here hx rfl (hb hby d25_45) rfl (XS.iloadN X3.here hx rfl (hb hby d25_46) rfl kk)))) ?_
  obtain ⟨T6, X6, e6, st6⟩ := getS2 X3 hx hZ hown (host := "") (Or.inl (ow hw 111 rfl)) Via.refl e3 S_L (g := (mkF m 47 #[vr a0, vi 3, vi p2] [.int p2, .int 3, .ref a0])) rfl (hb hby d25_47)
  refine Go.st (S' := T6.setTop (mkF m 52 #[vr a0, vi 3, vi p2] [.int ((p2 >>> ((8 : Int32) &&& 31)).toInt8.toInt32), .int 3, .ref a0])) (fun _ kk => st6 _ (XS.ishr X6.here hx rfl (hb hby d25_50) rfl (XS.i2b X6.here hx rfl (hb hby d25_51) rfl kk))) ?_
  obtain ⟨cl7, Ar7, qk7, S7, Ng7, H7, G7⟩ := (id V_a0)
  have hin7 : ¬ ((3 : Int32) < 0 ∨ cl7.slots.size ≤ ((3 : Int32)).toNatClampNeg) := inb_of S7 ⟨by decide, by decide⟩
  obtain ⟨T7, h7, X7, e7, W7, st7⟩ := stB X6 hx hZ e6 Ar7 (j := (3 : Int32)) hin7 (g := (mkF m 52 #[vr a0, vi 3, vi p2] [.int ((p2 >>> ((8 : Int32) &&& 31)).toInt8.toInt32), .int 3, .ref a0])) rfl rfl (hb hby d25_52)
  have V_a0 : Arv Z h7 a0 k0 .byte (8 : Int32) [(.int eb1), (.int eb2), (.int (((p2 >>> ((0 : Int32) &&& 31)).toInt8.toInt32).toInt8.toInt32)), (.int (((p2 >>> ((8 : Int32) &&& 31)).toInt8.toInt32).toInt8.toInt32)), (.int eb5), (.int eb6), (.int eb7), (.int eb8)] (.int 0) := Arv.set Ar7 qk7 S7 Ng7 H7 G7 (fits_nar_byte _) W7 3 rfl (Nat.le_of_ble_eq_true rfl)
  have N7 := Fr.snoc X7 N3 g_a0
  have S_C := S_C.wr W7
  have S_F := S_F.wr W7
  have S_A := S_A.wr W7
  have S_H := S_H.wr W7
  have S_L := S_L.wr W7
  have E_a0 := E_a0.wr W7
  have Zs8 := Nat.le_trans Zs4 (Keep.of_wr W7).1
  have Kp9 := Kp5.wr W7 (Or.inl (List.mem_of_getElem? (i := 0) rfl))
  refine Go.st (S' := T7.setTop (mkF m 53 #[vr a0, vi 3, vi p2] [])) st7 ?_
  exact Go.ret0 X7 hx hlk Bd.returns (hb hby d25_53) (by rw [e7]; exact ⟨rfl, N7, Kp9, V_a0⟩) (by decide) (by decide)
def Q_pc_4_2 (Z : State) (a0 : Addr) (k0 : ClassId) (p2 : Int32) (eb1 : Int32) (eb2 : Int32) (eb3 : Int32) (eb4 : Int32) (eb5 : Int32) (eb6 : Int32) (eb7 : Int32) (eb8 : Int32) (h0 : Heap) (n0 : Nat) (v : Option Value) (h : Heap) (L : List Loc) : Prop := v = none ∧ Fr n0 L ∧ Keep h0 h [a0] ∧ Arv Z h a0 k0 .byte (8 : Int32) [(.int eb1), (.int eb2), (.int eb3), (.int eb4), (.int (((p2 >>> ((0 : Int32) &&& 31)).toInt8.toInt32).toInt8.toInt32)), (.int (((p2 >>> ((8 : Int32) &&& 31)).toInt8.toInt32).toInt8.toInt32)), (.int eb7), (.int eb8)] (.int 0)
theorem rmPC_4_2 (l : Launch) (Z : State) (az : Array Value) (hw : HW az Z) (ws : List Jvm.Cond) (a0 : Addr) (p1 : Int32) (p2 : Int32) (zc : Int32) (fm : Value) (k0 : ClassId) (eb1 : Int32) (eb2 : Int32) (eb3 : Int32) (eb4 : Int32) (eb5 : Int32) (eb6 : Int32) (eb7 : Int32) (eb8 : Int32) (h0 : Heap) (n0 : Nat) (Z0 : n0 ≤ h0.size) (S_C : tS0 Z h0 (.int zc)) (hzc : ¬ zc = 0) (S_F : tS1 Z h0 fm) (hfm : fm.isRef = true) (S_A : tS2 Z h0 (.int 1)) (S_H : tS3 Z h0 (.int 0)) (S_L : tS4 Z h0 (.int 8)) (V_a0 : Arv Z h0 a0 k0 .byte (8 : Int32) [(.int eb1), (.int eb2), (.int eb3), (.int eb4), (.int eb5), (.int eb6), (.int eb7), (.int eb8)] (.int 0)) (E_a0 : Exa Z h0 a0 "[B") (g_a0 : n0 ≤ a0) (h1 : p1 = (2 : Int32)) :
    MF l mN26 (Jvm.Cond.code mN26 jdk_52_method_4_code 3 none :: ws) (rO 0 0 0 0) #[(.ref a0), (.int p1), (.int p2)] Z h0 (Q_pc_4_2 Z a0 k0 p2 eb1 eb2 eb3 eb4 eb5 eb6 eb7 eb8 h0 n0) := by
  refine MetFree.of_bodySF (plainFor_of_name pn_3) hisR ?_
  intro p e s m args below meth c s₁ Bd hml0 hP hK
  obtain ⟨rfl, hZ, hh⟩ := hP
  have hx := Bd.exec
  have hby := Bd.bytes
  have hlk : meth.locks = false := Bd.notSynchronized
  have hml : c.maxLocals = 3 := hml0
  have hown : s.vm.findClass "java/lang/StringUTF16" = some m.cls := findClass_of_methodNamed Bd.named
  have X0 : Stand p l e (rO 0 0 0 0) s m #[(.ref a0), (.int p1), (.int p2)] below meth c s₁ [] 0 0 := Stand.of_body Bd
  have e0 : s₁.heap = h0 := by rw [← hh, Bd.state]; rfl
  have N0 := Fr.nil n0
  show Go p e below s ((Q_pc_4_2 Z a0 k0 p2 eb1 eb2 eb3 eb4 eb5 eb6 eb7 eb8 h0 n0)) (rO 0 0 0 0).cells (rO 0 0 0 0).slots (s₁.setTop (entryFrame m #[(.ref a0), (.int p1), (.int p2)] 3))
  rw [ef_25 m a0 p1 p2]
  subst h1
  obtain ⟨T1, X1, e1, st1⟩ := getS2 X0 hx hZ hown (host := "") (Or.inl (ow hw 109 rfl)) Via.refl e0 S_A (g := (mkF m 0 #[vr a0, vi 2, vi p2] [])) rfl (hb hby d25_0)
  refine Go.st (S' := T1.setTop (mkF m 31 #[vr a0, vi 2, vi p2] [.int ((2 : Int32) <<< ((1 : Int32) &&& 31))])) (fun _ kk => st1 _ (XS.ifYes X1.here hx rfl (pc0 := 3) (pc' := 28) rfl (hb hby d25_3) rfl ((if0 _ _).trans (feq (by decide : ¬ ((1 : Int32) = (0 : Int32)))).2) (by decide) (by decide) (XS.iloadN X1.here hx rfl (hb hby d25_28) rfl (XS.iconst X1.here hx rfl (hb hby d25_29) (XS.ishl X1.here hx rfl (hb hby d25_30) rfl kk))))) ?_
  rw [show ((2 : Int32) <<< ((1 : Int32) &&& 31)) = (4 : Int32) from by decide]
  refine Go.st (S' := T1.setTop (mkF m 38 #[vr a0, vi 5, vi p2] [.int p2, .int 4, .ref a0])) (fun _ kk => XS.istoreN X1.here hx rfl (hb hby d25_31) rfl (l' := #[vr a0, vi 4, vi p2]) rfl (XS.aloadN X1.here hx rfl (hb hby d25_32) rfl rfl (XS.iloadN X1.here hx rfl (hb hby d25_33) rfl (XS.iinc X1.here hx rfl (hb hby d25_34) rfl (l' := #[vr a0, vi 5, vi p2]) rfl (XS.iloadN X1.here hx rfl (hb hby d25_37) rfl kk))))) ?_
  obtain ⟨T2, X2, e2, st2⟩ := getS2 X1 hx hZ hown (host := "") (Or.inl (ow hw 110 rfl)) Via.refl e1 S_H (g := (mkF m 38 #[vr a0, vi 5, vi p2] [.int p2, .int 4, .ref a0])) rfl (hb hby d25_38)
  refine Go.st (S' := T2.setTop (mkF m 43 #[vr a0, vi 5, vi p2] [.int ((p2 >>> ((0 : Int32) &&& 31)).toInt8.toInt32), .int 4, .ref a0])) (fun _ kk => st2 _ (XS.ishr X2.here hx rfl (hb hby d25_41) rfl (XS.i2b X2.here hx rfl (hb hby d25_42) rfl kk))) ?_
  obtain ⟨cl3, Ar3, qk3, S3, Ng3, H3, G3⟩ := (id V_a0)
  have hin3 : ¬ ((4 : Int32) < 0 ∨ cl3.slots.size ≤ ((4 : Int32)).toNatClampNeg) := inb_of S3 ⟨by decide, by decide⟩
  obtain ⟨T3, h3, X3, e3, W3, st3⟩ := stB X2 hx hZ e2 Ar3 (j := (4 : Int32)) hin3 (g := (mkF m 43 #[vr a0, vi 5, vi p2] [.int ((p2 >>> ((0 : Int32) &&& 31)).toInt8.toInt32), .int 4, .ref a0])) rfl rfl (hb hby d25_43)
  have V_a0 : Arv Z h3 a0 k0 .byte (8 : Int32) [(.int eb1), (.int eb2), (.int eb3), (.int eb4), (.int (((p2 >>> ((0 : Int32) &&& 31)).toInt8.toInt32).toInt8.toInt32)), (.int eb6), (.int eb7), (.int eb8)] (.int 0) := Arv.set Ar3 qk3 S3 Ng3 H3 G3 (fits_nar_byte _) W3 4 rfl (Nat.le_of_ble_eq_true rfl)
  have N3 := Fr.snoc X3 N0 g_a0
  have S_C := S_C.wr W3
  have S_F := S_F.wr W3
  have S_A := S_A.wr W3
  have S_H := S_H.wr W3
  have S_L := S_L.wr W3
  have E_a0 := E_a0.wr W3
  have Zs4 := Nat.le_trans Z0 (Keep.of_wr W3).1
  have Kp5 := (Keep.refl h0 [a0]).wr W3 (Or.inl (List.mem_of_getElem? (i := 0) rfl))
  refine Go.st (S' := T3.setTop (mkF m 47 #[vr a0, vi 5, vi p2] [.int p2, .int 5, .ref a0])) (fun _ kk => st3 _ (XS.aloadN X3.here hx rfl (hb hby d25_44) rfl rfl (XS.iloadN X3.here hx rfl (hb hby d25_45) rfl (XS.iloadN X3.here hx rfl (hb hby d25_46) rfl kk)))) ?_
  obtain ⟨T6, X6, e6, st6⟩ := getS2 X3 hx hZ hown (host := "") (Or.inl (ow hw 111 rfl)) Via.refl e3 S_L (g := (mkF m 47 #[vr a0, vi 5, vi p2] [.int p2, .int 5, .ref a0])) rfl (hb hby d25_47)
  refine Go.st (S' := T6.setTop (mkF m 52 #[vr a0, vi 5, vi p2] [.int ((p2 >>> ((8 : Int32) &&& 31)).toInt8.toInt32), .int 5, .ref a0])) (fun _ kk => st6 _ (XS.ishr X6.here hx rfl (hb hby d25_50) rfl (XS.i2b X6.here hx rfl (hb hby d25_51) rfl kk))) ?_
  obtain ⟨cl7, Ar7, qk7, S7, Ng7, H7, G7⟩ := (id V_a0)
  have hin7 : ¬ ((5 : Int32) < 0 ∨ cl7.slots.size ≤ ((5 : Int32)).toNatClampNeg) := inb_of S7 ⟨by decide, by decide⟩
  obtain ⟨T7, h7, X7, e7, W7, st7⟩ := stB X6 hx hZ e6 Ar7 (j := (5 : Int32)) hin7 (g := (mkF m 52 #[vr a0, vi 5, vi p2] [.int ((p2 >>> ((8 : Int32) &&& 31)).toInt8.toInt32), .int 5, .ref a0])) rfl rfl (hb hby d25_52)
  have V_a0 : Arv Z h7 a0 k0 .byte (8 : Int32) [(.int eb1), (.int eb2), (.int eb3), (.int eb4), (.int (((p2 >>> ((0 : Int32) &&& 31)).toInt8.toInt32).toInt8.toInt32)), (.int (((p2 >>> ((8 : Int32) &&& 31)).toInt8.toInt32).toInt8.toInt32)), (.int eb7), (.int eb8)] (.int 0) := Arv.set Ar7 qk7 S7 Ng7 H7 G7 (fits_nar_byte _) W7 5 rfl (Nat.le_of_ble_eq_true rfl)
  have N7 := Fr.snoc X7 N3 g_a0
  have S_C := S_C.wr W7
  have S_F := S_F.wr W7
  have S_A := S_A.wr W7
  have S_H := S_H.wr W7
  have S_L := S_L.wr W7
  have E_a0 := E_a0.wr W7
  have Zs8 := Nat.le_trans Zs4 (Keep.of_wr W7).1
  have Kp9 := Kp5.wr W7 (Or.inl (List.mem_of_getElem? (i := 0) rfl))
  refine Go.st (S' := T7.setTop (mkF m 53 #[vr a0, vi 5, vi p2] [])) st7 ?_
  exact Go.ret0 X7 hx hlk Bd.returns (hb hby d25_53) (by rw [e7]; exact ⟨rfl, N7, Kp9, V_a0⟩) (by decide) (by decide)
def Q_pc_4_3 (Z : State) (a0 : Addr) (k0 : ClassId) (p2 : Int32) (eb1 : Int32) (eb2 : Int32) (eb3 : Int32) (eb4 : Int32) (eb5 : Int32) (eb6 : Int32) (eb7 : Int32) (eb8 : Int32) (h0 : Heap) (n0 : Nat) (v : Option Value) (h : Heap) (L : List Loc) : Prop := v = none ∧ Fr n0 L ∧ Keep h0 h [a0] ∧ Arv Z h a0 k0 .byte (8 : Int32) [(.int eb1), (.int eb2), (.int eb3), (.int eb4), (.int eb5), (.int eb6), (.int (((p2 >>> ((0 : Int32) &&& 31)).toInt8.toInt32).toInt8.toInt32)), (.int (((p2 >>> ((8 : Int32) &&& 31)).toInt8.toInt32).toInt8.toInt32))] (.int 0)
theorem rmPC_4_3 (l : Launch) (Z : State) (az : Array Value) (hw : HW az Z) (ws : List Jvm.Cond) (a0 : Addr) (p1 : Int32) (p2 : Int32) (zc : Int32) (fm : Value) (k0 : ClassId) (eb1 : Int32) (eb2 : Int32) (eb3 : Int32) (eb4 : Int32) (eb5 : Int32) (eb6 : Int32) (eb7 : Int32) (eb8 : Int32) (h0 : Heap) (n0 : Nat) (Z0 : n0 ≤ h0.size) (S_C : tS0 Z h0 (.int zc)) (hzc : ¬ zc = 0) (S_F : tS1 Z h0 fm) (hfm : fm.isRef = true) (S_A : tS2 Z h0 (.int 1)) (S_H : tS3 Z h0 (.int 0)) (S_L : tS4 Z h0 (.int 8)) (V_a0 : Arv Z h0 a0 k0 .byte (8 : Int32) [(.int eb1), (.int eb2), (.int eb3), (.int eb4), (.int eb5), (.int eb6), (.int eb7), (.int eb8)] (.int 0)) (E_a0 : Exa Z h0 a0 "[B") (g_a0 : n0 ≤ a0) (h1 : p1 = (3 : Int32)) :
    MF l mN26 (Jvm.Cond.code mN26 jdk_52_method_4_code 3 none :: ws) (rO 0 0 0 0) #[(.ref a0), (.int p1), (.int p2)] Z h0 (Q_pc_4_3 Z a0 k0 p2 eb1 eb2 eb3 eb4 eb5 eb6 eb7 eb8 h0 n0) := by
  refine MetFree.of_bodySF (plainFor_of_name pn_3) hisR ?_
  intro p e s m args below meth c s₁ Bd hml0 hP hK
  obtain ⟨rfl, hZ, hh⟩ := hP
  have hx := Bd.exec
  have hby := Bd.bytes
  have hlk : meth.locks = false := Bd.notSynchronized
  have hml : c.maxLocals = 3 := hml0
  have hown : s.vm.findClass "java/lang/StringUTF16" = some m.cls := findClass_of_methodNamed Bd.named
  have X0 : Stand p l e (rO 0 0 0 0) s m #[(.ref a0), (.int p1), (.int p2)] below meth c s₁ [] 0 0 := Stand.of_body Bd
  have e0 : s₁.heap = h0 := by rw [← hh, Bd.state]; rfl
  have N0 := Fr.nil n0
  show Go p e below s ((Q_pc_4_3 Z a0 k0 p2 eb1 eb2 eb3 eb4 eb5 eb6 eb7 eb8 h0 n0)) (rO 0 0 0 0).cells (rO 0 0 0 0).slots (s₁.setTop (entryFrame m #[(.ref a0), (.int p1), (.int p2)] 3))
  rw [ef_25 m a0 p1 p2]
  subst h1
  obtain ⟨T1, X1, e1, st1⟩ := getS2 X0 hx hZ hown (host := "") (Or.inl (ow hw 109 rfl)) Via.refl e0 S_A (g := (mkF m 0 #[vr a0, vi 3, vi p2] [])) rfl (hb hby d25_0)
  refine Go.st (S' := T1.setTop (mkF m 31 #[vr a0, vi 3, vi p2] [.int ((3 : Int32) <<< ((1 : Int32) &&& 31))])) (fun _ kk => st1 _ (XS.ifYes X1.here hx rfl (pc0 := 3) (pc' := 28) rfl (hb hby d25_3) rfl ((if0 _ _).trans (feq (by decide : ¬ ((1 : Int32) = (0 : Int32)))).2) (by decide) (by decide) (XS.iloadN X1.here hx rfl (hb hby d25_28) rfl (XS.iconst X1.here hx rfl (hb hby d25_29) (XS.ishl X1.here hx rfl (hb hby d25_30) rfl kk))))) ?_
  rw [show ((3 : Int32) <<< ((1 : Int32) &&& 31)) = (6 : Int32) from by decide]
  refine Go.st (S' := T1.setTop (mkF m 38 #[vr a0, vi 7, vi p2] [.int p2, .int 6, .ref a0])) (fun _ kk => XS.istoreN X1.here hx rfl (hb hby d25_31) rfl (l' := #[vr a0, vi 6, vi p2]) rfl (XS.aloadN X1.here hx rfl (hb hby d25_32) rfl rfl (XS.iloadN X1.here hx rfl (hb hby d25_33) rfl (XS.iinc X1.here hx rfl (hb hby d25_34) rfl (l' := #[vr a0, vi 7, vi p2]) rfl (XS.iloadN X1.here hx rfl (hb hby d25_37) rfl kk))))) ?_
  obtain ⟨T2, X2, e2, st2⟩ := getS2 X1 hx hZ hown (host := "") (Or.inl (ow hw 110 rfl)) Via.refl e1 S_H (g := (mkF m 38 #[vr a0, vi 7, vi p2] [.int p2, .int 6, .ref a0])) rfl (hb hby d25_38)
  refine Go.st (S' := T2.setTop (mkF m 43 #[vr a0, vi 7, vi p2] [.int ((p2 >>> ((0 : Int32) &&& 31)).toInt8.toInt32), .int 6, .ref a0])) (fun _ kk => st2 _ (XS.ishr X2.here hx rfl (hb hby d25_41) rfl (XS.i2b X2.here hx rfl (hb hby d25_42) rfl kk))) ?_
  obtain ⟨cl3, Ar3, qk3, S3, Ng3, H3, G3⟩ := (id V_a0)
  have hin3 : ¬ ((6 : Int32) < 0 ∨ cl3.slots.size ≤ ((6 : Int32)).toNatClampNeg) := inb_of S3 ⟨by decide, by decide⟩
  obtain ⟨T3, h3, X3, e3, W3, st3⟩ := stB X2 hx hZ e2 Ar3 (j := (6 : Int32)) hin3 (g := (mkF m 43 #[vr a0, vi 7, vi p2] [.int ((p2 >>> ((0 : Int32) &&& 31)).toInt8.toInt32), .int 6, .ref a0])) rfl rfl (hb hby d25_43)
  have V_a0 : Arv Z h3 a0 k0 .byte (8 : Int32) [(.int eb1), (.int eb2), (.int eb3), (.int eb4), (.int eb5), (.int eb6), (.int (((p2 >>> ((0 : Int32) &&& 31)).toInt8.toInt32).toInt8.toInt32)), (.int eb8)] (.int 0) := Arv.set Ar3 qk3 S3 Ng3 H3 G3 (fits_nar_byte _) W3 6 rfl (Nat.le_of_ble_eq_true rfl)
  have N3 := Fr.snoc X3 N0 g_a0
  have S_C := S_C.wr W3
  have S_F := S_F.wr W3
  have S_A := S_A.wr W3
  have S_H := S_H.wr W3
  have S_L := S_L.wr W3
  have E_a0 := E_a0.wr W3
  have Zs4 := Nat.le_trans Z0 (Keep.of_wr W3).1
  have Kp5 := (Keep.refl h0 [a0]).wr W3 (Or.inl (List.mem_of_getElem? (i := 0) rfl))
  refine Go.st (S' := T3.setTop (mkF m 47 #[vr a0, vi 7, vi p2] [.int p2, .int 7, .ref a0])) (fun _ kk => st3 _ (XS.aloadN X3.here hx rfl (hb hby d25_44) rfl rfl (XS.iloadN X3.here hx rfl (hb hby d25_45) rfl (XS.iloadN X3.here hx rfl (hb hby d25_46) rfl kk)))) ?_
  obtain ⟨T6, X6, e6, st6⟩ := getS2 X3 hx hZ hown (host := "") (Or.inl (ow hw 111 rfl)) Via.refl e3 S_L (g := (mkF m 47 #[vr a0, vi 7, vi p2] [.int p2, .int 7, .ref a0])) rfl (hb hby d25_47)
  refine Go.st (S' := T6.setTop (mkF m 52 #[vr a0, vi 7, vi p2] [.int ((p2 >>> ((8 : Int32) &&& 31)).toInt8.toInt32), .int 7, .ref a0])) (fun _ kk => st6 _ (XS.ishr X6.here hx rfl (hb hby d25_50) rfl (XS.i2b X6.here hx rfl (hb hby d25_51) rfl kk))) ?_
  obtain ⟨cl7, Ar7, qk7, S7, Ng7, H7, G7⟩ := (id V_a0)
  have hin7 : ¬ ((7 : Int32) < 0 ∨ cl7.slots.size ≤ ((7 : Int32)).toNatClampNeg) := inb_of S7 ⟨by decide, by decide⟩
  obtain ⟨T7, h7, X7, e7, W7, st7⟩ := stB X6 hx hZ e6 Ar7 (j := (7 : Int32)) hin7 (g := (mkF m 52 #[vr a0, vi 7, vi p2] [.int ((p2 >>> ((8 : Int32) &&& 31)).toInt8.toInt32), .int 7, .ref a0])) rfl rfl (hb hby d25_52)
  have V_a0 : Arv Z h7 a0 k0 .byte (8 : Int32) [(.int eb1), (.int eb2), (.int eb3), (.int eb4), (.int eb5), (.int eb6), (.int (((p2 >>> ((0 : Int32) &&& 31)).toInt8.toInt32).toInt8.toInt32)), (.int (((p2 >>> ((8 : Int32) &&& 31)).toInt8.toInt32).toInt8.toInt32))] (.int 0) := Arv.set Ar7 qk7 S7 Ng7 H7 G7 (fits_nar_byte _) W7 7 rfl (Nat.le_of_ble_eq_true rfl)
  have N7 := Fr.snoc X7 N3 g_a0
  have S_C := S_C.wr W7
  have S_F := S_F.wr W7
  have S_A := S_A.wr W7
  have S_H := S_H.wr W7
  have S_L := S_L.wr W7
  have E_a0 := E_a0.wr W7
  have Zs8 := Nat.le_trans Zs4 (Keep.of_wr W7).1
  have Kp9 := Kp5.wr W7 (Or.inl (List.mem_of_getElem? (i := 0) rfl))
  refine Go.st (S' := T7.setTop (mkF m 53 #[vr a0, vi 7, vi p2] [])) st7 ?_
  exact Go.ret0 X7 hx hlk Bd.returns (hb hby d25_53) (by rw [e7]; exact ⟨rfl, N7, Kp9, V_a0⟩) (by decide) (by decide)
def Q_tb_4 (Z : State) (c1 : Int32) (c2 : Int32) (c3 : Int32) (c4 : Int32) (h0 : Heap) (n0 : Nat) (v : Option Value) (h : Heap) (L : List Loc) : Prop := ∃ (b : Addr) (k : ClassId), v = some (.ref b) ∧ Fr n0 L ∧ Keep h0 h [] ∧ Arv Z h b k .byte (8 : Int32) [(.int (((c1 >>> ((0 : Int32) &&& 31)).toInt8.toInt32).toInt8.toInt32)), (.int (((c1 >>> ((8 : Int32) &&& 31)).toInt8.toInt32).toInt8.toInt32)), (.int (((c2 >>> ((0 : Int32) &&& 31)).toInt8.toInt32).toInt8.toInt32)), (.int (((c2 >>> ((8 : Int32) &&& 31)).toInt8.toInt32).toInt8.toInt32)), (.int (((c3 >>> ((0 : Int32) &&& 31)).toInt8.toInt32).toInt8.toInt32)), (.int (((c3 >>> ((8 : Int32) &&& 31)).toInt8.toInt32).toInt8.toInt32)), (.int (((c4 >>> ((0 : Int32) &&& 31)).toInt8.toInt32).toInt8.toInt32)), (.int (((c4 >>> ((8 : Int32) &&& 31)).toInt8.toInt32).toInt8.toInt32))] (.int 0) ∧ Exa Z h b "[B" ∧ h0.size ≤ b
theorem rmTB_4 (l : Launch) (Z : State) (az : Array Value) (hw : HW az Z) (ws : List Jvm.Cond) (a0 : Addr) (p1 : Int32) (p2 : Int32) (zc : Int32) (fm : Value) (k0 : ClassId) (c1 : Int32) (c2 : Int32) (c3 : Int32) (c4 : Int32) (h0 : Heap) (n0 : Nat) (Z0 : n0 ≤ h0.size) (S_C : tS0 Z h0 (.int zc)) (hzc : ¬ zc = 0) (S_F : tS1 Z h0 fm) (hfm : fm.isRef = true) (S_A : tS2 Z h0 (.int 1)) (S_H : tS3 Z h0 (.int 0)) (S_L : tS4 Z h0 (.int 8)) (V_a0 : Arv Z h0 a0 k0 .char (4 : Int32) [(.int c1), (.int c2), (.int c3), (.int c4)] (.int 0)) (h1 : p1 = 0) (h2 : p2 = (4 : Int32)) :
    MF l mN27 (Jvm.Cond.code mN27 jdk_52_method_14_code 5 (some (.array .byte)) :: ws) (rO 2 1 8 24) #[(.ref a0), (.int p1), (.int p2)] Z h0 (Q_tb_4 Z c1 c2 c3 c4 h0 n0) := by
  refine MetFree.of_bodySF (plainFor_of_name pn_3) hisR ?_
  intro p e s m args below meth c s₁ Bd hml0 hP hK
  obtain ⟨rfl, hZ, hh⟩ := hP
  have hx := Bd.exec
  have hby := Bd.bytes
  have hlk : meth.locks = false := Bd.notSynchronized
  have hml : c.maxLocals = 5 := hml0
  have hown : s.vm.findClass "java/lang/StringUTF16" = some m.cls := findClass_of_methodNamed Bd.named
  have X0 : Stand p l e (rO 2 1 8 24) s m #[(.ref a0), (.int p1), (.int p2)] below meth c s₁ [] 0 0 := Stand.of_body Bd
  have e0 : s₁.heap = h0 := by rw [← hh, Bd.state]; rfl
  have N0 := Fr.nil n0
  show Go p e below s ((Q_tb_4 Z c1 c2 c3 c4 h0 n0)) (rO 2 1 8 24).cells (rO 2 1 8 24).slots (s₁.setTop (entryFrame m #[(.ref a0), (.int p1), (.int p2)] 5))
  rw [ef_22 m a0 p1 p2]
  subst h1 h2
  refine Go.st (S' := s₁.setTop (mkF m 1 #[vr a0, vi 0, vi 4, .unset, .unset] [.int 4])) (fun _ kk => XS.iloadN X0.here hx rfl (hb hby d22_0) rfl kk) ?_
  obtain ⟨_, _, ⟨T1, L1, k1, n1⟩, -, X1, ⟨Lc1, hQ1, l1, y1, z1⟩, st1⟩ := Jvm.LawKit.callS X0 hx (y := mN24) hown (mvT hZ (ow hw 99 rfl)) (mvT hZ (ow hw 100 rfl)) (mvT hZ (ow hw 44 rfl)) (mvT hZ (ow hw 101 rfl)) (by decide) (backOf (W := 0) (rmNF_4 l Z az hw [] (4 : Int32) h0 n0 Z0 rfl) hZ (ow hw 101 rfl) (ow hw 44 rfl) (by decide) (by decide)) (g := (mkF m 1 #[vr a0, vi 0, vi 4, .unset, .unset] [.int 4])) rfl (by rw [hml]; rfl) (argsL := [.int 4]) (rest := []) (lenOf pd_17 rfl) rfl (oW rfl rfl) (hb hby d22_1) (fun _ _ => ⟨rfl, e0, (by decide : 0 + 1 ≤ _), (by decide : 0 + 8 ≤ _)⟩)
  dsimp only [Pt.U, Pt.locs, Pt.cells, Pt.slots] at X1 l1 y1 z1 st1 hQ1
  subst l1 y1 z1
  obtain ⟨b1, kb1, rfl, N1q, K1, V_b1, E_b1, gb1⟩ := hQ1
  have Ex1 := own_extK K1
  have N1 := Fr.app N0 N1q
  have ne_a0_b1 : a0 ≠ b1 := Nat.ne_of_lt (Nat.lt_of_lt_of_le V_a0.lt gb1)
  have g_b1 : n0 ≤ b1 := Nat.le_trans Z0 gb1
  have sz_b1 : h0.size ≤ b1 := Nat.le_trans (Keep.refl h0 []).1 gb1
  have S_C := S_C.ext Ex1
  have S_F := S_F.ext Ex1
  have S_A := S_A.ext Ex1
  have S_H := S_H.ext Ex1
  have S_L := S_L.ext Ex1
  have V_a0 := V_a0.ext Ex1
  have Zs2 := Nat.le_trans Z0 Ex1.1
  have Kp3 := (Keep.refl h0 []).ext Ex1
  refine Go.st (S' := T1.setTop (mkF m 19 #[vr a0, vi 0, vi 4, vr b1, vi 0] [.int 0, .ref a0, .int 0, .ref b1])) (fun _ kk => st1 _ (XS.astoreN X1.here hx rfl (hb hby d22_4) rfl rfl (l' := #[vr a0, vi 0, vi 4, vr b1, .unset]) rfl (XS.iconst X1.here hx rfl (hb hby d22_5) (XS.istore X1.here hx rfl (hb hby d22_6) rfl (l' := #[vr a0, vi 0, vi 4, vr b1, vi 0]) rfl (XS.iload X1.here hx rfl (hb hby d22_8) rfl (XS.iloadN X1.here hx rfl (hb hby d22_10) rfl (XS.icmpNo X1.here hx rfl (hb hby d22_11) rfl (tlt (by decide : (0 : Int32) < (4 : Int32))).2.1 (XS.aloadN X1.here hx rfl (hb hby d22_14) rfl rfl (XS.iload X1.here hx rfl (hb hby d22_15) rfl (XS.aloadN X1.here hx rfl (hb hby d22_17) rfl rfl (XS.iloadN X1.here hx rfl (hb hby d22_18) rfl kk))))))))))) ?_
  obtain ⟨cl4, Ar4, qk4, S4, Ng4, H4, G4⟩ := (id V_a0)
  have hin4 : ¬ ((0 : Int32) < 0 ∨ cl4.slots.size ≤ ((0 : Int32)).toNatClampNeg) := inb_of S4 ⟨by decide, by decide⟩
  have hat4 : cl4.slots[((0 : Int32)).toNatClampNeg]? = some (.int c1) := Has.at H4 hin4 rfl
  refine Go.st (S' := T1.setTop (mkF m 20 #[vr a0, vi 0, vi 4, vr b1, vi 0] [.int c1, .int 0, .ref b1])) (fun _ kk => X1.caload hx (j := (0 : Int32)) (v := (.int c1)) Ar4.1 (State.isArrayOf_alike hZ.alike Ar4.2.1) Ar4.2.2 hin4 hat4 (g := (mkF m 19 #[vr a0, vi 0, vi 4, vr b1, vi 0] [.int 0, .ref a0, .int 0, .ref b1])) rfl rfl (hb hby d22_19) _ kk) ?_
  obtain ⟨_, _, ⟨T5, L5, k5, n5⟩, -, X5, ⟨Lc5, hQ5, l5, y5, z5⟩, st5⟩ := Jvm.LawKit.callS X1 hx (y := mN26) hown (mvT hZ (ow hw 106 rfl)) (mvT hZ (ow hw 107 rfl)) (mvT hZ (ow hw 44 rfl)) (mvT hZ (ow hw 108 rfl)) (by decide) (backOf (W := 0) (rmPC_4_0 l Z az hw [] b1 (0 : Int32) c1 zc fm kb1 (0 : Int32) (0 : Int32) (0 : Int32) (0 : Int32) (0 : Int32) (0 : Int32) (0 : Int32) (0 : Int32) T1.heap n0 Zs2 S_C hzc S_F hfm S_A S_H S_L V_b1 E_b1 g_b1 rfl) hZ (ow hw 108 rfl) (ow hw 44 rfl) (by decide) (by decide)) (g := (mkF m 20 #[vr a0, vi 0, vi 4, vr b1, vi 0] [.int c1, .int 0, .ref b1])) rfl (by rw [hml]; rfl) (argsL := [.ref b1, .int 0, .int c1]) (rest := []) (lenOf pd_19 rfl) rfl (oW rfl rfl) (hb hby d22_20) (fun _ _ => ⟨rfl, rfl, (by decide : 1 + 0 ≤ _), (by decide : 8 + 0 ≤ _)⟩)
  dsimp only [Pt.U, Pt.locs, Pt.cells, Pt.slots] at X5 l5 y5 z5 st5 hQ5
  subst l5 y5 z5
  obtain ⟨rfl, N5q, K5, Va5⟩ := hQ5
  have N5 := Fr.app N1 N5q
  have S_C := own_stak K5 (allS (P := fun x => ∀ cell : Cell, (T1.heap)[x]? = some cell → cell.vm.isStatics = false) (Exa.nostat E_b1) all0) S_C
  have S_F := own_stak K5 (allS (P := fun x => ∀ cell : Cell, (T1.heap)[x]? = some cell → cell.vm.isStatics = false) (Exa.nostat E_b1) all0) S_F
  have S_A := own_stak K5 (allS (P := fun x => ∀ cell : Cell, (T1.heap)[x]? = some cell → cell.vm.isStatics = false) (Exa.nostat E_b1) all0) S_A
  have S_H := own_stak K5 (allS (P := fun x => ∀ cell : Cell, (T1.heap)[x]? = some cell → cell.vm.isStatics = false) (Exa.nostat E_b1) all0) S_H
  have S_L := own_stak K5 (allS (P := fun x => ∀ cell : Cell, (T1.heap)[x]? = some cell → cell.vm.isStatics = false) (Exa.nostat E_b1) all0) S_L
  have V_a0 := V_a0.keep K5 (ninS ne_a0_b1 nin0)
  have E_b1 := E_b1.keep K5
  have Zs6 := Nat.le_trans Zs2 K5.1
  have Kp7 := Kp3.trans K5 (allS (Or.inr sz_b1) all0)
  refine Go.st (S' := T5.setTop (mkF m 19 #[vr a0, vi 1, vi 4, vr b1, vi 1] [.int 1, .ref a0, .int 1, .ref b1])) (fun _ kk => st5 _ (XS.iinc X5.here hx rfl (hb hby d22_23) rfl (l' := #[vr a0, vi 1, vi 4, vr b1, vi 0]) rfl (XS.iinc X5.here hx rfl (hb hby d22_26) rfl (l' := #[vr a0, vi 1, vi 4, vr b1, vi 1]) rfl (XS.goto X5.here hx rfl (pc0 := 29) (pc' := 8) rfl (hb hby d22_29) (by decide) (by decide) (XS.iload X5.here hx rfl (hb hby d22_8) rfl (XS.iloadN X5.here hx rfl (hb hby d22_10) rfl (XS.icmpNo X5.here hx rfl (hb hby d22_11) rfl (tlt (by decide : (1 : Int32) < (4 : Int32))).2.1 (XS.aloadN X5.here hx rfl (hb hby d22_14) rfl rfl (XS.iload X5.here hx rfl (hb hby d22_15) rfl (XS.aloadN X5.here hx rfl (hb hby d22_17) rfl rfl (XS.iloadN X5.here hx rfl (hb hby d22_18) rfl kk))))))))))) ?_
  obtain ⟨cl8, Ar8, qk8, S8, Ng8, H8, G8⟩ := (id V_a0)
  have hin8 : ¬ ((1 : Int32) < 0 ∨ cl8.slots.size ≤ ((1 : Int32)).toNatClampNeg) := inb_of S8 ⟨by decide, by decide⟩
  have hat8 : cl8.slots[((1 : Int32)).toNatClampNeg]? = some (.int c2) := Has.at H8 hin8 rfl
  refine Go.st (S' := T5.setTop (mkF m 20 #[vr a0, vi 1, vi 4, vr b1, vi 1] [.int c2, .int 1, .ref b1])) (fun _ kk => X5.caload hx (j := (1 : Int32)) (v := (.int c2)) Ar8.1 (State.isArrayOf_alike hZ.alike Ar8.2.1) Ar8.2.2 hin8 hat8 (g := (mkF m 19 #[vr a0, vi 1, vi 4, vr b1, vi 1] [.int 1, .ref a0, .int 1, .ref b1])) rfl rfl (hb hby d22_19) _ kk) ?_
  obtain ⟨_, _, ⟨T9, L9, k9, n9⟩, -, X9, ⟨Lc9, hQ9, l9, y9, z9⟩, st9⟩ := Jvm.LawKit.callS X5 hx (y := mN26) hown (mvT hZ (ow hw 106 rfl)) (mvT hZ (ow hw 107 rfl)) (mvT hZ (ow hw 44 rfl)) (mvT hZ (ow hw 108 rfl)) (by decide) (backOf (W := 0) (rmPC_4_1 l Z az hw [] b1 (1 : Int32) c2 zc fm kb1 (((c1 >>> ((0 : Int32) &&& 31)).toInt8.toInt32).toInt8.toInt32) (((c1 >>> ((8 : Int32) &&& 31)).toInt8.toInt32).toInt8.toInt32) (0 : Int32) (0 : Int32) (0 : Int32) (0 : Int32) (0 : Int32) (0 : Int32) T5.heap n0 Zs6 S_C hzc S_F hfm S_A S_H S_L Va5 E_b1 g_b1 rfl) hZ (ow hw 108 rfl) (ow hw 44 rfl) (by decide) (by decide)) (g := (mkF m 20 #[vr a0, vi 1, vi 4, vr b1, vi 1] [.int c2, .int 1, .ref b1])) rfl (by rw [hml]; rfl) (argsL := [.ref b1, .int 1, .int c2]) (rest := []) (lenOf pd_19 rfl) rfl (oW rfl rfl) (hb hby d22_20) (fun _ _ => ⟨rfl, rfl, (by decide : 1 + 0 ≤ _), (by decide : 8 + 0 ≤ _)⟩)
  dsimp only [Pt.U, Pt.locs, Pt.cells, Pt.slots] at X9 l9 y9 z9 st9 hQ9
  subst l9 y9 z9
  obtain ⟨rfl, N9q, K9, Va9⟩ := hQ9
  have N9 := Fr.app N5 N9q
  have S_C := own_stak K9 (allS (P := fun x => ∀ cell : Cell, (T5.heap)[x]? = some cell → cell.vm.isStatics = false) (Exa.nostat E_b1) all0) S_C
  have S_F := own_stak K9 (allS (P := fun x => ∀ cell : Cell, (T5.heap)[x]? = some cell → cell.vm.isStatics = false) (Exa.nostat E_b1) all0) S_F
  have S_A := own_stak K9 (allS (P := fun x => ∀ cell : Cell, (T5.heap)[x]? = some cell → cell.vm.isStatics = false) (Exa.nostat E_b1) all0) S_A
  have S_H := own_stak K9 (allS (P := fun x => ∀ cell : Cell, (T5.heap)[x]? = some cell → cell.vm.isStatics = false) (Exa.nostat E_b1) all0) S_H
  have S_L := own_stak K9 (allS (P := fun x => ∀ cell : Cell, (T5.heap)[x]? = some cell → cell.vm.isStatics = false) (Exa.nostat E_b1) all0) S_L
  have V_a0 := V_a0.keep K9 (ninS ne_a0_b1 nin0)
  have E_b1 := E_b1.keep K9
  have Zs10 := Nat.le_trans Zs6 K9.1
  have Kp11 := Kp7.trans K9 (allS (Or.inr sz_b1) all0)
  refine Go.st (S' := T9.setTop (mkF m 19 #[vr a0, vi 2, vi 4, vr b1, vi 2] [.int 2, .ref a0, .int 2, .ref b1])) (fun _ kk => st9 _ (XS.iinc X9.here hx rfl (hb hby d22_23) rfl (l' := #[vr a0, vi 2, vi 4, vr b1, vi 1]) rfl (XS.iinc X9.here hx rfl (hb hby d22_26) rfl (l' := #[vr a0, vi 2, vi 4, vr b1, vi 2]) rfl (XS.goto X9.here hx rfl (pc0 := 29) (pc' := 8) rfl (hb hby d22_29) (by decide) (by decide) (XS.iload X9.here hx rfl (hb hby d22_8) rfl (XS.iloadN X9.here hx rfl (hb hby d22_10) rfl (XS.icmpNo X9.here hx rfl (hb hby d22_11) rfl (tlt (by decide : (2 : Int32) < (4 : Int32))).2.1 (XS.aloadN X9.here hx rfl (hb hby d22_14) rfl rfl (XS.iload X9.here hx rfl (hb hby d22_15) rfl (XS.aloadN X9.here hx rfl (hb hby d22_17) rfl rfl (XS.iloadN X9.here hx rfl (hb hby d22_18) rfl kk))))))))))) ?_
  obtain ⟨cl12, Ar12, qk12, S12, Ng12, H12, G12⟩ := (id V_a0)
  have hin12 : ¬ ((2 : Int32) < 0 ∨ cl12.slots.size ≤ ((2 : Int32)).toNatClampNeg) := inb_of S12 ⟨by decide, by decide⟩
  have hat12 : cl12.slots[((2 : Int32)).toNatClampNeg]? = some (.int c3) := Has.at H12 hin12 rfl
  refine Go.st (S' := T9.setTop (mkF m 20 #[vr a0, vi 2, vi 4, vr b1, vi 2] [.int c3, .int 2, .ref b1])) (fun _ kk => X9.caload hx (j := (2 : Int32)) (v := (.int c3)) Ar12.1 (State.isArrayOf_alike hZ.alike Ar12.2.1) Ar12.2.2 hin12 hat12 (g := (mkF m 19 #[vr a0, vi 2, vi 4, vr b1, vi 2] [.int 2, .ref a0, .int 2, .ref b1])) rfl rfl (hb hby d22_19) _ kk) ?_
  obtain ⟨_, _, ⟨T13, L13, k13, n13⟩, -, X13, ⟨Lc13, hQ13, l13, y13, z13⟩, st13⟩ := Jvm.LawKit.callS X9 hx (y := mN26) hown (mvT hZ (ow hw 106 rfl)) (mvT hZ (ow hw 107 rfl)) (mvT hZ (ow hw 44 rfl)) (mvT hZ (ow hw 108 rfl)) (by decide) (backOf (W := 0) (rmPC_4_2 l Z az hw [] b1 (2 : Int32) c3 zc fm kb1 (((c1 >>> ((0 : Int32) &&& 31)).toInt8.toInt32).toInt8.toInt32) (((c1 >>> ((8 : Int32) &&& 31)).toInt8.toInt32).toInt8.toInt32) (((c2 >>> ((0 : Int32) &&& 31)).toInt8.toInt32).toInt8.toInt32) (((c2 >>> ((8 : Int32) &&& 31)).toInt8.toInt32).toInt8.toInt32) (0 : Int32) (0 : Int32) (0 : Int32) (0 : Int32) T9.heap n0 Zs10 S_C hzc S_F hfm S_A S_H S_L Va9 E_b1 g_b1 rfl) hZ (ow hw 108 rfl) (ow hw 44 rfl) (by decide) (by decide)) (g := (mkF m 20 #[vr a0, vi 2, vi 4, vr b1, vi 2] [.int c3, .int 2, .ref b1])) rfl (by rw [hml]; rfl) (argsL := [.ref b1, .int 2, .int c3]) (rest := []) (lenOf pd_19 rfl) rfl (oW rfl rfl) (hb hby d22_20) (fun _ _ => ⟨rfl, rfl, (by decide : 1 + 0 ≤ _), (by decide : 8 + 0 ≤ _)⟩)
  dsimp only [Pt.U, Pt.locs, Pt.cells, Pt.slots] at X13 l13 y13 z13 st13 hQ13
  subst l13 y13 z13
  obtain ⟨rfl, N13q, K13, Va13⟩ := hQ13
  have N13 := Fr.app N9 N13q
  have S_C := own_stak K13 (allS (P := fun x => ∀ cell : Cell, (T9.heap)[x]? = some cell → cell.vm.isStatics = false) (Exa.nostat E_b1) all0) S_C
  have S_F := own_stak K13 (allS (P := fun x => ∀ cell : Cell, (T9.heap)[x]? = some cell → cell.vm.isStatics = false) (Exa.nostat E_b1) all0) S_F
  have S_A := own_stak K13 (allS (P := fun x => ∀ cell : Cell, (T9.heap)[x]? = some cell → cell.vm.isStatics = false) (Exa.nostat E_b1) all0) S_A
  have S_H := own_stak K13 (allS (P := fun x => ∀ cell : Cell, (T9.heap)[x]? = some cell → cell.vm.isStatics = false) (Exa.nostat E_b1) all0) S_H
  have S_L := own_stak K13 (allS (P := fun x => ∀ cell : Cell, (T9.heap)[x]? = some cell → cell.vm.isStatics = false) (Exa.nostat E_b1) all0) S_L
  have V_a0 := V_a0.keep K13 (ninS ne_a0_b1 nin0)
  have E_b1 := E_b1.keep K13
  have Zs14 := Nat.le_trans Zs10 K13.1
  have Kp15 := Kp11.trans K13 (allS (Or.inr sz_b1) all0)
  refine Go.st (S' := T13.setTop (mkF m 19 #[vr a0, vi 3, vi 4, vr b1, vi 3] [.int 3, .ref a0, .int 3, .ref b1])) (fun _ kk => st13 _ (XS.iinc X13.here hx rfl (hb hby d22_23) rfl (l' := #[vr a0, vi 3, vi 4, vr b1, vi 2]) rfl (XS.iinc X13.here hx rfl (hb hby d22_26) rfl (l' := #[vr a0, vi 3, vi 4, vr b1, vi 3]) rfl (XS.goto X13.here hx rfl (pc0 := 29) (pc' := 8) rfl (hb hby d22_29) (by decide) (by decide) (XS.iload X13.here hx rfl (hb hby d22_8) rfl (XS.iloadN X13.here hx rfl (hb hby d22_10) rfl (XS.icmpNo X13.here hx rfl (hb hby d22_11) rfl (tlt (by decide : (3 : Int32) < (4 : Int32))).2.1 (XS.aloadN X13.here hx rfl (hb hby d22_14) rfl rfl (XS.iload X13.here hx rfl (hb hby d22_15) rfl (XS.aloadN X13.here hx rfl (hb hby d22_17) rfl rfl (XS.iloadN X13.here hx rfl (hb hby d22_18) rfl kk))))))))))) ?_
  obtain ⟨cl16, Ar16, qk16, S16, Ng16, H16, G16⟩ := (id V_a0)
  have hin16 : ¬ ((3 : Int32) < 0 ∨ cl16.slots.size ≤ ((3 : Int32)).toNatClampNeg) := inb_of S16 ⟨by decide, by decide⟩
  have hat16 : cl16.slots[((3 : Int32)).toNatClampNeg]? = some (.int c4) := Has.at H16 hin16 rfl
  refine Go.st (S' := T13.setTop (mkF m 20 #[vr a0, vi 3, vi 4, vr b1, vi 3] [.int c4, .int 3, .ref b1])) (fun _ kk => X13.caload hx (j := (3 : Int32)) (v := (.int c4)) Ar16.1 (State.isArrayOf_alike hZ.alike Ar16.2.1) Ar16.2.2 hin16 hat16 (g := (mkF m 19 #[vr a0, vi 3, vi 4, vr b1, vi 3] [.int 3, .ref a0, .int 3, .ref b1])) rfl rfl (hb hby d22_19) _ kk) ?_
  obtain ⟨_, _, ⟨T17, L17, k17, n17⟩, -, X17, ⟨Lc17, hQ17, l17, y17, z17⟩, st17⟩ := Jvm.LawKit.callS X13 hx (y := mN26) hown (mvT hZ (ow hw 106 rfl)) (mvT hZ (ow hw 107 rfl)) (mvT hZ (ow hw 44 rfl)) (mvT hZ (ow hw 108 rfl)) (by decide) (backOf (W := 0) (rmPC_4_3 l Z az hw [] b1 (3 : Int32) c4 zc fm kb1 (((c1 >>> ((0 : Int32) &&& 31)).toInt8.toInt32).toInt8.toInt32) (((c1 >>> ((8 : Int32) &&& 31)).toInt8.toInt32).toInt8.toInt32) (((c2 >>> ((0 : Int32) &&& 31)).toInt8.toInt32).toInt8.toInt32) (((c2 >>> ((8 : Int32) &&& 31)).toInt8.toInt32).toInt8.toInt32) (((c3 >>> ((0 : Int32) &&& 31)).toInt8.toInt32).toInt8.toInt32) (((c3 >>> ((8 : Int32) &&& 31)).toInt8.toInt32).toInt8.toInt32) (0 : Int32) (0 : Int32) T13.heap n0 Zs14 S_C hzc S_F hfm S_A S_H S_L Va13 E_b1 g_b1 rfl) hZ (ow hw 108 rfl) (ow hw 44 rfl) (by decide) (by decide)) (g := (mkF m 20 #[vr a0, vi 3, vi 4, vr b1, vi 3] [.int c4, .int 3, .ref b1])) rfl (by rw [hml]; rfl) (argsL := [.ref b1, .int 3, .int c4]) (rest := []) (lenOf pd_19 rfl) rfl (oW rfl rfl) (hb hby d22_20) (fun _ _ => ⟨rfl, rfl, (by decide : 1 + 0 ≤ _), (by decide : 8 + 0 ≤ _)⟩)
  dsimp only [Pt.U, Pt.locs, Pt.cells, Pt.slots] at X17 l17 y17 z17 st17 hQ17
  subst l17 y17 z17
  obtain ⟨rfl, N17q, K17, Va17⟩ := hQ17
  have N17 := Fr.app N13 N17q
  have S_C := own_stak K17 (allS (P := fun x => ∀ cell : Cell, (T13.heap)[x]? = some cell → cell.vm.isStatics = false) (Exa.nostat E_b1) all0) S_C
  have S_F := own_stak K17 (allS (P := fun x => ∀ cell : Cell, (T13.heap)[x]? = some cell → cell.vm.isStatics = false) (Exa.nostat E_b1) all0) S_F
  have S_A := own_stak K17 (allS (P := fun x => ∀ cell : Cell, (T13.heap)[x]? = some cell → cell.vm.isStatics = false) (Exa.nostat E_b1) all0) S_A
  have S_H := own_stak K17 (allS (P := fun x => ∀ cell : Cell, (T13.heap)[x]? = some cell → cell.vm.isStatics = false) (Exa.nostat E_b1) all0) S_H
  have S_L := own_stak K17 (allS (P := fun x => ∀ cell : Cell, (T13.heap)[x]? = some cell → cell.vm.isStatics = false) (Exa.nostat E_b1) all0) S_L
  have V_a0 := V_a0.keep K17 (ninS ne_a0_b1 nin0)
  have E_b1 := E_b1.keep K17
  have Zs18 := Nat.le_trans Zs14 K17.1
  have Kp19 := Kp15.trans K17 (allS (Or.inr sz_b1) all0)
  refine Go.st (S' := T17.setTop (mkF m 33 #[vr a0, vi 4, vi 4, vr b1, vi 4] [.ref b1])) (fun _ kk => st17 _ (XS.iinc X17.here hx rfl (hb hby d22_23) rfl (l' := #[vr a0, vi 4, vi 4, vr b1, vi 3]) rfl (XS.iinc X17.here hx rfl (hb hby d22_26) rfl (l' := #[vr a0, vi 4, vi 4, vr b1, vi 4]) rfl (XS.goto X17.here hx rfl (pc0 := 29) (pc' := 8) rfl (hb hby d22_29) (by decide) (by decide) (XS.iload X17.here hx rfl (hb hby d22_8) rfl (XS.iloadN X17.here hx rfl (hb hby d22_10) rfl (XS.icmpYes X17.here hx rfl (pc0 := 11) (pc' := 32) rfl (hb hby d22_11) rfl (flt (by decide : ¬ ((4 : Int32) < (4 : Int32)))).2.1 (by decide) (by decide) (XS.aloadN X17.here hx rfl (hb hby d22_32) rfl rfl kk)))))))) ?_
  exact Go.retA X17 hx hlk Bd.returns rfl rfl (hb hby d22_33) (by exact ⟨_, _, rfl, N17, Kp19, Va17, E_b1, sz_b1⟩) (by decide) (by decide)
def Q_c5_4_0 (Z : State) (a2 : Addr) (k2 : ClassId) (c1 : Int32) (c2 : Int32) (c3 : Int32) (c4 : Int32) (h0 : Heap) (n0 : Nat) (v : Option Value) (h : Heap) (L : List Loc) : Prop := v = some (.int 0) ∧ Fr n0 L ∧ Keep h0 h [a2] ∧ Arv Z h a2 k2 .byte (4 : Int32) [(.int 0), (.int 0), (.int 0), (.int 0)] (.int 0)
theorem rmC5_4_0 (l : Launch) (Z : State) (az : Array Value) (hw : HW az Z) (ws : List Jvm.Cond) (a0 : Addr) (p1 : Int32) (a2 : Addr) (p3 : Int32) (p4 : Int32) (k0 k2 : ClassId) (c1 : Int32) (c2 : Int32) (c3 : Int32) (c4 : Int32) (h0 : Heap) (n0 : Nat) (Z0 : n0 ≤ h0.size) (V_a0 : Arv Z h0 a0 k0 .char (4 : Int32) [(.int c1), (.int c2), (.int c3), (.int c4)] (.int 0)) (V_a2 : Arv Z h0 a2 k2 .byte (4 : Int32) [(.int 0), (.int 0), (.int 0), (.int 0)] (.int 0)) (ne : a0 ≠ a2) (g_a2 : n0 ≤ a2) (h1 : p1 = 0) (h3 : p3 = 0) (h4 : p4 = (4 : Int32))  (u1 : (255 : Int32) < c1) :
    MF l mN21 (Jvm.Cond.code mN21 jdk_52_method_21_code 7 (some .int) :: ws) (rO 0 0 0 0) #[(.ref a0), (.int p1), (.ref a2), (.int p3), (.int p4)] Z h0 (Q_c5_4_0 Z a2 k2 c1 c2 c3 c4 h0 n0) := by
  refine MetFree.of_bodySF (plainFor_of_name pn_3) hisR ?_
  intro p e s m args below meth c s₁ Bd hml0 hP hK
  obtain ⟨rfl, hZ, hh⟩ := hP
  have hx := Bd.exec
  have hby := Bd.bytes
  have hlk : meth.locks = false := Bd.notSynchronized
  have hml : c.maxLocals = 7 := hml0
  have hown : s.vm.findClass "java/lang/StringUTF16" = some m.cls := findClass_of_methodNamed Bd.named
  have X0 : Stand p l e (rO 0 0 0 0) s m #[(.ref a0), (.int p1), (.ref a2), (.int p3), (.int p4)] below meth c s₁ [] 0 0 := Stand.of_body Bd
  have e0 : s₁.heap = h0 := by rw [← hh, Bd.state]; rfl
  have N0 := Fr.nil n0
  show Go p e below s ((Q_c5_4_0 Z a2 k2 c1 c2 c3 c4 h0 n0)) (rO 0 0 0 0).cells (rO 0 0 0 0).slots (s₁.setTop (entryFrame m #[(.ref a0), (.int p1), (.ref a2), (.int p3), (.int p4)] 7))
  rw [ef_9 m a0 p1 a2 p3 p4]
  subst h1 h3 h4
  refine Go.st (S' := s₁.setTop (mkF m 12 #[vr a0, vi 0, vr a2, vi 0, vi 4, vi 0, .unset] [.int 0, .ref a0])) (fun _ kk => XS.iconst X0.here hx rfl (hb hby d9_0) (XS.istore X0.here hx rfl (hb hby d9_1) rfl (l' := #[vr a0, vi 0, vr a2, vi 0, vi 4, vi 0, .unset]) rfl (XS.iload X0.here hx rfl (hb hby d9_3) rfl (XS.iload X0.here hx rfl (hb hby d9_5) rfl (XS.icmpNo X0.here hx rfl (hb hby d9_7) rfl (tlt (by decide : (0 : Int32) < (4 : Int32))).2.1 (XS.aloadN X0.here hx rfl (hb hby d9_10) rfl rfl (XS.iloadN X0.here hx rfl (hb hby d9_11) rfl kk))))))) ?_
  obtain ⟨cl1, Ar1, qk1, S1, Ng1, H1, G1⟩ := (id V_a0)
  have hin1 : ¬ ((0 : Int32) < 0 ∨ cl1.slots.size ≤ ((0 : Int32)).toNatClampNeg) := inb_of S1 ⟨by decide, by decide⟩
  have hat1 : cl1.slots[((0 : Int32)).toNatClampNeg]? = some (.int c1) := Has.at H1 hin1 rfl
  refine Go.st (S' := s₁.setTop (mkF m 25 #[vr a0, vi 0, vr a2, vi 0, vi 4, vi 0, vi c1] [.int 0])) (fun _ kk => X0.caload hx (j := (0 : Int32)) (v := (.int c1)) (by rw [e0]; exact Ar1.1) (State.isArrayOf_alike hZ.alike Ar1.2.1) Ar1.2.2 hin1 hat1 (g := (mkF m 12 #[vr a0, vi 0, vr a2, vi 0, vi 4, vi 0, .unset] [.int 0, .ref a0])) rfl rfl (hb hby d9_12) _ (XS.istore X0.here hx rfl (hb hby d9_13) rfl (l' := #[vr a0, vi 0, vr a2, vi 0, vi 4, vi 0, vi c1]) rfl (XS.iload X0.here hx rfl (hb hby d9_15) rfl (XS.sipush X0.here hx rfl (hb hby d9_17) (XS.icmpNo X0.here hx rfl (hb hby d9_20) rfl (tlt u1).2.2.2 (XS.iload X0.here hx rfl (hb hby d9_23) rfl kk)))))) ?_
  exact Go.retI X0 hx hlk Bd.returns (hb hby d9_25) (by rw [e0]; exact ⟨rfl, N0, (Keep.refl h0 [a2]), V_a2⟩) (by decide) (by decide)
def Q_c3_4_0 (Z : State) (c1 : Int32) (c2 : Int32) (c3 : Int32) (c4 : Int32) (h0 : Heap) (n0 : Nat) (v : Option Value) (h : Heap) (L : List Loc) : Prop := ∃ (b : Addr) (k : ClassId), v = some (.ref b) ∧ Fr n0 L ∧ Keep h0 h [] ∧ Arv Z h b k .byte (8 : Int32) [(.int (((c1 >>> ((0 : Int32) &&& 31)).toInt8.toInt32).toInt8.toInt32)), (.int (((c1 >>> ((8 : Int32) &&& 31)).toInt8.toInt32).toInt8.toInt32)), (.int (((c2 >>> ((0 : Int32) &&& 31)).toInt8.toInt32).toInt8.toInt32)), (.int (((c2 >>> ((8 : Int32) &&& 31)).toInt8.toInt32).toInt8.toInt32)), (.int (((c3 >>> ((0 : Int32) &&& 31)).toInt8.toInt32).toInt8.toInt32)), (.int (((c3 >>> ((8 : Int32) &&& 31)).toInt8.toInt32).toInt8.toInt32)), (.int (((c4 >>> ((0 : Int32) &&& 31)).toInt8.toInt32).toInt8.toInt32)), (.int (((c4 >>> ((8 : Int32) &&& 31)).toInt8.toInt32).toInt8.toInt32))] (.int 0) ∧ Exa Z h b "[B" ∧ h0.size ≤ b
theorem rmC3_4_0 (l : Launch) (Z : State) (az : Array Value) (hw : HW az Z) (ws : List Jvm.Cond) (a0 : Addr) (p1 : Int32) (p2 : Int32) (zc : Int32) (fm : Value) (k0 : ClassId) (c1 : Int32) (c2 : Int32) (c3 : Int32) (c4 : Int32) (h0 : Heap) (n0 : Nat) (Z0 : n0 ≤ h0.size) (S_C : tS0 Z h0 (.int zc)) (hzc : ¬ zc = 0) (S_F : tS1 Z h0 fm) (hfm : fm.isRef = true) (S_A : tS2 Z h0 (.int 1)) (S_H : tS3 Z h0 (.int 0)) (S_L : tS4 Z h0 (.int 8)) (V_a0 : Arv Z h0 a0 k0 .char (4 : Int32) [(.int c1), (.int c2), (.int c3), (.int c4)] (.int 0)) (h1 : p1 = 0) (h2 : p2 = (4 : Int32)) (y1 : 0 ≤ c1.toInt ∧ c1.toInt ≤ 65535) (y2 : 0 ≤ c2.toInt ∧ c2.toInt ≤ 65535) (y3 : 0 ≤ c3.toInt ∧ c3.toInt ≤ 65535) (y4 : 0 ≤ c4.toInt ∧ c4.toInt ≤ 65535)  (u1 : (255 : Int32) < c1) :
    MF l mN20 (Jvm.Cond.code mN20 jdk_52_method_16_code 6 (some (.array .byte)) :: ws) (rO 3 2 12 40) #[(.ref a0), (.int p1), (.int p2)] Z h0 (Q_c3_4_0 Z c1 c2 c3 c4 h0 n0) := by
  refine MetFree.of_bodySF (plainFor_of_name pn_3) hisR ?_
  intro p e s m args below meth c s₁ Bd hml0 hP hK
  obtain ⟨rfl, hZ, hh⟩ := hP
  have hx := Bd.exec
  have hby := Bd.bytes
  have hlk : meth.locks = false := Bd.notSynchronized
  have hml : c.maxLocals = 6 := hml0
  have hown : s.vm.findClass "java/lang/StringUTF16" = some m.cls := findClass_of_methodNamed Bd.named
  have X0 : Stand p l e (rO 3 2 12 40) s m #[(.ref a0), (.int p1), (.int p2)] below meth c s₁ [] 0 0 := Stand.of_body Bd
  have e0 : s₁.heap = h0 := by rw [← hh, Bd.state]; rfl
  have N0 := Fr.nil n0
  show Go p e below s ((Q_c3_4_0 Z c1 c2 c3 c4 h0 n0)) (rO 3 2 12 40).cells (rO 3 2 12 40).slots (s₁.setTop (entryFrame m #[(.ref a0), (.int p1), (.int p2)] 6))
  rw [ef_8 m a0 p1 p2]
  subst h1 h2
  have hix0 : ¬ ((0 : Int32) <<< ((1 : Int32) &&& 31)) < 0 ∧ ((0 : Int32) <<< ((1 : Int32) &&& 31)) < (8 : Int32) := by decide
  have hix1 : ¬ (((0 : Int32) <<< ((1 : Int32) &&& 31)) + (1 : Int32)) < 0 ∧ (((0 : Int32) <<< ((1 : Int32) &&& 31)) + (1 : Int32)) < (8 : Int32) := by decide
  refine Go.st (S' := s₁.setTop (mkF m 1 #[vr a0, vi 0, vi 4, .unset, .unset, .unset] [.int 4])) (fun _ kk => XS.iloadN X0.here hx rfl (hb hby d8_0) rfl kk) ?_
  obtain ⟨T1, h1, k1, X1, e1, E1, A1, E_b1, st1⟩ := newPE X0 hx hZ (ow hw 20 rfl) e0 (g := (mkF m 1 #[vr a0, vi 0, vi 4, .unset, .unset, .unset] [.int 4])) rfl (hb hby d8_1) rfl (by decide) (cap := 4) (by decide) (by decide) (by decide : 0 + 1 ≤ _) (by decide : 0 + 4 ≤ _) (ad := "[B") rfl
  obtain ⟨b1, g1⟩ : ∃ z, z = h0.size := ⟨_, rfl⟩
  rw [← g1] at A1 E_b1 st1
  have ne_a0_b1 : a0 ≠ b1 := Nat.ne_of_lt (Nat.lt_of_lt_of_le V_a0.lt (Nat.le_of_eq g1.symm))
  have g_b1 : n0 ≤ b1 := Nat.le_trans Z0 (Nat.le_of_eq g1.symm)
  have sz_b1 : h0.size ≤ b1 := Nat.le_trans (Keep.refl h0 []).1 (Nat.le_of_eq g1.symm)
  have S_C := S_C.ext E1
  have S_F := S_F.ext E1
  have S_A := S_A.ext E1
  have S_H := S_H.ext E1
  have S_L := S_L.ext E1
  have V_a0 := V_a0.ext E1
  have Zs2 := Nat.le_trans Z0 E1.1
  have Kp3 := (Keep.refl h0 []).ext E1
  have V_b1 : Arv Z h1 b1 k1 .byte (4 : Int32) [(.int 0), (.int 0), (.int 0), (.int 0)] (.int 0) := (Arv.new A1 (by decide)).pad (pad_rep [] (.int 0) 4)
  refine Go.st (S' := T1.setTop (mkF m 9 #[vr a0, vi 0, vi 4, vr b1, .unset, .unset] [.int 4, .int 0, .ref b1, .int 0, .ref a0])) (fun _ kk => st1 _ (XS.astoreN X1.here hx rfl (hb hby d8_3) rfl rfl (l' := #[vr a0, vi 0, vi 4, vr b1, .unset, .unset]) rfl (XS.aloadN X1.here hx rfl (hb hby d8_4) rfl rfl (XS.iloadN X1.here hx rfl (hb hby d8_5) rfl (XS.aloadN X1.here hx rfl (hb hby d8_6) rfl rfl (XS.iconst X1.here hx rfl (hb hby d8_7) (XS.iloadN X1.here hx rfl (hb hby d8_8) rfl kk))))))) ?_
  obtain ⟨_, _, ⟨T4, L4, k4, n4⟩, -, X4, ⟨Lc4, hQ4, l4, y4, z4⟩, st4⟩ := Jvm.LawKit.callS X1 hx (y := mN21) hown (mvT hZ (ow hw 46 rfl)) (mvT hZ (ow hw 47 rfl)) (mvT hZ (ow hw 44 rfl)) (mvT hZ (ow hw 48 rfl)) (by decide) (backOf (W := 0) (rmC5_4_0 l Z az hw [] a0 (0 : Int32) b1 (0 : Int32) (4 : Int32) k0 k1 c1 c2 c3 c4 h1 n0 Zs2 V_a0 V_b1 ne_a0_b1 g_b1 rfl rfl rfl u1) hZ (ow hw 48 rfl) (ow hw 44 rfl) (by decide) (by decide)) (g := (mkF m 9 #[vr a0, vi 0, vi 4, vr b1, .unset, .unset] [.int 4, .int 0, .ref b1, .int 0, .ref a0])) rfl (by rw [hml]; rfl) (argsL := [.ref a0, .int 0, .ref b1, .int 0, .int 4]) (rest := []) (lenOf pd_8 rfl) rfl (oW rfl rfl) (hb hby d8_9) (fun _ _ => ⟨rfl, e1, (by decide : 1 + 0 ≤ _), (by decide : 4 + 0 ≤ _)⟩)
  dsimp only [Pt.U, Pt.locs, Pt.cells, Pt.slots] at X4 l4 y4 z4 st4 hQ4
  subst l4 y4 z4
  obtain ⟨rfl, N4q, K4, Va4⟩ := hQ4
  have N4 := Fr.app N0 N4q
  have S_C := own_stak K4 (allS (P := fun x => ∀ cell : Cell, (h1)[x]? = some cell → cell.vm.isStatics = false) (Exa.nostat E_b1) all0) S_C
  have S_F := own_stak K4 (allS (P := fun x => ∀ cell : Cell, (h1)[x]? = some cell → cell.vm.isStatics = false) (Exa.nostat E_b1) all0) S_F
  have S_A := own_stak K4 (allS (P := fun x => ∀ cell : Cell, (h1)[x]? = some cell → cell.vm.isStatics = false) (Exa.nostat E_b1) all0) S_A
  have S_H := own_stak K4 (allS (P := fun x => ∀ cell : Cell, (h1)[x]? = some cell → cell.vm.isStatics = false) (Exa.nostat E_b1) all0) S_H
  have S_L := own_stak K4 (allS (P := fun x => ∀ cell : Cell, (h1)[x]? = some cell → cell.vm.isStatics = false) (Exa.nostat E_b1) all0) S_L
  have V_a0 := V_a0.keep K4 (ninS ne_a0_b1 nin0)
  have E_b1 := E_b1.keep K4
  have Zs5 := Nat.le_trans Zs2 K4.1
  have Kp6 := Kp3.trans K4 (allS (Or.inr sz_b1) all0)
  refine Go.st (S' := T4.setTop (mkF m 23 #[vr a0, vi 0, vi 4, vr b1, vi 0, .unset] [.int 4, .int 0, .ref a0])) (fun _ kk => st4 _ (XS.istore X4.here hx rfl (hb hby d8_12) rfl (l' := #[vr a0, vi 0, vi 4, vr b1, vi 0, .unset]) rfl (XS.iload X4.here hx rfl (hb hby d8_14) rfl (XS.iloadN X4.here hx rfl (hb hby d8_16) rfl (XS.icmpNo X4.here hx rfl (hb hby d8_17) rfl (feq (by decide : ¬ ((0 : Int32) = (4 : Int32)))).1 (XS.aloadN X4.here hx rfl (hb hby d8_20) rfl rfl (XS.iloadN X4.here hx rfl (hb hby d8_21) rfl (XS.iloadN X4.here hx rfl (hb hby d8_22) rfl kk)))))))) ?_
  obtain ⟨_, _, ⟨T7, L7, k7, n7⟩, -, X7, ⟨Lc7, hQ7, l7, y7, z7⟩, st7⟩ := Jvm.LawKit.callS X4 hx (y := mN27) hown (mvT hZ (ow hw 96 rfl)) (mvT hZ (ow hw 97 rfl)) (mvT hZ (ow hw 44 rfl)) (mvT hZ (ow hw 98 rfl)) (by decide) (backOf (W := 0) (rmTB_4 l Z az hw [] a0 (0 : Int32) (4 : Int32) zc fm k0 c1 c2 c3 c4 T4.heap n0 Zs5 S_C hzc S_F hfm S_A S_H S_L V_a0 rfl rfl) hZ (ow hw 98 rfl) (ow hw 44 rfl) (by decide) (by decide)) (g := (mkF m 23 #[vr a0, vi 0, vi 4, vr b1, vi 0, .unset] [.int 4, .int 0, .ref a0])) rfl (by rw [hml]; rfl) (argsL := [.ref a0, .int 0, .int 4]) (rest := []) (lenOf pd_7 rfl) rfl (oW rfl rfl) (hb hby d8_23) (fun _ _ => ⟨rfl, rfl, (by decide : 1 + 1 ≤ _), (by decide : 4 + 8 ≤ _)⟩)
  dsimp only [Pt.U, Pt.locs, Pt.cells, Pt.slots] at X7 l7 y7 z7 st7 hQ7
  subst l7 y7 z7
  obtain ⟨b7, kb7, rfl, N7q, K7, V_b7, E_b7, gb7⟩ := hQ7
  have Ex7 := own_extK K7
  have N7 := Fr.app N4 N7q
  have ne_a0_b7 : a0 ≠ b7 := Nat.ne_of_lt (Nat.lt_of_lt_of_le V_a0.lt gb7)
  have ne_b1_b7 : b1 ≠ b7 := Nat.ne_of_lt (Nat.lt_of_lt_of_le E_b1.lt gb7)
  have g_b7 : n0 ≤ b7 := Nat.le_trans Zs5 gb7
  have sz_b7 : h0.size ≤ b7 := Nat.le_trans Kp6.1 gb7
  have S_C := S_C.ext Ex7
  have S_F := S_F.ext Ex7
  have S_A := S_A.ext Ex7
  have S_H := S_H.ext Ex7
  have S_L := S_L.ext Ex7
  have V_a0 := V_a0.ext Ex7
  have E_b1 := E_b1.ext Ex7
  have Va4 := Va4.ext Ex7
  have Zs8 := Nat.le_trans Zs5 Ex7.1
  have Kp9 := Kp6.ext Ex7
  refine Go.st (S' := T7.setTop (mkF m 32 #[vr a0, vi 0, vi 4, vr b1, vi 0, vr b7] [.int 0, .ref b7])) (fun _ kk => st7 _ (XS.astore X7.here hx rfl (hb hby d8_26) rfl rfl (l' := #[vr a0, vi 0, vi 4, vr b1, vi 0, vr b7]) rfl (XS.aload X7.here hx rfl (hb hby d8_28) rfl rfl (XS.iload X7.here hx rfl (hb hby d8_30) rfl kk)))) ?_
  obtain ⟨_, _, ⟨T10, L10, k10, n10⟩, -, X10, ⟨Lc10, hQ10, l10, y10, z10⟩, st10⟩ := Jvm.LawKit.callS X7 hx (y := mN22) hown (mvT hZ (ow hw 112 rfl)) (mvT hZ (ow hw 113 rfl)) (mvT hZ (ow hw 44 rfl)) (mvT hZ (ow hw 114 rfl)) (by decide) (backOf (W := 0) (rmUg l Z az hw [] b7 (0 : Int32) zc fm kb7 (8 : Int32) [(((c1 >>> ((0 : Int32) &&& 31)).toInt8.toInt32).toInt8.toInt32), (((c1 >>> ((8 : Int32) &&& 31)).toInt8.toInt32).toInt8.toInt32), (((c2 >>> ((0 : Int32) &&& 31)).toInt8.toInt32).toInt8.toInt32), (((c2 >>> ((8 : Int32) &&& 31)).toInt8.toInt32).toInt8.toInt32), (((c3 >>> ((0 : Int32) &&& 31)).toInt8.toInt32).toInt8.toInt32), (((c3 >>> ((8 : Int32) &&& 31)).toInt8.toInt32).toInt8.toInt32), (((c4 >>> ((0 : Int32) &&& 31)).toInt8.toInt32).toInt8.toInt32), (((c4 >>> ((8 : Int32) &&& 31)).toInt8.toInt32).toInt8.toInt32)] T7.heap n0 Zs8 S_C hzc S_F hfm S_A S_H S_L V_b7 hix0 hix1) hZ (ow hw 114 rfl) (ow hw 44 rfl) (by decide) (by decide)) (g := (mkF m 32 #[vr a0, vi 0, vi 4, vr b1, vi 0, vr b7] [.int 0, .ref b7])) rfl (by rw [hml]; rfl) (argsL := [.ref b7, .int 0]) (rest := []) (lenOf pd_14 rfl) rfl (oW rfl rfl) (hb hby d8_32) (fun _ _ => ⟨rfl, rfl, (by decide : 2 + 0 ≤ _), (by decide : 12 + 0 ≤ _)⟩)
  dsimp only [Pt.U, Pt.locs, Pt.cells, Pt.slots] at X10 l10 y10 z10 st10 hQ10
  subst l10 y10 z10
  obtain ⟨hv10, N10q, e10⟩ := hQ10
  subst hv10
  have N10 := Fr.app N7 N10q
  refine Go.st (S' := T10.setTop (mkF m 35 #[vr a0, vi 0, vi 4, vr b1, vi 0, vr b7] [.int (own_g16 (bt [(((c1 >>> ((0 : Int32) &&& 31)).toInt8.toInt32).toInt8.toInt32), (((c1 >>> ((8 : Int32) &&& 31)).toInt8.toInt32).toInt8.toInt32), (((c2 >>> ((0 : Int32) &&& 31)).toInt8.toInt32).toInt8.toInt32), (((c2 >>> ((8 : Int32) &&& 31)).toInt8.toInt32).toInt8.toInt32), (((c3 >>> ((0 : Int32) &&& 31)).toInt8.toInt32).toInt8.toInt32), (((c3 >>> ((8 : Int32) &&& 31)).toInt8.toInt32).toInt8.toInt32), (((c4 >>> ((0 : Int32) &&& 31)).toInt8.toInt32).toInt8.toInt32), (((c4 >>> ((8 : Int32) &&& 31)).toInt8.toInt32).toInt8.toInt32)] ((0 : Int32) <<< ((1 : Int32) &&& 31))) (bt [(((c1 >>> ((0 : Int32) &&& 31)).toInt8.toInt32).toInt8.toInt32), (((c1 >>> ((8 : Int32) &&& 31)).toInt8.toInt32).toInt8.toInt32), (((c2 >>> ((0 : Int32) &&& 31)).toInt8.toInt32).toInt8.toInt32), (((c2 >>> ((8 : Int32) &&& 31)).toInt8.toInt32).toInt8.toInt32), (((c3 >>> ((0 : Int32) &&& 31)).toInt8.toInt32).toInt8.toInt32), (((c3 >>> ((8 : Int32) &&& 31)).toInt8.toInt32).toInt8.toInt32), (((c4 >>> ((0 : Int32) &&& 31)).toInt8.toInt32).toInt8.toInt32), (((c4 >>> ((8 : Int32) &&& 31)).toInt8.toInt32).toInt8.toInt32)] (((0 : Int32) <<< ((1 : Int32) &&& 31)) + (1 : Int32))))])) st10 ?_
  rw [show (own_g16 (bt [(((c1 >>> ((0 : Int32) &&& 31)).toInt8.toInt32).toInt8.toInt32), (((c1 >>> ((8 : Int32) &&& 31)).toInt8.toInt32).toInt8.toInt32), (((c2 >>> ((0 : Int32) &&& 31)).toInt8.toInt32).toInt8.toInt32), (((c2 >>> ((8 : Int32) &&& 31)).toInt8.toInt32).toInt8.toInt32), (((c3 >>> ((0 : Int32) &&& 31)).toInt8.toInt32).toInt8.toInt32), (((c3 >>> ((8 : Int32) &&& 31)).toInt8.toInt32).toInt8.toInt32), (((c4 >>> ((0 : Int32) &&& 31)).toInt8.toInt32).toInt8.toInt32), (((c4 >>> ((8 : Int32) &&& 31)).toInt8.toInt32).toInt8.toInt32)] ((0 : Int32) <<< ((1 : Int32) &&& 31))) (bt [(((c1 >>> ((0 : Int32) &&& 31)).toInt8.toInt32).toInt8.toInt32), (((c1 >>> ((8 : Int32) &&& 31)).toInt8.toInt32).toInt8.toInt32), (((c2 >>> ((0 : Int32) &&& 31)).toInt8.toInt32).toInt8.toInt32), (((c2 >>> ((8 : Int32) &&& 31)).toInt8.toInt32).toInt8.toInt32), (((c3 >>> ((0 : Int32) &&& 31)).toInt8.toInt32).toInt8.toInt32), (((c3 >>> ((8 : Int32) &&& 31)).toInt8.toInt32).toInt8.toInt32), (((c4 >>> ((0 : Int32) &&& 31)).toInt8.toInt32).toInt8.toInt32), (((c4 >>> ((8 : Int32) &&& 31)).toInt8.toInt32).toInt8.toInt32)] (((0 : Int32) <<< ((1 : Int32) &&& 31)) + (1 : Int32)))) = c1 from own_rtg y1]
  refine Go.st (S' := T10.setTop (mkF m 56 #[vr a0, vi 0, vi 4, vr b1, vi 0, vr b7] [.ref b7])) (fun _ kk => XS.sipush X10.here hx rfl (hb hby d8_35) (XS.icmpYes X10.here hx rfl (pc0 := 38) (pc' := 54) rfl (hb hby d8_38) rfl (tlt u1).2.2.1 (by decide) (by decide) (XS.aload X10.here hx rfl (hb hby d8_54) rfl rfl kk))) ?_
  exact Go.retA X10 hx hlk Bd.returns rfl rfl (hb hby d8_56) (by rw [e10]; exact ⟨_, _, rfl, N10, Kp9, V_b7, E_b7, sz_b7⟩) (by decide) (by decide)
theorem rmCd_4_1 (l : Launch) (Z : State) (az : Array Value) (hw : HW az Z) (ws : List Jvm.Cond) (a0 : Addr) (p1 : Int32) (k0 : ClassId) (vs : List Value) (h0 : Heap) (n0 : Nat) (Z0 : n0 ≤ h0.size) (V_a0 : Arv Z h0 a0 k0 .byte (8 : Int32) vs (.int 0)) (h1 : p1 = (4 : Int32)) :
    MF l mN19 (Jvm.Cond.code mN19 jdk_52_method_15_code 2 (some .byte) :: ws) (rO 0 0 0 0) #[(.ref a0), (.int p1)] Z h0 (PQ (.int 1) n0 h0) := by
  refine MetFree.of_bodySF (plainFor_of_name pn_3) hisR ?_
  intro p e s m args below meth c s₁ Bd hml0 hP hK
  obtain ⟨rfl, hZ, hh⟩ := hP
  have hx := Bd.exec
  have hby := Bd.bytes
  have hlk : meth.locks = false := Bd.notSynchronized
  have hml : c.maxLocals = 2 := hml0
  have hown : s.vm.findClass "java/lang/StringUTF16" = some m.cls := findClass_of_methodNamed Bd.named
  have X0 : Stand p l e (rO 0 0 0 0) s m #[(.ref a0), (.int p1)] below meth c s₁ [] 0 0 := Stand.of_body Bd
  have e0 : s₁.heap = h0 := by rw [← hh, Bd.state]; rfl
  have N0 := Fr.nil n0
  show Go p e below s ((PQ (.int 1) n0 h0)) (rO 0 0 0 0).cells (rO 0 0 0 0).slots (s₁.setTop (entryFrame m #[(.ref a0), (.int p1)] 2))
  rw [ef_10 m a0 p1]
  subst h1
  refine Go.st (S' := s₁.setTop (mkF m 2 #[vr a0, vi 4] [.ref a0, .int 4])) (fun _ kk => XS.iloadN X0.here hx rfl (hb hby d10_0) rfl (XS.aloadN X0.here hx rfl (hb hby d10_1) rfl rfl kk)) ?_
  obtain ⟨cl1, Ar1, -, S1, Ng1, -, -⟩ := (id V_a0)
  refine Go.st (S' := s₁.setTop (mkF m 3 #[vr a0, vi 4] [.int 8, .int 4])) (fun _ kk => X0.arraylength hx (by rw [e0]; exact Ar1.1) (State.isArrayOf_alike hZ.alike Ar1.2.1) (g := (mkF m 2 #[vr a0, vi 4] [.ref a0, .int 4])) rfl rfl (hb hby d10_2) _ (by rw [len_of S1 Ng1]; exact kk)) ?_
  refine Go.st (S' := s₁.setTop (mkF m 8 #[vr a0, vi 4] [.int ((((-4 : Int32).toUInt32 >>> ((31 : Int32) &&& 31).toUInt32).toInt32).toInt8.toInt32)])) (fun _ kk => XS.isub X0.here hx rfl (hb hby d10_3) rfl (XS.bipush X0.here hx rfl (hb hby d10_4) (XS.iushr X0.here hx rfl (hb hby d10_6) rfl (XS.i2b X0.here hx rfl (hb hby d10_7) rfl kk)))) ?_
  exact Go.retN X0 hx hlk (t := .byte) Bd.returns (by simp) (hb hby d10_8) (⟨rfl, N0, e0⟩) (by decide) (by decide)
def Q_in_4 (Z : State) (a0 : Addr) (c1 : Int32) (c2 : Int32) (c3 : Int32) (c4 : Int32) (h0 : Heap) (n0 : Nat) (v : Option Value) (h : Heap) (L : List Loc) : Prop := v = none ∧ Fr n0 L ∧ Keep h0 h [a0] ∧ CSt Z h a0 [c1, c2, c3, c4]
theorem rmI5_4_0 (l : Launch) (Z : State) (az : Array Value) (hw : HW az Z) (ws : List Jvm.Cond) (a0 : Addr) (a1 : Addr) (p2 : Int32) (p3 : Int32) (zc : Int32) (fm : Value) (k1 : ClassId) (c1 : Int32) (c2 : Int32) (c3 : Int32) (c4 : Int32) (h0 : Heap) (n0 : Nat) (Z0 : n0 ≤ h0.size) (S_C : tS0 Z h0 (.int zc)) (hzc : ¬ zc = 0) (S_F : tS1 Z h0 fm) (hfm : fm.isRef = true) (S_A : tS2 Z h0 (.int 1)) (S_H : tS3 Z h0 (.int 0)) (S_L : tS4 Z h0 (.int 8)) (E_a0 : Exa Z h0 a0 "java/lang/String") (F_coder : tF0 Z h0 a0 (.int 0)) (F_value : tF1 Z h0 a0 .null) (g_a0 : n0 ≤ a0) (ne : a0 ≠ a1) (V_a1 : Arv Z h0 a1 k1 .char (4 : Int32) [(.int c1), (.int c2), (.int c3), (.int c4)] (.int 0)) (h2 : p2 = 0) (h3 : p3 = (4 : Int32)) (y1 : 0 ≤ c1.toInt ∧ c1.toInt ≤ 65535) (y2 : 0 ≤ c2.toInt ∧ c2.toInt ≤ 65535) (y3 : 0 ≤ c3.toInt ∧ c3.toInt ≤ 65535) (y4 : 0 ≤ c4.toInt ∧ c4.toInt ≤ 65535)  (u1 : (255 : Int32) < c1) :
    MF l mN10 (Jvm.Cond.code mN10 jdk_42_method_149_code 6 none :: ws) (rO 4 2 12 57) #[(.ref a0), (.ref a1), (.int p2), (.int p3), .null] Z h0 (Q_in_4 Z a0 c1 c2 c3 c4 h0 n0) := by
  refine MetFree.of_bodySF (plainFor_of_name pn_1) hisR ?_
  intro p e s m args below meth c s₁ Bd hml0 hP hK
  obtain ⟨rfl, hZ, hh⟩ := hP
  have hx := Bd.exec
  have hby := Bd.bytes
  have hlk : meth.locks = false := Bd.notSynchronized
  have hml : c.maxLocals = 6 := hml0
  have hown : s.vm.findClass "java/lang/String" = some m.cls := findClass_of_methodNamed Bd.named
  have hnm := (name_of_methodNamed Bd.named Bd.method).1
  have X0 : Stand p l e (rO 4 2 12 57) s m #[(.ref a0), (.ref a1), (.int p2), (.int p3), .null] below meth c s₁ [] 0 0 := Stand.of_body Bd
  have e0 : s₁.heap = h0 := by rw [← hh, Bd.state]; rfl
  have N0 := Fr.nil n0
  show Go p e below s ((Q_in_4 Z a0 c1 c2 c3 c4 h0 n0)) (rO 4 2 12 57).cells (rO 4 2 12 57).slots (s₁.setTop (entryFrame m #[(.ref a0), (.ref a1), (.int p2), (.int p3), .null] 6))
  rw [ef_3n4 m a0 a1 p2 p3]
  subst h2 h3
  refine Go.st (S' := s₁.setTop (mkF m 1 #[vr a0, vr a1, vi 0, vi 4, .val .null, .unset] [.ref a0])) (fun _ kk => XS.aloadN X0.here hx rfl (hb hby d3_0) rfl rfl kk) ?_
  obtain ⟨T1, X1, e1, st1⟩ := initO X0 hx hZ hown (ow hw 16 rfl) (ow hw 17 rfl) (ow hw 18 rfl) e0 (g := (mkF m 1 #[vr a0, vr a1, vi 0, vi 4, .val .null, .unset] [.ref a0])) rfl (by rw [hml]; rfl) rfl (hb hby d3_1) (by decide) (W := 0) (oW rfl rfl) (by decide)
  refine Go.st (S' := T1.setTop (mkF m 27 #[vr a0, vr a1, vi 0, vi 4, .val .null, .unset] [])) (fun _ kk => st1 _ (XS.iloadN X1.here hx rfl (hb hby d3_4) rfl (XS.ifYes X1.here hx rfl (pc0 := 5) (pc' := 27) rfl (hb hby d3_5) rfl ((if0 _ _).trans (feq (by decide : ¬ ((4 : Int32) = (0 : Int32)))).2) (by decide) (by decide) kk))) ?_
  obtain ⟨T2, X2, e2, st2⟩ := getS2 X1 hx hZ hown (host := "") (Or.inl (ow hw 41 rfl)) Via.refl e1 S_C (g := (mkF m 27 #[vr a0, vr a1, vi 0, vi 4, .val .null, .unset] [])) rfl (hb hby d3_27)
  refine Go.st (S' := T2.setTop (mkF m 36 #[vr a0, vr a1, vi 0, vi 4, .val .null, .unset] [.int 4, .int 0, .ref a1])) (fun _ kk => st2 _ (XS.ifNo X2.here hx rfl (hb hby d3_30) rfl ((if0 _ _).trans (feq hzc).1) (XS.aloadN X2.here hx rfl (hb hby d3_33) rfl rfl (XS.iloadN X2.here hx rfl (hb hby d3_34) rfl (XS.iloadN X2.here hx rfl (hb hby d3_35) rfl kk))))) ?_
  obtain ⟨_, _, ⟨T3, L3, k3, n3⟩, -, X3, ⟨Lc3, hQ3, l3, y3, z3⟩, st3⟩ := Jvm.LawKit.callS X2 hx (y := mN20) hown (mvT hZ (ow hw 42 rfl)) (mvT hZ (ow hw 43 rfl)) (mvT hZ (ow hw 44 rfl)) (mvT hZ (ow hw 45 rfl)) (by decide) (backOf (W := 0) (rmC3_4_0 l Z az hw [] a1 (0 : Int32) (4 : Int32) zc fm k1 c1 c2 c3 c4 h0 n0 Z0 S_C hzc S_F hfm S_A S_H S_L V_a1 rfl rfl y1 y2 y3 y4 u1) hZ (ow hw 45 rfl) (ow hw 44 rfl) (by decide) (by decide)) (g := (mkF m 36 #[vr a0, vr a1, vi 0, vi 4, .val .null, .unset] [.int 4, .int 0, .ref a1])) rfl (by rw [hml]; rfl) (argsL := [.ref a1, .int 0, .int 4]) (rest := []) (lenOf pd_7 rfl) rfl (oW rfl rfl) (hb hby d3_36) (fun _ _ => ⟨rfl, e2, (by decide : 0 + 2 ≤ _), (by decide : 0 + 12 ≤ _)⟩)
  dsimp only [Pt.U, Pt.locs, Pt.cells, Pt.slots] at X3 l3 y3 z3 st3 hQ3
  subst l3 y3 z3
  obtain ⟨b3, kb3, rfl, N3q, K3, V_b3, E_b3, gb3⟩ := hQ3
  have Ex3 := own_extK K3
  have N3 := Fr.app N0 N3q
  have ne_a0_b3 : a0 ≠ b3 := Nat.ne_of_lt (Nat.lt_of_lt_of_le E_a0.lt gb3)
  have ne_a1_b3 : a1 ≠ b3 := Nat.ne_of_lt (Nat.lt_of_lt_of_le V_a1.lt gb3)
  have g_b3 : n0 ≤ b3 := Nat.le_trans Z0 gb3
  have sz_b3 : h0.size ≤ b3 := Nat.le_trans (Keep.refl h0 [a0]).1 gb3
  have S_C := S_C.ext Ex3
  have S_F := S_F.ext Ex3
  have S_A := S_A.ext Ex3
  have S_H := S_H.ext Ex3
  have S_L := S_L.ext Ex3
  have E_a0 := E_a0.ext Ex3
  have F_coder := F_coder.ext Ex3
  have F_value := F_value.ext Ex3
  have V_a1 := V_a1.ext Ex3
  have Zs4 := Nat.le_trans Z0 Ex3.1
  have Kp5 := (Keep.refl h0 [a0]).ext Ex3
  refine Go.st (S' := T3.setTop (mkF m 45 #[vr a0, vr a1, vi 0, vi 4, .val .null, vr b3] [.int 4, .ref b3, .ref a0])) (fun _ kk => st3 _ (XS.astore X3.here hx rfl (hb hby d3_39) rfl rfl (l' := #[vr a0, vr a1, vi 0, vi 4, .val .null, vr b3]) rfl (XS.aloadN X3.here hx rfl (hb hby d3_41) rfl rfl (XS.aload X3.here hx rfl (hb hby d3_42) rfl rfl (XS.iloadN X3.here hx rfl (hb hby d3_44) rfl kk))))) ?_
  obtain ⟨_, _, ⟨T6, L6, k6, n6⟩, -, X6, ⟨Lc6, hQ6, l6, y6, z6⟩, st6⟩ := Jvm.LawKit.callS X3 hx (y := mN19) hown (mvT hZ (ow hw 49 rfl)) (mvT hZ (ow hw 50 rfl)) (mvT hZ (ow hw 44 rfl)) (mvT hZ (ow hw 51 rfl)) (by decide) (backOf (W := 1) (rmCd_4_1 l Z az hw [] b3 (4 : Int32) kb3 _ T3.heap n0 Zs4 V_b3 rfl) hZ (ow hw 51 rfl) (ow hw 44 rfl) (by decide) (by decide)) (g := (mkF m 45 #[vr a0, vr a1, vi 0, vi 4, .val .null, vr b3] [.int 4, .ref b3, .ref a0])) rfl (by rw [hml]; rfl) (argsL := [.ref b3, .int 4]) (rest := [.ref a0]) (lenOf pd_9 rfl) rfl (oW rfl rfl) (hb hby d3_45) (fun _ _ => ⟨rfl, rfl, (by decide : 2 + 0 ≤ _), (by decide : 12 + 0 ≤ _)⟩)
  dsimp only [Pt.U, Pt.locs, Pt.cells, Pt.slots] at X6 l6 y6 z6 st6 hQ6
  subst l6 y6 z6
  obtain ⟨hv6, N6q, e6⟩ := hQ6
  subst hv6
  have N6 := Fr.app N3 N6q
  refine Go.st (S' := T6.setTop (mkF m 48 #[vr a0, vr a1, vi 0, vi 4, .val .null, vr b3] [.int 1, .ref a0])) st6 ?_
  obtain ⟨T7, h7, X7, e7, W7, st7⟩ := putFN X6 hx hZ hown (ow hw 26 rfl) Via.refl e6 F_coder E_a0 (Or.inr ⟨(ow hw 22 rfl), rfl, hnm⟩) (ow hw 7 rfl) (ty := .byte) (v' := .int (nar .byte (1 : Int32))) (by decide) rfl (fits_nar_byte _) (g := (mkF m 48 #[vr a0, vr a1, vi 0, vi 4, .val .null, vr b3] [.int 1, .ref a0])) rfl rfl (hb hby d3_48)
  have N7 := Fr.snoc X7 N6 g_a0
  have F_coder := F_coder.same W7
  have S_C := S_C.wr W7
  have S_F := S_F.wr W7
  have S_A := S_A.wr W7
  have S_H := S_H.wr W7
  have S_L := S_L.wr W7
  have E_a0 := E_a0.wr W7
  have F_value := F_value.other W7 (Or.inr (slot_ne (Or.inr (ow hw 21 rfl)) (Or.inr (ow hw 22 rfl)) (by decide) (t := (.array .byte)) (t' := .byte) (by decide) (by decide)))
  have V_a1 := V_a1.other W7 (Ne.symm ne)
  have E_b3 := E_b3.wr W7
  have V_b3 := V_b3.other W7 (Ne.symm ne_a0_b3)
  have Zs8 := Nat.le_trans Zs4 (Keep.of_wr W7).1
  have Kp9 := Kp5.wr W7 (Or.inl (List.mem_of_getElem? (i := 0) rfl))
  refine Go.st (S' := T7.setTop (mkF m 54 #[vr a0, vr a1, vi 0, vi 4, .val .null, vr b3] [.ref b3, .ref a0])) (fun _ kk => st7 _ (XS.aloadN X7.here hx rfl (hb hby d3_51) rfl rfl (XS.aload X7.here hx rfl (hb hby d3_52) rfl rfl kk))) ?_
  obtain ⟨T10, h10, X10, e10, W10, st10⟩ := putF X7 hx hZ hown (host := "") (Or.inl (ow hw 25 rfl)) Via.refl e7 F_value E_a0 (Or.inr ⟨(ow hw 21 rfl), rfl, hnm⟩) (ow hw 7 rfl) (ty := (.array .byte)) (by decide) rfl rfl (g := (mkF m 54 #[vr a0, vr a1, vi 0, vi 4, .val .null, vr b3] [.ref b3, .ref a0])) rfl rfl (hb hby d3_54)
  have N10 := Fr.snoc X10 N7 g_a0
  have F_value := F_value.same W10
  have S_C := S_C.wr W10
  have S_F := S_F.wr W10
  have S_A := S_A.wr W10
  have S_H := S_H.wr W10
  have S_L := S_L.wr W10
  have E_a0 := E_a0.wr W10
  have F_coder := F_coder.other W10 (Or.inr (slot_ne (Or.inr (ow hw 22 rfl)) (Or.inr (ow hw 21 rfl)) (by decide) (t := .byte) (t' := (.array .byte)) (by decide) (by decide)))
  have V_a1 := V_a1.other W10 (Ne.symm ne)
  have E_b3 := E_b3.wr W10
  have V_b3 := V_b3.other W10 (Ne.symm ne_a0_b3)
  have Zs11 := Nat.le_trans Zs8 (Keep.of_wr W10).1
  have Kp12 := Kp9.wr W10 (Or.inl (List.mem_of_getElem? (i := 0) rfl))
  refine Go.st (S' := T10.setTop (mkF m 57 #[vr a0, vr a1, vi 0, vi 4, .val .null, vr b3] [])) st10 ?_
  exact Go.ret0 X10 hx hlk Bd.returns (hb hby d3_57) (by rw [e10]; exact ⟨rfl, N10, Kp12, E_a0, _, _, _, _, (own_u16 [c1, c2, c3, c4]), F_coder, F_value, V_b3, Or.inr ⟨rfl, rfl, rfl, (List.forall_mem_cons.mpr ⟨y1, (List.forall_mem_cons.mpr ⟨y2, (List.forall_mem_cons.mpr ⟨y3, (List.forall_mem_cons.mpr ⟨y4, (fun _ hx => nomatch hx)⟩)⟩)⟩)⟩)⟩⟩) (by decide) (by decide)
def Q_c5_4_1 (Z : State) (a2 : Addr) (k2 : ClassId) (c1 : Int32) (c2 : Int32) (c3 : Int32) (c4 : Int32) (h0 : Heap) (n0 : Nat) (v : Option Value) (h : Heap) (L : List Loc) : Prop := v = some (.int 1) ∧ Fr n0 L ∧ Keep h0 h [a2] ∧ Arv Z h a2 k2 .byte (4 : Int32) [(.int ((c1.toInt8.toInt32).toInt8.toInt32)), (.int 0), (.int 0), (.int 0)] (.int 0)
theorem rmC5_4_1 (l : Launch) (Z : State) (az : Array Value) (hw : HW az Z) (ws : List Jvm.Cond) (a0 : Addr) (p1 : Int32) (a2 : Addr) (p3 : Int32) (p4 : Int32) (k0 k2 : ClassId) (c1 : Int32) (c2 : Int32) (c3 : Int32) (c4 : Int32) (h0 : Heap) (n0 : Nat) (Z0 : n0 ≤ h0.size) (V_a0 : Arv Z h0 a0 k0 .char (4 : Int32) [(.int c1), (.int c2), (.int c3), (.int c4)] (.int 0)) (V_a2 : Arv Z h0 a2 k2 .byte (4 : Int32) [(.int 0), (.int 0), (.int 0), (.int 0)] (.int 0)) (ne : a0 ≠ a2) (g_a2 : n0 ≤ a2) (h1 : p1 = 0) (h3 : p3 = 0) (h4 : p4 = (4 : Int32)) (u1 : ¬ (255 : Int32) < c1) (u2 : (255 : Int32) < c2) :
    MF l mN21 (Jvm.Cond.code mN21 jdk_52_method_21_code 7 (some .int) :: ws) (rO 0 0 0 0) #[(.ref a0), (.int p1), (.ref a2), (.int p3), (.int p4)] Z h0 (Q_c5_4_1 Z a2 k2 c1 c2 c3 c4 h0 n0) := by
  refine MetFree.of_bodySF (plainFor_of_name pn_3) hisR ?_
  intro p e s m args below meth c s₁ Bd hml0 hP hK
  obtain ⟨rfl, hZ, hh⟩ := hP
  have hx := Bd.exec
  have hby := Bd.bytes
  have hlk : meth.locks = false := Bd.notSynchronized
  have hml : c.maxLocals = 7 := hml0
  have hown : s.vm.findClass "java/lang/StringUTF16" = some m.cls := findClass_of_methodNamed Bd.named
  have X0 : Stand p l e (rO 0 0 0 0) s m #[(.ref a0), (.int p1), (.ref a2), (.int p3), (.int p4)] below meth c s₁ [] 0 0 := Stand.of_body Bd
  have e0 : s₁.heap = h0 := by rw [← hh, Bd.state]; rfl
  have N0 := Fr.nil n0
  show Go p e below s ((Q_c5_4_1 Z a2 k2 c1 c2 c3 c4 h0 n0)) (rO 0 0 0 0).cells (rO 0 0 0 0).slots (s₁.setTop (entryFrame m #[(.ref a0), (.int p1), (.ref a2), (.int p3), (.int p4)] 7))
  rw [ef_9 m a0 p1 a2 p3 p4]
  subst h1 h3 h4
  refine Go.st (S' := s₁.setTop (mkF m 12 #[vr a0, vi 0, vr a2, vi 0, vi 4, vi 0, .unset] [.int 0, .ref a0])) (fun _ kk => XS.iconst X0.here hx rfl (hb hby d9_0) (XS.istore X0.here hx rfl (hb hby d9_1) rfl (l' := #[vr a0, vi 0, vr a2, vi 0, vi 4, vi 0, .unset]) rfl (XS.iload X0.here hx rfl (hb hby d9_3) rfl (XS.iload X0.here hx rfl (hb hby d9_5) rfl (XS.icmpNo X0.here hx rfl (hb hby d9_7) rfl (tlt (by decide : (0 : Int32) < (4 : Int32))).2.1 (XS.aloadN X0.here hx rfl (hb hby d9_10) rfl rfl (XS.iloadN X0.here hx rfl (hb hby d9_11) rfl kk))))))) ?_
  obtain ⟨cl1, Ar1, qk1, S1, Ng1, H1, G1⟩ := (id V_a0)
  have hin1 : ¬ ((0 : Int32) < 0 ∨ cl1.slots.size ≤ ((0 : Int32)).toNatClampNeg) := inb_of S1 ⟨by decide, by decide⟩
  have hat1 : cl1.slots[((0 : Int32)).toNatClampNeg]? = some (.int c1) := Has.at H1 hin1 rfl
  refine Go.st (S' := s₁.setTop (mkF m 31 #[vr a0, vi 0, vr a2, vi 0, vi 4, vi 0, vi c1] [.int (c1.toInt8.toInt32), .int 0, .ref a2])) (fun _ kk => X0.caload hx (j := (0 : Int32)) (v := (.int c1)) (by rw [e0]; exact Ar1.1) (State.isArrayOf_alike hZ.alike Ar1.2.1) Ar1.2.2 hin1 hat1 (g := (mkF m 12 #[vr a0, vi 0, vr a2, vi 0, vi 4, vi 0, .unset] [.int 0, .ref a0])) rfl rfl (hb hby d9_12) _ (XS.istore X0.here hx rfl (hb hby d9_13) rfl (l' := #[vr a0, vi 0, vr a2, vi 0, vi 4, vi 0, vi c1]) rfl (XS.iload X0.here hx rfl (hb hby d9_15) rfl (XS.sipush X0.here hx rfl (hb hby d9_17) (XS.icmpYes X0.here hx rfl (pc0 := 20) (pc' := 26) rfl (hb hby d9_20) rfl (flt u1).2.2.2 (by decide) (by decide) (XS.aloadN X0.here hx rfl (hb hby d9_26) rfl rfl (XS.iloadN X0.here hx rfl (hb hby d9_27) rfl (XS.iload X0.here hx rfl (hb hby d9_28) rfl (XS.i2b X0.here hx rfl (hb hby d9_30) rfl kk))))))))) ?_
  obtain ⟨cl2, Ar2, qk2, S2, Ng2, H2, G2⟩ := (id V_a2)
  have hin2 : ¬ ((0 : Int32) < 0 ∨ cl2.slots.size ≤ ((0 : Int32)).toNatClampNeg) := inb_of S2 ⟨by decide, by decide⟩
  obtain ⟨T2, h2, X2, e2, W2, st2⟩ := stB X0 hx hZ e0 Ar2 (j := (0 : Int32)) hin2 (g := (mkF m 31 #[vr a0, vi 0, vr a2, vi 0, vi 4, vi 0, vi c1] [.int (c1.toInt8.toInt32), .int 0, .ref a2])) rfl rfl (hb hby d9_31)
  have V_a2 : Arv Z h2 a2 k2 .byte (4 : Int32) [(.int ((c1.toInt8.toInt32).toInt8.toInt32)), (.int 0), (.int 0), (.int 0)] (.int 0) := Arv.set Ar2 qk2 S2 Ng2 H2 G2 (fits_nar_byte _) W2 0 rfl (Nat.le_of_ble_eq_true rfl)
  have N2 := Fr.snoc X2 N0 g_a2
  have V_a0 := V_a0.other W2 ne
  have Zs3 := Nat.le_trans Z0 (Keep.of_wr W2).1
  have Kp4 := (Keep.refl h0 [a2]).wr W2 (Or.inl (List.mem_of_getElem? (i := 0) rfl))
  refine Go.st (S' := T2.setTop (mkF m 12 #[vr a0, vi 1, vr a2, vi 1, vi 4, vi 1, vi c1] [.int 1, .ref a0])) (fun _ kk => st2 _ (XS.iinc X2.here hx rfl (hb hby d9_32) rfl (l' := #[vr a0, vi 1, vr a2, vi 0, vi 4, vi 0, vi c1]) rfl (XS.iinc X2.here hx rfl (hb hby d9_35) rfl (l' := #[vr a0, vi 1, vr a2, vi 1, vi 4, vi 0, vi c1]) rfl (XS.iinc X2.here hx rfl (hb hby d9_38) rfl (l' := #[vr a0, vi 1, vr a2, vi 1, vi 4, vi 1, vi c1]) rfl (XS.goto X2.here hx rfl (pc0 := 41) (pc' := 3) rfl (hb hby d9_41) (by decide) (by decide) (XS.iload X2.here hx rfl (hb hby d9_3) rfl (XS.iload X2.here hx rfl (hb hby d9_5) rfl (XS.icmpNo X2.here hx rfl (hb hby d9_7) rfl (tlt (by decide : (1 : Int32) < (4 : Int32))).2.1 (XS.aloadN X2.here hx rfl (hb hby d9_10) rfl rfl (XS.iloadN X2.here hx rfl (hb hby d9_11) rfl kk)))))))))) ?_
  obtain ⟨cl5, Ar5, qk5, S5, Ng5, H5, G5⟩ := (id V_a0)
  have hin5 : ¬ ((1 : Int32) < 0 ∨ cl5.slots.size ≤ ((1 : Int32)).toNatClampNeg) := inb_of S5 ⟨by decide, by decide⟩
  have hat5 : cl5.slots[((1 : Int32)).toNatClampNeg]? = some (.int c2) := Has.at H5 hin5 rfl
  refine Go.st (S' := T2.setTop (mkF m 25 #[vr a0, vi 1, vr a2, vi 1, vi 4, vi 1, vi c2] [.int 1])) (fun _ kk => X2.caload hx (j := (1 : Int32)) (v := (.int c2)) (by rw [e2]; exact Ar5.1) (State.isArrayOf_alike hZ.alike Ar5.2.1) Ar5.2.2 hin5 hat5 (g := (mkF m 12 #[vr a0, vi 1, vr a2, vi 1, vi 4, vi 1, vi c1] [.int 1, .ref a0])) rfl rfl (hb hby d9_12) _ (XS.istore X2.here hx rfl (hb hby d9_13) rfl (l' := #[vr a0, vi 1, vr a2, vi 1, vi 4, vi 1, vi c2]) rfl (XS.iload X2.here hx rfl (hb hby d9_15) rfl (XS.sipush X2.here hx rfl (hb hby d9_17) (XS.icmpNo X2.here hx rfl (hb hby d9_20) rfl (tlt u2).2.2.2 (XS.iload X2.here hx rfl (hb hby d9_23) rfl kk)))))) ?_
  exact Go.retI X2 hx hlk Bd.returns (hb hby d9_25) (by rw [e2]; exact ⟨rfl, N2, Kp4, V_a2⟩) (by decide) (by decide)
def Q_c3_4_1 (Z : State) (c1 : Int32) (c2 : Int32) (c3 : Int32) (c4 : Int32) (h0 : Heap) (n0 : Nat) (v : Option Value) (h : Heap) (L : List Loc) : Prop := ∃ (b : Addr) (k : ClassId), v = some (.ref b) ∧ Fr n0 L ∧ Keep h0 h [] ∧ Arv Z h b k .byte (8 : Int32) [(.int (((c1 >>> ((0 : Int32) &&& 31)).toInt8.toInt32).toInt8.toInt32)), (.int (((c1 >>> ((8 : Int32) &&& 31)).toInt8.toInt32).toInt8.toInt32)), (.int (((c2 >>> ((0 : Int32) &&& 31)).toInt8.toInt32).toInt8.toInt32)), (.int (((c2 >>> ((8 : Int32) &&& 31)).toInt8.toInt32).toInt8.toInt32)), (.int (((c3 >>> ((0 : Int32) &&& 31)).toInt8.toInt32).toInt8.toInt32)), (.int (((c3 >>> ((8 : Int32) &&& 31)).toInt8.toInt32).toInt8.toInt32)), (.int (((c4 >>> ((0 : Int32) &&& 31)).toInt8.toInt32).toInt8.toInt32)), (.int (((c4 >>> ((8 : Int32) &&& 31)).toInt8.toInt32).toInt8.toInt32))] (.int 0) ∧ Exa Z h b "[B" ∧ h0.size ≤ b
theorem rmC3_4_1 (l : Launch) (Z : State) (az : Array Value) (hw : HW az Z) (ws : List Jvm.Cond) (a0 : Addr) (p1 : Int32) (p2 : Int32) (zc : Int32) (fm : Value) (k0 : ClassId) (c1 : Int32) (c2 : Int32) (c3 : Int32) (c4 : Int32) (h0 : Heap) (n0 : Nat) (Z0 : n0 ≤ h0.size) (S_C : tS0 Z h0 (.int zc)) (hzc : ¬ zc = 0) (S_F : tS1 Z h0 fm) (hfm : fm.isRef = true) (S_A : tS2 Z h0 (.int 1)) (S_H : tS3 Z h0 (.int 0)) (S_L : tS4 Z h0 (.int 8)) (V_a0 : Arv Z h0 a0 k0 .char (4 : Int32) [(.int c1), (.int c2), (.int c3), (.int c4)] (.int 0)) (h1 : p1 = 0) (h2 : p2 = (4 : Int32)) (y1 : 0 ≤ c1.toInt ∧ c1.toInt ≤ 65535) (y2 : 0 ≤ c2.toInt ∧ c2.toInt ≤ 65535) (y3 : 0 ≤ c3.toInt ∧ c3.toInt ≤ 65535) (y4 : 0 ≤ c4.toInt ∧ c4.toInt ≤ 65535) (u1 : ¬ (255 : Int32) < c1) (u2 : (255 : Int32) < c2) :
    MF l mN20 (Jvm.Cond.code mN20 jdk_52_method_16_code 6 (some (.array .byte)) :: ws) (rO 3 2 12 40) #[(.ref a0), (.int p1), (.int p2)] Z h0 (Q_c3_4_1 Z c1 c2 c3 c4 h0 n0) := by
  refine MetFree.of_bodySF (plainFor_of_name pn_3) hisR ?_
  intro p e s m args below meth c s₁ Bd hml0 hP hK
  obtain ⟨rfl, hZ, hh⟩ := hP
  have hx := Bd.exec
  have hby := Bd.bytes
  have hlk : meth.locks = false := Bd.notSynchronized
  have hml : c.maxLocals = 6 := hml0
  have hown : s.vm.findClass "java/lang/StringUTF16" = some m.cls := findClass_of_methodNamed Bd.named
  have X0 : Stand p l e (rO 3 2 12 40) s m #[(.ref a0), (.int p1), (.int p2)] below meth c s₁ [] 0 0 := Stand.of_body Bd
  have e0 : s₁.heap = h0 := by rw [← hh, Bd.state]; rfl
  have N0 := Fr.nil n0
  show Go p e below s ((Q_c3_4_1 Z c1 c2 c3 c4 h0 n0)) (rO 3 2 12 40).cells (rO 3 2 12 40).slots (s₁.setTop (entryFrame m #[(.ref a0), (.int p1), (.int p2)] 6))
  rw [ef_8 m a0 p1 p2]
  subst h1 h2
  have hix0 : ¬ ((1 : Int32) <<< ((1 : Int32) &&& 31)) < 0 ∧ ((1 : Int32) <<< ((1 : Int32) &&& 31)) < (8 : Int32) := by decide
  have hix1 : ¬ (((1 : Int32) <<< ((1 : Int32) &&& 31)) + (1 : Int32)) < 0 ∧ (((1 : Int32) <<< ((1 : Int32) &&& 31)) + (1 : Int32)) < (8 : Int32) := by decide
  refine Go.st (S' := s₁.setTop (mkF m 1 #[vr a0, vi 0, vi 4, .unset, .unset, .unset] [.int 4])) (fun _ kk => XS.iloadN X0.here hx rfl (hb hby d8_0) rfl kk) ?_
  obtain ⟨T1, h1, k1, X1, e1, E1, A1, E_b1, st1⟩ := newPE X0 hx hZ (ow hw 20 rfl) e0 (g := (mkF m 1 #[vr a0, vi 0, vi 4, .unset, .unset, .unset] [.int 4])) rfl (hb hby d8_1) rfl (by decide) (cap := 4) (by decide) (by decide) (by decide : 0 + 1 ≤ _) (by decide : 0 + 4 ≤ _) (ad := "[B") rfl
  obtain ⟨b1, g1⟩ : ∃ z, z = h0.size := ⟨_, rfl⟩
  rw [← g1] at A1 E_b1 st1
  have ne_a0_b1 : a0 ≠ b1 := Nat.ne_of_lt (Nat.lt_of_lt_of_le V_a0.lt (Nat.le_of_eq g1.symm))
  have g_b1 : n0 ≤ b1 := Nat.le_trans Z0 (Nat.le_of_eq g1.symm)
  have sz_b1 : h0.size ≤ b1 := Nat.le_trans (Keep.refl h0 []).1 (Nat.le_of_eq g1.symm)
  have S_C := S_C.ext E1
  have S_F := S_F.ext E1
  have S_A := S_A.ext E1
  have S_H := S_H.ext E1
  have S_L := S_L.ext E1
  have V_a0 := V_a0.ext E1
  have Zs2 := Nat.le_trans Z0 E1.1
  have Kp3 := (Keep.refl h0 []).ext E1
  have V_b1 : Arv Z h1 b1 k1 .byte (4 : Int32) [(.int 0), (.int 0), (.int 0), (.int 0)] (.int 0) := (Arv.new A1 (by decide)).pad (pad_rep [] (.int 0) 4)
  refine Go.st (S' := T1.setTop (mkF m 9 #[vr a0, vi 0, vi 4, vr b1, .unset, .unset] [.int 4, .int 0, .ref b1, .int 0, .ref a0])) (fun _ kk => st1 _ (XS.astoreN X1.here hx rfl (hb hby d8_3) rfl rfl (l' := #[vr a0, vi 0, vi 4, vr b1, .unset, .unset]) rfl (XS.aloadN X1.here hx rfl (hb hby d8_4) rfl rfl (XS.iloadN X1.here hx rfl (hb hby d8_5) rfl (XS.aloadN X1.here hx rfl (hb hby d8_6) rfl rfl (XS.iconst X1.here hx rfl (hb hby d8_7) (XS.iloadN X1.here hx rfl (hb hby d8_8) rfl kk))))))) ?_
  obtain ⟨_, _, ⟨T4, L4, k4, n4⟩, -, X4, ⟨Lc4, hQ4, l4, y4, z4⟩, st4⟩ := Jvm.LawKit.callS X1 hx (y := mN21) hown (mvT hZ (ow hw 46 rfl)) (mvT hZ (ow hw 47 rfl)) (mvT hZ (ow hw 44 rfl)) (mvT hZ (ow hw 48 rfl)) (by decide) (backOf (W := 0) (rmC5_4_1 l Z az hw [] a0 (0 : Int32) b1 (0 : Int32) (4 : Int32) k0 k1 c1 c2 c3 c4 h1 n0 Zs2 V_a0 V_b1 ne_a0_b1 g_b1 rfl rfl rfl u1 u2) hZ (ow hw 48 rfl) (ow hw 44 rfl) (by decide) (by decide)) (g := (mkF m 9 #[vr a0, vi 0, vi 4, vr b1, .unset, .unset] [.int 4, .int 0, .ref b1, .int 0, .ref a0])) rfl (by rw [hml]; rfl) (argsL := [.ref a0, .int 0, .ref b1, .int 0, .int 4]) (rest := []) (lenOf pd_8 rfl) rfl (oW rfl rfl) (hb hby d8_9) (fun _ _ => ⟨rfl, e1, (by decide : 1 + 0 ≤ _), (by decide : 4 + 0 ≤ _)⟩)
  dsimp only [Pt.U, Pt.locs, Pt.cells, Pt.slots] at X4 l4 y4 z4 st4 hQ4
  subst l4 y4 z4
  obtain ⟨rfl, N4q, K4, Va4⟩ := hQ4
  have N4 := Fr.app N0 N4q
  have S_C := own_stak K4 (allS (P := fun x => ∀ cell : Cell, (h1)[x]? = some cell → cell.vm.isStatics = false) (Exa.nostat E_b1) all0) S_C
  have S_F := own_stak K4 (allS (P := fun x => ∀ cell : Cell, (h1)[x]? = some cell → cell.vm.isStatics = false) (Exa.nostat E_b1) all0) S_F
  have S_A := own_stak K4 (allS (P := fun x => ∀ cell : Cell, (h1)[x]? = some cell → cell.vm.isStatics = false) (Exa.nostat E_b1) all0) S_A
  have S_H := own_stak K4 (allS (P := fun x => ∀ cell : Cell, (h1)[x]? = some cell → cell.vm.isStatics = false) (Exa.nostat E_b1) all0) S_H
  have S_L := own_stak K4 (allS (P := fun x => ∀ cell : Cell, (h1)[x]? = some cell → cell.vm.isStatics = false) (Exa.nostat E_b1) all0) S_L
  have V_a0 := V_a0.keep K4 (ninS ne_a0_b1 nin0)
  have E_b1 := E_b1.keep K4
  have Zs5 := Nat.le_trans Zs2 K4.1
  have Kp6 := Kp3.trans K4 (allS (Or.inr sz_b1) all0)
  refine Go.st (S' := T4.setTop (mkF m 23 #[vr a0, vi 0, vi 4, vr b1, vi 1, .unset] [.int 4, .int 0, .ref a0])) (fun _ kk => st4 _ (XS.istore X4.here hx rfl (hb hby d8_12) rfl (l' := #[vr a0, vi 0, vi 4, vr b1, vi 1, .unset]) rfl (XS.iload X4.here hx rfl (hb hby d8_14) rfl (XS.iloadN X4.here hx rfl (hb hby d8_16) rfl (XS.icmpNo X4.here hx rfl (hb hby d8_17) rfl (feq (by decide : ¬ ((1 : Int32) = (4 : Int32)))).1 (XS.aloadN X4.here hx rfl (hb hby d8_20) rfl rfl (XS.iloadN X4.here hx rfl (hb hby d8_21) rfl (XS.iloadN X4.here hx rfl (hb hby d8_22) rfl kk)))))))) ?_
  obtain ⟨_, _, ⟨T7, L7, k7, n7⟩, -, X7, ⟨Lc7, hQ7, l7, y7, z7⟩, st7⟩ := Jvm.LawKit.callS X4 hx (y := mN27) hown (mvT hZ (ow hw 96 rfl)) (mvT hZ (ow hw 97 rfl)) (mvT hZ (ow hw 44 rfl)) (mvT hZ (ow hw 98 rfl)) (by decide) (backOf (W := 0) (rmTB_4 l Z az hw [] a0 (0 : Int32) (4 : Int32) zc fm k0 c1 c2 c3 c4 T4.heap n0 Zs5 S_C hzc S_F hfm S_A S_H S_L V_a0 rfl rfl) hZ (ow hw 98 rfl) (ow hw 44 rfl) (by decide) (by decide)) (g := (mkF m 23 #[vr a0, vi 0, vi 4, vr b1, vi 1, .unset] [.int 4, .int 0, .ref a0])) rfl (by rw [hml]; rfl) (argsL := [.ref a0, .int 0, .int 4]) (rest := []) (lenOf pd_7 rfl) rfl (oW rfl rfl) (hb hby d8_23) (fun _ _ => ⟨rfl, rfl, (by decide : 1 + 1 ≤ _), (by decide : 4 + 8 ≤ _)⟩)
  dsimp only [Pt.U, Pt.locs, Pt.cells, Pt.slots] at X7 l7 y7 z7 st7 hQ7
  subst l7 y7 z7
  obtain ⟨b7, kb7, rfl, N7q, K7, V_b7, E_b7, gb7⟩ := hQ7
  have Ex7 := own_extK K7
  have N7 := Fr.app N4 N7q
  have ne_a0_b7 : a0 ≠ b7 := Nat.ne_of_lt (Nat.lt_of_lt_of_le V_a0.lt gb7)
  have ne_b1_b7 : b1 ≠ b7 := Nat.ne_of_lt (Nat.lt_of_lt_of_le E_b1.lt gb7)
  have g_b7 : n0 ≤ b7 := Nat.le_trans Zs5 gb7
  have sz_b7 : h0.size ≤ b7 := Nat.le_trans Kp6.1 gb7
  have S_C := S_C.ext Ex7
  have S_F := S_F.ext Ex7
  have S_A := S_A.ext Ex7
  have S_H := S_H.ext Ex7
  have S_L := S_L.ext Ex7
  have V_a0 := V_a0.ext Ex7
  have E_b1 := E_b1.ext Ex7
  have Va4 := Va4.ext Ex7
  have Zs8 := Nat.le_trans Zs5 Ex7.1
  have Kp9 := Kp6.ext Ex7
  refine Go.st (S' := T7.setTop (mkF m 32 #[vr a0, vi 0, vi 4, vr b1, vi 1, vr b7] [.int 1, .ref b7])) (fun _ kk => st7 _ (XS.astore X7.here hx rfl (hb hby d8_26) rfl rfl (l' := #[vr a0, vi 0, vi 4, vr b1, vi 1, vr b7]) rfl (XS.aload X7.here hx rfl (hb hby d8_28) rfl rfl (XS.iload X7.here hx rfl (hb hby d8_30) rfl kk)))) ?_
  obtain ⟨_, _, ⟨T10, L10, k10, n10⟩, -, X10, ⟨Lc10, hQ10, l10, y10, z10⟩, st10⟩ := Jvm.LawKit.callS X7 hx (y := mN22) hown (mvT hZ (ow hw 112 rfl)) (mvT hZ (ow hw 113 rfl)) (mvT hZ (ow hw 44 rfl)) (mvT hZ (ow hw 114 rfl)) (by decide) (backOf (W := 0) (rmUg l Z az hw [] b7 (1 : Int32) zc fm kb7 (8 : Int32) [(((c1 >>> ((0 : Int32) &&& 31)).toInt8.toInt32).toInt8.toInt32), (((c1 >>> ((8 : Int32) &&& 31)).toInt8.toInt32).toInt8.toInt32), (((c2 >>> ((0 : Int32) &&& 31)).toInt8.toInt32).toInt8.toInt32), (((c2 >>> ((8 : Int32) &&& 31)).toInt8.toInt32).toInt8.toInt32), (((c3 >>> ((0 : Int32) &&& 31)).toInt8.toInt32).toInt8.toInt32), (((c3 >>> ((8 : Int32) &&& 31)).toInt8.toInt32).toInt8.toInt32), (((c4 >>> ((0 : Int32) &&& 31)).toInt8.toInt32).toInt8.toInt32), (((c4 >>> ((8 : Int32) &&& 31)).toInt8.toInt32).toInt8.toInt32)] T7.heap n0 Zs8 S_C hzc S_F hfm S_A S_H S_L V_b7 hix0 hix1) hZ (ow hw 114 rfl) (ow hw 44 rfl) (by decide) (by decide)) (g := (mkF m 32 #[vr a0, vi 0, vi 4, vr b1, vi 1, vr b7] [.int 1, .ref b7])) rfl (by rw [hml]; rfl) (argsL := [.ref b7, .int 1]) (rest := []) (lenOf pd_14 rfl) rfl (oW rfl rfl) (hb hby d8_32) (fun _ _ => ⟨rfl, rfl, (by decide : 2 + 0 ≤ _), (by decide : 12 + 0 ≤ _)⟩)
  dsimp only [Pt.U, Pt.locs, Pt.cells, Pt.slots] at X10 l10 y10 z10 st10 hQ10
  subst l10 y10 z10
  obtain ⟨hv10, N10q, e10⟩ := hQ10
  subst hv10
  have N10 := Fr.app N7 N10q
  refine Go.st (S' := T10.setTop (mkF m 35 #[vr a0, vi 0, vi 4, vr b1, vi 1, vr b7] [.int (own_g16 (bt [(((c1 >>> ((0 : Int32) &&& 31)).toInt8.toInt32).toInt8.toInt32), (((c1 >>> ((8 : Int32) &&& 31)).toInt8.toInt32).toInt8.toInt32), (((c2 >>> ((0 : Int32) &&& 31)).toInt8.toInt32).toInt8.toInt32), (((c2 >>> ((8 : Int32) &&& 31)).toInt8.toInt32).toInt8.toInt32), (((c3 >>> ((0 : Int32) &&& 31)).toInt8.toInt32).toInt8.toInt32), (((c3 >>> ((8 : Int32) &&& 31)).toInt8.toInt32).toInt8.toInt32), (((c4 >>> ((0 : Int32) &&& 31)).toInt8.toInt32).toInt8.toInt32), (((c4 >>> ((8 : Int32) &&& 31)).toInt8.toInt32).toInt8.toInt32)] ((1 : Int32) <<< ((1 : Int32) &&& 31))) (bt [(((c1 >>> ((0 : Int32) &&& 31)).toInt8.toInt32).toInt8.toInt32), (((c1 >>> ((8 : Int32) &&& 31)).toInt8.toInt32).toInt8.toInt32), (((c2 >>> ((0 : Int32) &&& 31)).toInt8.toInt32).toInt8.toInt32), (((c2 >>> ((8 : Int32) &&& 31)).toInt8.toInt32).toInt8.toInt32), (((c3 >>> ((0 : Int32) &&& 31)).toInt8.toInt32).toInt8.toInt32), (((c3 >>> ((8 : Int32) &&& 31)).toInt8.toInt32).toInt8.toInt32), (((c4 >>> ((0 : Int32) &&& 31)).toInt8.toInt32).toInt8.toInt32), (((c4 >>> ((8 : Int32) &&& 31)).toInt8.toInt32).toInt8.toInt32)] (((1 : Int32) <<< ((1 : Int32) &&& 31)) + (1 : Int32))))])) st10 ?_
  rw [show (own_g16 (bt [(((c1 >>> ((0 : Int32) &&& 31)).toInt8.toInt32).toInt8.toInt32), (((c1 >>> ((8 : Int32) &&& 31)).toInt8.toInt32).toInt8.toInt32), (((c2 >>> ((0 : Int32) &&& 31)).toInt8.toInt32).toInt8.toInt32), (((c2 >>> ((8 : Int32) &&& 31)).toInt8.toInt32).toInt8.toInt32), (((c3 >>> ((0 : Int32) &&& 31)).toInt8.toInt32).toInt8.toInt32), (((c3 >>> ((8 : Int32) &&& 31)).toInt8.toInt32).toInt8.toInt32), (((c4 >>> ((0 : Int32) &&& 31)).toInt8.toInt32).toInt8.toInt32), (((c4 >>> ((8 : Int32) &&& 31)).toInt8.toInt32).toInt8.toInt32)] ((1 : Int32) <<< ((1 : Int32) &&& 31))) (bt [(((c1 >>> ((0 : Int32) &&& 31)).toInt8.toInt32).toInt8.toInt32), (((c1 >>> ((8 : Int32) &&& 31)).toInt8.toInt32).toInt8.toInt32), (((c2 >>> ((0 : Int32) &&& 31)).toInt8.toInt32).toInt8.toInt32), (((c2 >>> ((8 : Int32) &&& 31)).toInt8.toInt32).toInt8.toInt32), (((c3 >>> ((0 : Int32) &&& 31)).toInt8.toInt32).toInt8.toInt32), (((c3 >>> ((8 : Int32) &&& 31)).toInt8.toInt32).toInt8.toInt32), (((c4 >>> ((0 : Int32) &&& 31)).toInt8.toInt32).toInt8.toInt32), (((c4 >>> ((8 : Int32) &&& 31)).toInt8.toInt32).toInt8.toInt32)] (((1 : Int32) <<< ((1 : Int32) &&& 31)) + (1 : Int32)))) = c2 from own_rtg y2]
  refine Go.st (S' := T10.setTop (mkF m 56 #[vr a0, vi 0, vi 4, vr b1, vi 1, vr b7] [.ref b7])) (fun _ kk => XS.sipush X10.here hx rfl (hb hby d8_35) (XS.icmpYes X10.here hx rfl (pc0 := 38) (pc' := 54) rfl (hb hby d8_38) rfl (tlt u2).2.2.1 (by decide) (by decide) (XS.aload X10.here hx rfl (hb hby d8_54) rfl rfl kk))) ?_
  exact Go.retA X10 hx hlk Bd.returns rfl rfl (hb hby d8_56) (by rw [e10]; exact ⟨_, _, rfl, N10, Kp9, V_b7, E_b7, sz_b7⟩) (by decide) (by decide)
theorem rmI5_4_1 (l : Launch) (Z : State) (az : Array Value) (hw : HW az Z) (ws : List Jvm.Cond) (a0 : Addr) (a1 : Addr) (p2 : Int32) (p3 : Int32) (zc : Int32) (fm : Value) (k1 : ClassId) (c1 : Int32) (c2 : Int32) (c3 : Int32) (c4 : Int32) (h0 : Heap) (n0 : Nat) (Z0 : n0 ≤ h0.size) (S_C : tS0 Z h0 (.int zc)) (hzc : ¬ zc = 0) (S_F : tS1 Z h0 fm) (hfm : fm.isRef = true) (S_A : tS2 Z h0 (.int 1)) (S_H : tS3 Z h0 (.int 0)) (S_L : tS4 Z h0 (.int 8)) (E_a0 : Exa Z h0 a0 "java/lang/String") (F_coder : tF0 Z h0 a0 (.int 0)) (F_value : tF1 Z h0 a0 .null) (g_a0 : n0 ≤ a0) (ne : a0 ≠ a1) (V_a1 : Arv Z h0 a1 k1 .char (4 : Int32) [(.int c1), (.int c2), (.int c3), (.int c4)] (.int 0)) (h2 : p2 = 0) (h3 : p3 = (4 : Int32)) (y1 : 0 ≤ c1.toInt ∧ c1.toInt ≤ 65535) (y2 : 0 ≤ c2.toInt ∧ c2.toInt ≤ 65535) (y3 : 0 ≤ c3.toInt ∧ c3.toInt ≤ 65535) (y4 : 0 ≤ c4.toInt ∧ c4.toInt ≤ 65535) (u1 : ¬ (255 : Int32) < c1) (u2 : (255 : Int32) < c2) :
    MF l mN10 (Jvm.Cond.code mN10 jdk_42_method_149_code 6 none :: ws) (rO 4 2 12 57) #[(.ref a0), (.ref a1), (.int p2), (.int p3), .null] Z h0 (Q_in_4 Z a0 c1 c2 c3 c4 h0 n0) := by
  refine MetFree.of_bodySF (plainFor_of_name pn_1) hisR ?_
  intro p e s m args below meth c s₁ Bd hml0 hP hK
  obtain ⟨rfl, hZ, hh⟩ := hP
  have hx := Bd.exec
  have hby := Bd.bytes
  have hlk : meth.locks = false := Bd.notSynchronized
  have hml : c.maxLocals = 6 := hml0
  have hown : s.vm.findClass "java/lang/String" = some m.cls := findClass_of_methodNamed Bd.named
  have hnm := (name_of_methodNamed Bd.named Bd.method).1
  have X0 : Stand p l e (rO 4 2 12 57) s m #[(.ref a0), (.ref a1), (.int p2), (.int p3), .null] below meth c s₁ [] 0 0 := Stand.of_body Bd
  have e0 : s₁.heap = h0 := by rw [← hh, Bd.state]; rfl
  have N0 := Fr.nil n0
  show Go p e below s ((Q_in_4 Z a0 c1 c2 c3 c4 h0 n0)) (rO 4 2 12 57).cells (rO 4 2 12 57).slots (s₁.setTop (entryFrame m #[(.ref a0), (.ref a1), (.int p2), (.int p3), .null] 6))
  rw [ef_3n4 m a0 a1 p2 p3]
  subst h2 h3
  refine Go.st (S' := s₁.setTop (mkF m 1 #[vr a0, vr a1, vi 0, vi 4, .val .null, .unset] [.ref a0])) (fun _ kk => XS.aloadN X0.here hx rfl (hb hby d3_0) rfl rfl kk) ?_
  obtain ⟨T1, X1, e1, st1⟩ := initO X0 hx hZ hown (ow hw 16 rfl) (ow hw 17 rfl) (ow hw 18 rfl) e0 (g := (mkF m 1 #[vr a0, vr a1, vi 0, vi 4, .val .null, .unset] [.ref a0])) rfl (by rw [hml]; rfl) rfl (hb hby d3_1) (by decide) (W := 0) (oW rfl rfl) (by decide)
  refine Go.st (S' := T1.setTop (mkF m 27 #[vr a0, vr a1, vi 0, vi 4, .val .null, .unset] [])) (fun _ kk => st1 _ (XS.iloadN X1.here hx rfl (hb hby d3_4) rfl (XS.ifYes X1.here hx rfl (pc0 := 5) (pc' := 27) rfl (hb hby d3_5) rfl ((if0 _ _).trans (feq (by decide : ¬ ((4 : Int32) = (0 : Int32)))).2) (by decide) (by decide) kk))) ?_
  obtain ⟨T2, X2, e2, st2⟩ := getS2 X1 hx hZ hown (host := "") (Or.inl (ow hw 41 rfl)) Via.refl e1 S_C (g := (mkF m 27 #[vr a0, vr a1, vi 0, vi 4, .val .null, .unset] [])) rfl (hb hby d3_27)
  refine Go.st (S' := T2.setTop (mkF m 36 #[vr a0, vr a1, vi 0, vi 4, .val .null, .unset] [.int 4, .int 0, .ref a1])) (fun _ kk => st2 _ (XS.ifNo X2.here hx rfl (hb hby d3_30) rfl ((if0 _ _).trans (feq hzc).1) (XS.aloadN X2.here hx rfl (hb hby d3_33) rfl rfl (XS.iloadN X2.here hx rfl (hb hby d3_34) rfl (XS.iloadN X2.here hx rfl (hb hby d3_35) rfl kk))))) ?_
  obtain ⟨_, _, ⟨T3, L3, k3, n3⟩, -, X3, ⟨Lc3, hQ3, l3, y3, z3⟩, st3⟩ := Jvm.LawKit.callS X2 hx (y := mN20) hown (mvT hZ (ow hw 42 rfl)) (mvT hZ (ow hw 43 rfl)) (mvT hZ (ow hw 44 rfl)) (mvT hZ (ow hw 45 rfl)) (by decide) (backOf (W := 0) (rmC3_4_1 l Z az hw [] a1 (0 : Int32) (4 : Int32) zc fm k1 c1 c2 c3 c4 h0 n0 Z0 S_C hzc S_F hfm S_A S_H S_L V_a1 rfl rfl y1 y2 y3 y4 u1 u2) hZ (ow hw 45 rfl) (ow hw 44 rfl) (by decide) (by decide)) (g := (mkF m 36 #[vr a0, vr a1, vi 0, vi 4, .val .null, .unset] [.int 4, .int 0, .ref a1])) rfl (by rw [hml]; rfl) (argsL := [.ref a1, .int 0, .int 4]) (rest := []) (lenOf pd_7 rfl) rfl (oW rfl rfl) (hb hby d3_36) (fun _ _ => ⟨rfl, e2, (by decide : 0 + 2 ≤ _), (by decide : 0 + 12 ≤ _)⟩)
  dsimp only [Pt.U, Pt.locs, Pt.cells, Pt.slots] at X3 l3 y3 z3 st3 hQ3
  subst l3 y3 z3
  obtain ⟨b3, kb3, rfl, N3q, K3, V_b3, E_b3, gb3⟩ := hQ3
  have Ex3 := own_extK K3
  have N3 := Fr.app N0 N3q
  have ne_a0_b3 : a0 ≠ b3 := Nat.ne_of_lt (Nat.lt_of_lt_of_le E_a0.lt gb3)
  have ne_a1_b3 : a1 ≠ b3 := Nat.ne_of_lt (Nat.lt_of_lt_of_le V_a1.lt gb3)
  have g_b3 : n0 ≤ b3 := Nat.le_trans Z0 gb3
  have sz_b3 : h0.size ≤ b3 := Nat.le_trans (Keep.refl h0 [a0]).1 gb3
  have S_C := S_C.ext Ex3
  have S_F := S_F.ext Ex3
  have S_A := S_A.ext Ex3
  have S_H := S_H.ext Ex3
  have S_L := S_L.ext Ex3
  have E_a0 := E_a0.ext Ex3
  have F_coder := F_coder.ext Ex3
  have F_value := F_value.ext Ex3
  have V_a1 := V_a1.ext Ex3
  have Zs4 := Nat.le_trans Z0 Ex3.1
  have Kp5 := (Keep.refl h0 [a0]).ext Ex3
  refine Go.st (S' := T3.setTop (mkF m 45 #[vr a0, vr a1, vi 0, vi 4, .val .null, vr b3] [.int 4, .ref b3, .ref a0])) (fun _ kk => st3 _ (XS.astore X3.here hx rfl (hb hby d3_39) rfl rfl (l' := #[vr a0, vr a1, vi 0, vi 4, .val .null, vr b3]) rfl (XS.aloadN X3.here hx rfl (hb hby d3_41) rfl rfl (XS.aload X3.here hx rfl (hb hby d3_42) rfl rfl (XS.iloadN X3.here hx rfl (hb hby d3_44) rfl kk))))) ?_
  obtain ⟨_, _, ⟨T6, L6, k6, n6⟩, -, X6, ⟨Lc6, hQ6, l6, y6, z6⟩, st6⟩ := Jvm.LawKit.callS X3 hx (y := mN19) hown (mvT hZ (ow hw 49 rfl)) (mvT hZ (ow hw 50 rfl)) (mvT hZ (ow hw 44 rfl)) (mvT hZ (ow hw 51 rfl)) (by decide) (backOf (W := 1) (rmCd_4_1 l Z az hw [] b3 (4 : Int32) kb3 _ T3.heap n0 Zs4 V_b3 rfl) hZ (ow hw 51 rfl) (ow hw 44 rfl) (by decide) (by decide)) (g := (mkF m 45 #[vr a0, vr a1, vi 0, vi 4, .val .null, vr b3] [.int 4, .ref b3, .ref a0])) rfl (by rw [hml]; rfl) (argsL := [.ref b3, .int 4]) (rest := [.ref a0]) (lenOf pd_9 rfl) rfl (oW rfl rfl) (hb hby d3_45) (fun _ _ => ⟨rfl, rfl, (by decide : 2 + 0 ≤ _), (by decide : 12 + 0 ≤ _)⟩)
  dsimp only [Pt.U, Pt.locs, Pt.cells, Pt.slots] at X6 l6 y6 z6 st6 hQ6
  subst l6 y6 z6
  obtain ⟨hv6, N6q, e6⟩ := hQ6
  subst hv6
  have N6 := Fr.app N3 N6q
  refine Go.st (S' := T6.setTop (mkF m 48 #[vr a0, vr a1, vi 0, vi 4, .val .null, vr b3] [.int 1, .ref a0])) st6 ?_
  obtain ⟨T7, h7, X7, e7, W7, st7⟩ := putFN X6 hx hZ hown (ow hw 26 rfl) Via.refl e6 F_coder E_a0 (Or.inr ⟨(ow hw 22 rfl), rfl, hnm⟩) (ow hw 7 rfl) (ty := .byte) (v' := .int (nar .byte (1 : Int32))) (by decide) rfl (fits_nar_byte _) (g := (mkF m 48 #[vr a0, vr a1, vi 0, vi 4, .val .null, vr b3] [.int 1, .ref a0])) rfl rfl (hb hby d3_48)
  have N7 := Fr.snoc X7 N6 g_a0
  have F_coder := F_coder.same W7
  have S_C := S_C.wr W7
  have S_F := S_F.wr W7
  have S_A := S_A.wr W7
  have S_H := S_H.wr W7
  have S_L := S_L.wr W7
  have E_a0 := E_a0.wr W7
  have F_value := F_value.other W7 (Or.inr (slot_ne (Or.inr (ow hw 21 rfl)) (Or.inr (ow hw 22 rfl)) (by decide) (t := (.array .byte)) (t' := .byte) (by decide) (by decide)))
  have V_a1 := V_a1.other W7 (Ne.symm ne)
  have E_b3 := E_b3.wr W7
  have V_b3 := V_b3.other W7 (Ne.symm ne_a0_b3)
  have Zs8 := Nat.le_trans Zs4 (Keep.of_wr W7).1
  have Kp9 := Kp5.wr W7 (Or.inl (List.mem_of_getElem? (i := 0) rfl))
  refine Go.st (S' := T7.setTop (mkF m 54 #[vr a0, vr a1, vi 0, vi 4, .val .null, vr b3] [.ref b3, .ref a0])) (fun _ kk => st7 _ (XS.aloadN X7.here hx rfl (hb hby d3_51) rfl rfl (XS.aload X7.here hx rfl (hb hby d3_52) rfl rfl kk))) ?_
  obtain ⟨T10, h10, X10, e10, W10, st10⟩ := putF X7 hx hZ hown (host := "") (Or.inl (ow hw 25 rfl)) Via.refl e7 F_value E_a0 (Or.inr ⟨(ow hw 21 rfl), rfl, hnm⟩) (ow hw 7 rfl) (ty := (.array .byte)) (by decide) rfl rfl (g := (mkF m 54 #[vr a0, vr a1, vi 0, vi 4, .val .null, vr b3] [.ref b3, .ref a0])) rfl rfl (hb hby d3_54)
  have N10 := Fr.snoc X10 N7 g_a0
  have F_value := F_value.same W10
  have S_C := S_C.wr W10
  have S_F := S_F.wr W10
  have S_A := S_A.wr W10
  have S_H := S_H.wr W10
  have S_L := S_L.wr W10
  have E_a0 := E_a0.wr W10
  have F_coder := F_coder.other W10 (Or.inr (slot_ne (Or.inr (ow hw 22 rfl)) (Or.inr (ow hw 21 rfl)) (by decide) (t := .byte) (t' := (.array .byte)) (by decide) (by decide)))
  have V_a1 := V_a1.other W10 (Ne.symm ne)
  have E_b3 := E_b3.wr W10
  have V_b3 := V_b3.other W10 (Ne.symm ne_a0_b3)
  have Zs11 := Nat.le_trans Zs8 (Keep.of_wr W10).1
  have Kp12 := Kp9.wr W10 (Or.inl (List.mem_of_getElem? (i := 0) rfl))
  refine Go.st (S' := T10.setTop (mkF m 57 #[vr a0, vr a1, vi 0, vi 4, .val .null, vr b3] [])) st10 ?_
  exact Go.ret0 X10 hx hlk Bd.returns (hb hby d3_57) (by rw [e10]; exact ⟨rfl, N10, Kp12, E_a0, _, _, _, _, (own_u16 [c1, c2, c3, c4]), F_coder, F_value, V_b3, Or.inr ⟨rfl, rfl, rfl, (List.forall_mem_cons.mpr ⟨y1, (List.forall_mem_cons.mpr ⟨y2, (List.forall_mem_cons.mpr ⟨y3, (List.forall_mem_cons.mpr ⟨y4, (fun _ hx => nomatch hx)⟩)⟩)⟩)⟩)⟩⟩) (by decide) (by decide)
def Q_c5_4_2 (Z : State) (a2 : Addr) (k2 : ClassId) (c1 : Int32) (c2 : Int32) (c3 : Int32) (c4 : Int32) (h0 : Heap) (n0 : Nat) (v : Option Value) (h : Heap) (L : List Loc) : Prop := v = some (.int 2) ∧ Fr n0 L ∧ Keep h0 h [a2] ∧ Arv Z h a2 k2 .byte (4 : Int32) [(.int ((c1.toInt8.toInt32).toInt8.toInt32)), (.int ((c2.toInt8.toInt32).toInt8.toInt32)), (.int 0), (.int 0)] (.int 0)
theorem rmC5_4_2 (l : Launch) (Z : State) (az : Array Value) (hw : HW az Z) (ws : List Jvm.Cond) (a0 : Addr) (p1 : Int32) (a2 : Addr) (p3 : Int32) (p4 : Int32) (k0 k2 : ClassId) (c1 : Int32) (c2 : Int32) (c3 : Int32) (c4 : Int32) (h0 : Heap) (n0 : Nat) (Z0 : n0 ≤ h0.size) (V_a0 : Arv Z h0 a0 k0 .char (4 : Int32) [(.int c1), (.int c2), (.int c3), (.int c4)] (.int 0)) (V_a2 : Arv Z h0 a2 k2 .byte (4 : Int32) [(.int 0), (.int 0), (.int 0), (.int 0)] (.int 0)) (ne : a0 ≠ a2) (g_a2 : n0 ≤ a2) (h1 : p1 = 0) (h3 : p3 = 0) (h4 : p4 = (4 : Int32)) (u1 : ¬ (255 : Int32) < c1) (u2 : ¬ (255 : Int32) < c2) (u3 : (255 : Int32) < c3) :
    MF l mN21 (Jvm.Cond.code mN21 jdk_52_method_21_code 7 (some .int) :: ws) (rO 0 0 0 0) #[(.ref a0), (.int p1), (.ref a2), (.int p3), (.int p4)] Z h0 (Q_c5_4_2 Z a2 k2 c1 c2 c3 c4 h0 n0) := by
  refine MetFree.of_bodySF (plainFor_of_name pn_3) hisR ?_
  intro p e s m args below meth c s₁ Bd hml0 hP hK
  obtain ⟨rfl, hZ, hh⟩ := hP
  have hx := Bd.exec
  have hby := Bd.bytes
  have hlk : meth.locks = false := Bd.notSynchronized
  have hml : c.maxLocals = 7 := hml0
  have hown : s.vm.findClass "java/lang/StringUTF16" = some m.cls := findClass_of_methodNamed Bd.named
  have X0 : Stand p l e (rO 0 0 0 0) s m #[(.ref a0), (.int p1), (.ref a2), (.int p3), (.int p4)] below meth c s₁ [] 0 0 := Stand.of_body Bd
  have e0 : s₁.heap = h0 := by rw [← hh, Bd.state]; rfl
  have N0 := Fr.nil n0
  show Go p e below s ((Q_c5_4_2 Z a2 k2 c1 c2 c3 c4 h0 n0)) (rO 0 0 0 0).cells (rO 0 0 0 0).slots (s₁.setTop (entryFrame m #[(.ref a0), (.int p1), (.ref a2), (.int p3), (.int p4)] 7))
  rw [ef_9 m a0 p1 a2 p3 p4]
  subst h1 h3 h4
  refine Go.st (S' := s₁.setTop (mkF m 12 #[vr a0, vi 0, vr a2, vi 0, vi 4, vi 0, .unset] [.int 0, .ref a0])) (fun _ kk => XS.iconst X0.here hx rfl (hb hby d9_0) (XS.istore X0.here hx rfl (hb hby d9_1) rfl (l' := #[vr a0, vi 0, vr a2, vi 0, vi 4, vi 0, .unset]) rfl (XS.iload X0.here hx rfl (hb hby d9_3) rfl (XS.iload X0.here hx rfl (hb hby d9_5) rfl (XS.icmpNo X0.here hx rfl (hb hby d9_7) rfl (tlt (by decide : (0 : Int32) < (4 : Int32))).2.1 (XS.aloadN X0.here hx rfl (hb hby d9_10) rfl rfl (XS.iloadN X0.here hx rfl (hb hby d9_11) rfl kk))))))) ?_
  obtain ⟨cl1, Ar1, qk1, S1, Ng1, H1, G1⟩ := (id V_a0)
  have hin1 : ¬ ((0 : Int32) < 0 ∨ cl1.slots.size ≤ ((0 : Int32)).toNatClampNeg) := inb_of S1 ⟨by decide, by decide⟩
  have hat1 : cl1.slots[((0 : Int32)).toNatClampNeg]? = some (.int c1) := Has.at H1 hin1 rfl
  refine Go.st (S' := s₁.setTop (mkF m 31 #[vr a0, vi 0, vr a2, vi 0, vi 4, vi 0, vi c1] [.int (c1.toInt8.toInt32), .int 0, .ref a2])) (fun _ kk => X0.caload hx (j := (0 : Int32)) (v := (.int c1)) (by rw [e0]; exact Ar1.1) (State.isArrayOf_alike hZ.alike Ar1.2.1) Ar1.2.2 hin1 hat1 (g := (mkF m 12 #[vr a0, vi 0, vr a2, vi 0, vi 4, vi 0, .unset] [.int 0, .ref a0])) rfl rfl (hb hby d9_12) _ (XS.istore X0.here hx rfl (hb hby d9_13) rfl (l' := #[vr a0, vi 0, vr a2, vi 0, vi 4, vi 0, vi c1]) rfl (XS.iload X0.here hx rfl (hb hby d9_15) rfl (XS.sipush X0.here hx rfl (hb hby d9_17) (XS.icmpYes X0.here hx rfl (pc0 := 20) (pc' := 26) rfl (hb hby d9_20) rfl (flt u1).2.2.2 (by decide) (by decide) (XS.aloadN X0.here hx rfl (hb hby d9_26) rfl rfl (XS.iloadN X0.here hx rfl (hb hby d9_27) rfl (XS.iload X0.here hx rfl (hb hby d9_28) rfl (XS.i2b X0.here hx rfl (hb hby d9_30) rfl kk))))))))) ?_
  obtain ⟨cl2, Ar2, qk2, S2, Ng2, H2, G2⟩ := (id V_a2)
  have hin2 : ¬ ((0 : Int32) < 0 ∨ cl2.slots.size ≤ ((0 : Int32)).toNatClampNeg) := inb_of S2 ⟨by decide, by decide⟩
  obtain ⟨T2, h2, X2, e2, W2, st2⟩ := stB X0 hx hZ e0 Ar2 (j := (0 : Int32)) hin2 (g := (mkF m 31 #[vr a0, vi 0, vr a2, vi 0, vi 4, vi 0, vi c1] [.int (c1.toInt8.toInt32), .int 0, .ref a2])) rfl rfl (hb hby d9_31)
  have V_a2 : Arv Z h2 a2 k2 .byte (4 : Int32) [(.int ((c1.toInt8.toInt32).toInt8.toInt32)), (.int 0), (.int 0), (.int 0)] (.int 0) := Arv.set Ar2 qk2 S2 Ng2 H2 G2 (fits_nar_byte _) W2 0 rfl (Nat.le_of_ble_eq_true rfl)
  have N2 := Fr.snoc X2 N0 g_a2
  have V_a0 := V_a0.other W2 ne
  have Zs3 := Nat.le_trans Z0 (Keep.of_wr W2).1
  have Kp4 := (Keep.refl h0 [a2]).wr W2 (Or.inl (List.mem_of_getElem? (i := 0) rfl))
  refine Go.st (S' := T2.setTop (mkF m 12 #[vr a0, vi 1, vr a2, vi 1, vi 4, vi 1, vi c1] [.int 1, .ref a0])) (fun _ kk => st2 _ (XS.iinc X2.here hx rfl (hb hby d9_32) rfl (l' := #[vr a0, vi 1, vr a2, vi 0, vi 4, vi 0, vi c1]) rfl (XS.iinc X2.here hx rfl (hb hby d9_35) rfl (l' := #[vr a0, vi 1, vr a2, vi 1, vi 4, vi 0, vi c1]) rfl (XS.iinc X2.here hx rfl (hb hby d9_38) rfl (l' := #[vr a0, vi 1, vr a2, vi 1, vi 4, vi 1, vi c1]) rfl (XS.goto X2.here hx rfl (pc0 := 41) (pc' := 3) rfl (hb hby d9_41) (by decide) (by decide) (XS.iload X2.here hx rfl (hb hby d9_3) rfl (XS.iload X2.here hx rfl (hb hby d9_5) rfl (XS.icmpNo X2.here hx rfl (hb hby d9_7) rfl (tlt (by decide : (1 : Int32) < (4 : Int32))).2.1 (XS.aloadN X2.here hx rfl (hb hby d9_10) rfl rfl (XS.iloadN X2.here hx rfl (hb hby d9_11) rfl kk)))))))))) ?_
  obtain ⟨cl5, Ar5, qk5, S5, Ng5, H5, G5⟩ := (id V_a0)
  have hin5 : ¬ ((1 : Int32) < 0 ∨ cl5.slots.size ≤ ((1 : Int32)).toNatClampNeg) := inb_of S5 ⟨by decide, by decide⟩
  have hat5 : cl5.slots[((1 : Int32)).toNatClampNeg]? = some (.int c2) := Has.at H5 hin5 rfl
  refine Go.st (S' := T2.setTop (mkF m 31 #[vr a0, vi 1, vr a2, vi 1, vi 4, vi 1, vi c2] [.int (c2.toInt8.toInt32), .int 1, .ref a2])) (fun _ kk => X2.caload hx (j := (1 : Int32)) (v := (.int c2)) (by rw [e2]; exact Ar5.1) (State.isArrayOf_alike hZ.alike Ar5.2.1) Ar5.2.2 hin5 hat5 (g := (mkF m 12 #[vr a0, vi 1, vr a2, vi 1, vi 4, vi 1, vi c1] [.int 1, .ref a0])) rfl rfl (hb hby d9_12) _ (XS.istore X2.here hx rfl (hb hby d9_13) rfl (l' := #[vr a0, vi 1, vr a2, vi 1, vi 4, vi 1, vi c2]) rfl (XS.iload X2.here hx rfl (hb hby d9_15) rfl (XS.sipush X2.here hx rfl (hb hby d9_17) (XS.icmpYes X2.here hx rfl (pc0 := 20) (pc' := 26) rfl (hb hby d9_20) rfl (flt u2).2.2.2 (by decide) (by decide) (XS.aloadN X2.here hx rfl (hb hby d9_26) rfl rfl (XS.iloadN X2.here hx rfl (hb hby d9_27) rfl (XS.iload X2.here hx rfl (hb hby d9_28) rfl (XS.i2b X2.here hx rfl (hb hby d9_30) rfl kk))))))))) ?_
  obtain ⟨cl6, Ar6, qk6, S6, Ng6, H6, G6⟩ := (id V_a2)
  have hin6 : ¬ ((1 : Int32) < 0 ∨ cl6.slots.size ≤ ((1 : Int32)).toNatClampNeg) := inb_of S6 ⟨by decide, by decide⟩
  obtain ⟨T6, h6, X6, e6, W6, st6⟩ := stB X2 hx hZ e2 Ar6 (j := (1 : Int32)) hin6 (g := (mkF m 31 #[vr a0, vi 1, vr a2, vi 1, vi 4, vi 1, vi c2] [.int (c2.toInt8.toInt32), .int 1, .ref a2])) rfl rfl (hb hby d9_31)
  have V_a2 : Arv Z h6 a2 k2 .byte (4 : Int32) [(.int ((c1.toInt8.toInt32).toInt8.toInt32)), (.int ((c2.toInt8.toInt32).toInt8.toInt32)), (.int 0), (.int 0)] (.int 0) := Arv.set Ar6 qk6 S6 Ng6 H6 G6 (fits_nar_byte _) W6 1 rfl (Nat.le_of_ble_eq_true rfl)
  have N6 := Fr.snoc X6 N2 g_a2
  have V_a0 := V_a0.other W6 ne
  have Zs7 := Nat.le_trans Zs3 (Keep.of_wr W6).1
  have Kp8 := Kp4.wr W6 (Or.inl (List.mem_of_getElem? (i := 0) rfl))
  refine Go.st (S' := T6.setTop (mkF m 12 #[vr a0, vi 2, vr a2, vi 2, vi 4, vi 2, vi c2] [.int 2, .ref a0])) (fun _ kk => st6 _ (XS.iinc X6.here hx rfl (hb hby d9_32) rfl (l' := #[vr a0, vi 2, vr a2, vi 1, vi 4, vi 1, vi c2]) rfl (XS.iinc X6.here hx rfl (hb hby d9_35) rfl (l' := #[vr a0, vi 2, vr a2, vi 2, vi 4, vi 1, vi c2]) rfl (XS.iinc X6.here hx rfl (hb hby d9_38) rfl (l' := #[vr a0, vi 2, vr a2, vi 2, vi 4, vi 2, vi c2]) rfl (XS.goto X6.here hx rfl (pc0 := 41) (pc' := 3) rfl (hb hby d9_41) (by decide) (by decide) (XS.iload X6.here hx rfl (hb hby d9_3) rfl (XS.iload X6.here hx rfl (hb hby d9_5) rfl (XS.icmpNo X6.here hx rfl (hb hby d9_7) rfl (tlt (by decide : (2 : Int32) < (4 : Int32))).2.1 (XS.aloadN X6.here hx rfl (hb hby d9_10) rfl rfl (XS.iloadN X6.here hx rfl (hb hby d9_11) rfl kk)))))))))) ?_
  obtain ⟨cl9, Ar9, qk9, S9, Ng9, H9, G9⟩ := (id V_a0)
  have hin9 : ¬ ((2 : Int32) < 0 ∨ cl9.slots.size ≤ ((2 : Int32)).toNatClampNeg) := inb_of S9 ⟨by decide, by decide⟩
  have hat9 : cl9.slots[((2 : Int32)).toNatClampNeg]? = some (.int c3) := Has.at H9 hin9 rfl
  refine Go.st (S' := T6.setTop (mkF m 25 #[vr a0, vi 2, vr a2, vi 2, vi 4, vi 2, vi c3] [.int 2])) (fun _ kk => X6.caload hx (j := (2 : Int32)) (v := (.int c3)) (by rw [e6]; exact Ar9.1) (State.isArrayOf_alike hZ.alike Ar9.2.1) Ar9.2.2 hin9 hat9 (g := (mkF m 12 #[vr a0, vi 2, vr a2, vi 2, vi 4, vi 2, vi c2] [.int 2, .ref a0])) rfl rfl (hb hby d9_12) _ (XS.istore X6.here hx rfl (hb hby d9_13) rfl (l' := #[vr a0, vi 2, vr a2, vi 2, vi 4, vi 2, vi c3]) rfl (XS.iload X6.here hx rfl (hb hby d9_15) rfl (XS.sipush X6.here hx rfl (hb hby d9_17) (XS.icmpNo X6.here hx rfl (hb hby d9_20) rfl (tlt u3).2.2.2 (XS.iload X6.here hx rfl (hb hby d9_23) rfl kk)))))) ?_
  exact Go.retI X6 hx hlk Bd.returns (hb hby d9_25) (by rw [e6]; exact ⟨rfl, N6, Kp8, V_a2⟩) (by decide) (by decide)
def Q_c3_4_2 (Z : State) (c1 : Int32) (c2 : Int32) (c3 : Int32) (c4 : Int32) (h0 : Heap) (n0 : Nat) (v : Option Value) (h : Heap) (L : List Loc) : Prop := ∃ (b : Addr) (k : ClassId), v = some (.ref b) ∧ Fr n0 L ∧ Keep h0 h [] ∧ Arv Z h b k .byte (8 : Int32) [(.int (((c1 >>> ((0 : Int32) &&& 31)).toInt8.toInt32).toInt8.toInt32)), (.int (((c1 >>> ((8 : Int32) &&& 31)).toInt8.toInt32).toInt8.toInt32)), (.int (((c2 >>> ((0 : Int32) &&& 31)).toInt8.toInt32).toInt8.toInt32)), (.int (((c2 >>> ((8 : Int32) &&& 31)).toInt8.toInt32).toInt8.toInt32)), (.int (((c3 >>> ((0 : Int32) &&& 31)).toInt8.toInt32).toInt8.toInt32)), (.int (((c3 >>> ((8 : Int32) &&& 31)).toInt8.toInt32).toInt8.toInt32)), (.int (((c4 >>> ((0 : Int32) &&& 31)).toInt8.toInt32).toInt8.toInt32)), (.int (((c4 >>> ((8 : Int32) &&& 31)).toInt8.toInt32).toInt8.toInt32))] (.int 0) ∧ Exa Z h b "[B" ∧ h0.size ≤ b
theorem rmC3_4_2 (l : Launch) (Z : State) (az : Array Value) (hw : HW az Z) (ws : List Jvm.Cond) (a0 : Addr) (p1 : Int32) (p2 : Int32) (zc : Int32) (fm : Value) (k0 : ClassId) (c1 : Int32) (c2 : Int32) (c3 : Int32) (c4 : Int32) (h0 : Heap) (n0 : Nat) (Z0 : n0 ≤ h0.size) (S_C : tS0 Z h0 (.int zc)) (hzc : ¬ zc = 0) (S_F : tS1 Z h0 fm) (hfm : fm.isRef = true) (S_A : tS2 Z h0 (.int 1)) (S_H : tS3 Z h0 (.int 0)) (S_L : tS4 Z h0 (.int 8)) (V_a0 : Arv Z h0 a0 k0 .char (4 : Int32) [(.int c1), (.int c2), (.int c3), (.int c4)] (.int 0)) (h1 : p1 = 0) (h2 : p2 = (4 : Int32)) (y1 : 0 ≤ c1.toInt ∧ c1.toInt ≤ 65535) (y2 : 0 ≤ c2.toInt ∧ c2.toInt ≤ 65535) (y3 : 0 ≤ c3.toInt ∧ c3.toInt ≤ 65535) (y4 : 0 ≤ c4.toInt ∧ c4.toInt ≤ 65535) (u1 : ¬ (255 : Int32) < c1) (u2 : ¬ (255 : Int32) < c2) (u3 : (255 : Int32) < c3) :
    MF l mN20 (Jvm.Cond.code mN20 jdk_52_method_16_code 6 (some (.array .byte)) :: ws) (rO 3 2 12 40) #[(.ref a0), (.int p1), (.int p2)] Z h0 (Q_c3_4_2 Z c1 c2 c3 c4 h0 n0) := by
  refine MetFree.of_bodySF (plainFor_of_name pn_3) hisR ?_
  intro p e s m args below meth c s₁ Bd hml0 hP hK
  obtain ⟨rfl, hZ, hh⟩ := hP
  have hx := Bd.exec
  have hby := Bd.bytes
  have hlk : meth.locks = false := Bd.notSynchronized
  have hml : c.maxLocals = 6 := hml0
  have hown : s.vm.findClass "java/lang/StringUTF16" = some m.cls := findClass_of_methodNamed Bd.named
  have X0 : Stand p l e (rO 3 2 12 40) s m #[(.ref a0), (.int p1), (.int p2)] below meth c s₁ [] 0 0 := Stand.of_body Bd
  have e0 : s₁.heap = h0 := by rw [← hh, Bd.state]; rfl
  have N0 := Fr.nil n0
  show Go p e below s ((Q_c3_4_2 Z c1 c2 c3 c4 h0 n0)) (rO 3 2 12 40).cells (rO 3 2 12 40).slots (s₁.setTop (entryFrame m #[(.ref a0), (.int p1), (.int p2)] 6))
  rw [ef_8 m a0 p1 p2]
  subst h1 h2
  have hix0 : ¬ ((2 : Int32) <<< ((1 : Int32) &&& 31)) < 0 ∧ ((2 : Int32) <<< ((1 : Int32) &&& 31)) < (8 : Int32) := by decide
  have hix1 : ¬ (((2 : Int32) <<< ((1 : Int32) &&& 31)) + (1 : Int32)) < 0 ∧ (((2 : Int32) <<< ((1 : Int32) &&& 31)) + (1 : Int32)) < (8 : Int32) := by decide
  refine Go.st (S' := s₁.setTop (mkF m 1 #[vr a0, vi 0, vi 4, .unset, .unset, .unset] [.int 4])) (fun _ kk => XS.iloadN X0.here hx rfl (hb hby d8_0) rfl kk) ?_
  obtain ⟨T1, h1, k1, X1, e1, E1, A1, E_b1, st1⟩ := newPE X0 hx hZ (ow hw 20 rfl) e0 (g := (mkF m 1 #[vr a0, vi 0, vi 4, .unset, .unset, .unset] [.int 4])) rfl (hb hby d8_1) rfl (by decide) (cap := 4) (by decide) (by decide) (by decide : 0 + 1 ≤ _) (by decide : 0 + 4 ≤ _) (ad := "[B") rfl
  obtain ⟨b1, g1⟩ : ∃ z, z = h0.size := ⟨_, rfl⟩
  rw [← g1] at A1 E_b1 st1
  have ne_a0_b1 : a0 ≠ b1 := Nat.ne_of_lt (Nat.lt_of_lt_of_le V_a0.lt (Nat.le_of_eq g1.symm))
  have g_b1 : n0 ≤ b1 := Nat.le_trans Z0 (Nat.le_of_eq g1.symm)
  have sz_b1 : h0.size ≤ b1 := Nat.le_trans (Keep.refl h0 []).1 (Nat.le_of_eq g1.symm)
  have S_C := S_C.ext E1
  have S_F := S_F.ext E1
  have S_A := S_A.ext E1
  have S_H := S_H.ext E1
  have S_L := S_L.ext E1
  have V_a0 := V_a0.ext E1
  have Zs2 := Nat.le_trans Z0 E1.1
  have Kp3 := (Keep.refl h0 []).ext E1
  have V_b1 : Arv Z h1 b1 k1 .byte (4 : Int32) [(.int 0), (.int 0), (.int 0), (.int 0)] (.int 0) := (Arv.new A1 (by decide)).pad (pad_rep [] (.int 0) 4)
  refine Go.st (S' := T1.setTop (mkF m 9 #[vr a0, vi 0, vi 4, vr b1, .unset, .unset] [.int 4, .int 0, .ref b1, .int 0, .ref a0])) (fun _ kk => st1 _ (XS.astoreN X1.here hx rfl (hb hby d8_3) rfl rfl (l' := #[vr a0, vi 0, vi 4, vr b1, .unset, .unset]) rfl (XS.aloadN X1.here hx rfl (hb hby d8_4) rfl rfl (XS.iloadN X1.here hx rfl (hb hby d8_5) rfl (XS.aloadN X1.here hx rfl (hb hby d8_6) rfl rfl (XS.iconst X1.here hx rfl (hb hby d8_7) (XS.iloadN X1.here hx rfl (hb hby d8_8) rfl kk))))))) ?_
  obtain ⟨_, _, ⟨T4, L4, k4, n4⟩, -, X4, ⟨Lc4, hQ4, l4, y4, z4⟩, st4⟩ := Jvm.LawKit.callS X1 hx (y := mN21) hown (mvT hZ (ow hw 46 rfl)) (mvT hZ (ow hw 47 rfl)) (mvT hZ (ow hw 44 rfl)) (mvT hZ (ow hw 48 rfl)) (by decide) (backOf (W := 0) (rmC5_4_2 l Z az hw [] a0 (0 : Int32) b1 (0 : Int32) (4 : Int32) k0 k1 c1 c2 c3 c4 h1 n0 Zs2 V_a0 V_b1 ne_a0_b1 g_b1 rfl rfl rfl u1 u2 u3) hZ (ow hw 48 rfl) (ow hw 44 rfl) (by decide) (by decide)) (g := (mkF m 9 #[vr a0, vi 0, vi 4, vr b1, .unset, .unset] [.int 4, .int 0, .ref b1, .int 0, .ref a0])) rfl (by rw [hml]; rfl) (argsL := [.ref a0, .int 0, .ref b1, .int 0, .int 4]) (rest := []) (lenOf pd_8 rfl) rfl (oW rfl rfl) (hb hby d8_9) (fun _ _ => ⟨rfl, e1, (by decide : 1 + 0 ≤ _), (by decide : 4 + 0 ≤ _)⟩)
  dsimp only [Pt.U, Pt.locs, Pt.cells, Pt.slots] at X4 l4 y4 z4 st4 hQ4
  subst l4 y4 z4
  obtain ⟨rfl, N4q, K4, Va4⟩ := hQ4
  have N4 := Fr.app N0 N4q
  have S_C := own_stak K4 (allS (P := fun x => ∀ cell : Cell, (h1)[x]? = some cell → cell.vm.isStatics = false) (Exa.nostat E_b1) all0) S_C
  have S_F := own_stak K4 (allS (P := fun x => ∀ cell : Cell, (h1)[x]? = some cell → cell.vm.isStatics = false) (Exa.nostat E_b1) all0) S_F
  have S_A := own_stak K4 (allS (P := fun x => ∀ cell : Cell, (h1)[x]? = some cell → cell.vm.isStatics = false) (Exa.nostat E_b1) all0) S_A
  have S_H := own_stak K4 (allS (P := fun x => ∀ cell : Cell, (h1)[x]? = some cell → cell.vm.isStatics = false) (Exa.nostat E_b1) all0) S_H
  have S_L := own_stak K4 (allS (P := fun x => ∀ cell : Cell, (h1)[x]? = some cell → cell.vm.isStatics = false) (Exa.nostat E_b1) all0) S_L
  have V_a0 := V_a0.keep K4 (ninS ne_a0_b1 nin0)
  have E_b1 := E_b1.keep K4
  have Zs5 := Nat.le_trans Zs2 K4.1
  have Kp6 := Kp3.trans K4 (allS (Or.inr sz_b1) all0)
  refine Go.st (S' := T4.setTop (mkF m 23 #[vr a0, vi 0, vi 4, vr b1, vi 2, .unset] [.int 4, .int 0, .ref a0])) (fun _ kk => st4 _ (XS.istore X4.here hx rfl (hb hby d8_12) rfl (l' := #[vr a0, vi 0, vi 4, vr b1, vi 2, .unset]) rfl (XS.iload X4.here hx rfl (hb hby d8_14) rfl (XS.iloadN X4.here hx rfl (hb hby d8_16) rfl (XS.icmpNo X4.here hx rfl (hb hby d8_17) rfl (feq (by decide : ¬ ((2 : Int32) = (4 : Int32)))).1 (XS.aloadN X4.here hx rfl (hb hby d8_20) rfl rfl (XS.iloadN X4.here hx rfl (hb hby d8_21) rfl (XS.iloadN X4.here hx rfl (hb hby d8_22) rfl kk)))))))) ?_
  obtain ⟨_, _, ⟨T7, L7, k7, n7⟩, -, X7, ⟨Lc7, hQ7, l7, y7, z7⟩, st7⟩ := Jvm.LawKit.callS X4 hx (y := mN27) hown (mvT hZ (ow hw 96 rfl)) (mvT hZ (ow hw 97 rfl)) (mvT hZ (ow hw 44 rfl)) (mvT hZ (ow hw 98 rfl)) (by decide) (backOf (W := 0) (rmTB_4 l Z az hw [] a0 (0 : Int32) (4 : Int32) zc fm k0 c1 c2 c3 c4 T4.heap n0 Zs5 S_C hzc S_F hfm S_A S_H S_L V_a0 rfl rfl) hZ (ow hw 98 rfl) (ow hw 44 rfl) (by decide) (by decide)) (g := (mkF m 23 #[vr a0, vi 0, vi 4, vr b1, vi 2, .unset] [.int 4, .int 0, .ref a0])) rfl (by rw [hml]; rfl) (argsL := [.ref a0, .int 0, .int 4]) (rest := []) (lenOf pd_7 rfl) rfl (oW rfl rfl) (hb hby d8_23) (fun _ _ => ⟨rfl, rfl, (by decide : 1 + 1 ≤ _), (by decide : 4 + 8 ≤ _)⟩)
  dsimp only [Pt.U, Pt.locs, Pt.cells, Pt.slots] at X7 l7 y7 z7 st7 hQ7
  subst l7 y7 z7
  obtain ⟨b7, kb7, rfl, N7q, K7, V_b7, E_b7, gb7⟩ := hQ7
  have Ex7 := own_extK K7
  have N7 := Fr.app N4 N7q
  have ne_a0_b7 : a0 ≠ b7 := Nat.ne_of_lt (Nat.lt_of_lt_of_le V_a0.lt gb7)
  have ne_b1_b7 : b1 ≠ b7 := Nat.ne_of_lt (Nat.lt_of_lt_of_le E_b1.lt gb7)
  have g_b7 : n0 ≤ b7 := Nat.le_trans Zs5 gb7
  have sz_b7 : h0.size ≤ b7 := Nat.le_trans Kp6.1 gb7
  have S_C := S_C.ext Ex7
  have S_F := S_F.ext Ex7
  have S_A := S_A.ext Ex7
  have S_H := S_H.ext Ex7
  have S_L := S_L.ext Ex7
  have V_a0 := V_a0.ext Ex7
  have E_b1 := E_b1.ext Ex7
  have Va4 := Va4.ext Ex7
  have Zs8 := Nat.le_trans Zs5 Ex7.1
  have Kp9 := Kp6.ext Ex7
  refine Go.st (S' := T7.setTop (mkF m 32 #[vr a0, vi 0, vi 4, vr b1, vi 2, vr b7] [.int 2, .ref b7])) (fun _ kk => st7 _ (XS.astore X7.here hx rfl (hb hby d8_26) rfl rfl (l' := #[vr a0, vi 0, vi 4, vr b1, vi 2, vr b7]) rfl (XS.aload X7.here hx rfl (hb hby d8_28) rfl rfl (XS.iload X7.here hx rfl (hb hby d8_30) rfl kk)))) ?_
  obtain ⟨_, _, ⟨T10, L10, k10, n10⟩, -, X10, ⟨Lc10, hQ10, l10, y10, z10⟩, st10⟩ := Jvm.LawKit.callS X7 hx (y := mN22) hown (mvT hZ (ow hw 112 rfl)) (mvT hZ (ow hw 113 rfl)) (mvT hZ (ow hw 44 rfl)) (mvT hZ (ow hw 114 rfl)) (by decide) (backOf (W := 0) (rmUg l Z az hw [] b7 (2 : Int32) zc fm kb7 (8 : Int32) [(((c1 >>> ((0 : Int32) &&& 31)).toInt8.toInt32).toInt8.toInt32), (((c1 >>> ((8 : Int32) &&& 31)).toInt8.toInt32).toInt8.toInt32), (((c2 >>> ((0 : Int32) &&& 31)).toInt8.toInt32).toInt8.toInt32), (((c2 >>> ((8 : Int32) &&& 31)).toInt8.toInt32).toInt8.toInt32), (((c3 >>> ((0 : Int32) &&& 31)).toInt8.toInt32).toInt8.toInt32), (((c3 >>> ((8 : Int32) &&& 31)).toInt8.toInt32).toInt8.toInt32), (((c4 >>> ((0 : Int32) &&& 31)).toInt8.toInt32).toInt8.toInt32), (((c4 >>> ((8 : Int32) &&& 31)).toInt8.toInt32).toInt8.toInt32)] T7.heap n0 Zs8 S_C hzc S_F hfm S_A S_H S_L V_b7 hix0 hix1) hZ (ow hw 114 rfl) (ow hw 44 rfl) (by decide) (by decide)) (g := (mkF m 32 #[vr a0, vi 0, vi 4, vr b1, vi 2, vr b7] [.int 2, .ref b7])) rfl (by rw [hml]; rfl) (argsL := [.ref b7, .int 2]) (rest := []) (lenOf pd_14 rfl) rfl (oW rfl rfl) (hb hby d8_32) (fun _ _ => ⟨rfl, rfl, (by decide : 2 + 0 ≤ _), (by decide : 12 + 0 ≤ _)⟩)
  dsimp only [Pt.U, Pt.locs, Pt.cells, Pt.slots] at X10 l10 y10 z10 st10 hQ10
  subst l10 y10 z10
  obtain ⟨hv10, N10q, e10⟩ := hQ10
  subst hv10
  have N10 := Fr.app N7 N10q
  refine Go.st (S' := T10.setTop (mkF m 35 #[vr a0, vi 0, vi 4, vr b1, vi 2, vr b7] [.int (own_g16 (bt [(((c1 >>> ((0 : Int32) &&& 31)).toInt8.toInt32).toInt8.toInt32), (((c1 >>> ((8 : Int32) &&& 31)).toInt8.toInt32).toInt8.toInt32), (((c2 >>> ((0 : Int32) &&& 31)).toInt8.toInt32).toInt8.toInt32), (((c2 >>> ((8 : Int32) &&& 31)).toInt8.toInt32).toInt8.toInt32), (((c3 >>> ((0 : Int32) &&& 31)).toInt8.toInt32).toInt8.toInt32), (((c3 >>> ((8 : Int32) &&& 31)).toInt8.toInt32).toInt8.toInt32), (((c4 >>> ((0 : Int32) &&& 31)).toInt8.toInt32).toInt8.toInt32), (((c4 >>> ((8 : Int32) &&& 31)).toInt8.toInt32).toInt8.toInt32)] ((2 : Int32) <<< ((1 : Int32) &&& 31))) (bt [(((c1 >>> ((0 : Int32) &&& 31)).toInt8.toInt32).toInt8.toInt32), (((c1 >>> ((8 : Int32) &&& 31)).toInt8.toInt32).toInt8.toInt32), (((c2 >>> ((0 : Int32) &&& 31)).toInt8.toInt32).toInt8.toInt32), (((c2 >>> ((8 : Int32) &&& 31)).toInt8.toInt32).toInt8.toInt32), (((c3 >>> ((0 : Int32) &&& 31)).toInt8.toInt32).toInt8.toInt32), (((c3 >>> ((8 : Int32) &&& 31)).toInt8.toInt32).toInt8.toInt32), (((c4 >>> ((0 : Int32) &&& 31)).toInt8.toInt32).toInt8.toInt32), (((c4 >>> ((8 : Int32) &&& 31)).toInt8.toInt32).toInt8.toInt32)] (((2 : Int32) <<< ((1 : Int32) &&& 31)) + (1 : Int32))))])) st10 ?_
  rw [show (own_g16 (bt [(((c1 >>> ((0 : Int32) &&& 31)).toInt8.toInt32).toInt8.toInt32), (((c1 >>> ((8 : Int32) &&& 31)).toInt8.toInt32).toInt8.toInt32), (((c2 >>> ((0 : Int32) &&& 31)).toInt8.toInt32).toInt8.toInt32), (((c2 >>> ((8 : Int32) &&& 31)).toInt8.toInt32).toInt8.toInt32), (((c3 >>> ((0 : Int32) &&& 31)).toInt8.toInt32).toInt8.toInt32), (((c3 >>> ((8 : Int32) &&& 31)).toInt8.toInt32).toInt8.toInt32), (((c4 >>> ((0 : Int32) &&& 31)).toInt8.toInt32).toInt8.toInt32), (((c4 >>> ((8 : Int32) &&& 31)).toInt8.toInt32).toInt8.toInt32)] ((2 : Int32) <<< ((1 : Int32) &&& 31))) (bt [(((c1 >>> ((0 : Int32) &&& 31)).toInt8.toInt32).toInt8.toInt32), (((c1 >>> ((8 : Int32) &&& 31)).toInt8.toInt32).toInt8.toInt32), (((c2 >>> ((0 : Int32) &&& 31)).toInt8.toInt32).toInt8.toInt32), (((c2 >>> ((8 : Int32) &&& 31)).toInt8.toInt32).toInt8.toInt32), (((c3 >>> ((0 : Int32) &&& 31)).toInt8.toInt32).toInt8.toInt32), (((c3 >>> ((8 : Int32) &&& 31)).toInt8.toInt32).toInt8.toInt32), (((c4 >>> ((0 : Int32) &&& 31)).toInt8.toInt32).toInt8.toInt32), (((c4 >>> ((8 : Int32) &&& 31)).toInt8.toInt32).toInt8.toInt32)] (((2 : Int32) <<< ((1 : Int32) &&& 31)) + (1 : Int32)))) = c3 from own_rtg y3]
  refine Go.st (S' := T10.setTop (mkF m 56 #[vr a0, vi 0, vi 4, vr b1, vi 2, vr b7] [.ref b7])) (fun _ kk => XS.sipush X10.here hx rfl (hb hby d8_35) (XS.icmpYes X10.here hx rfl (pc0 := 38) (pc' := 54) rfl (hb hby d8_38) rfl (tlt u3).2.2.1 (by decide) (by decide) (XS.aload X10.here hx rfl (hb hby d8_54) rfl rfl kk))) ?_
  exact Go.retA X10 hx hlk Bd.returns rfl rfl (hb hby d8_56) (by rw [e10]; exact ⟨_, _, rfl, N10, Kp9, V_b7, E_b7, sz_b7⟩) (by decide) (by decide)
theorem rmI5_4_2 (l : Launch) (Z : State) (az : Array Value) (hw : HW az Z) (ws : List Jvm.Cond) (a0 : Addr) (a1 : Addr) (p2 : Int32) (p3 : Int32) (zc : Int32) (fm : Value) (k1 : ClassId) (c1 : Int32) (c2 : Int32) (c3 : Int32) (c4 : Int32) (h0 : Heap) (n0 : Nat) (Z0 : n0 ≤ h0.size) (S_C : tS0 Z h0 (.int zc)) (hzc : ¬ zc = 0) (S_F : tS1 Z h0 fm) (hfm : fm.isRef = true) (S_A : tS2 Z h0 (.int 1)) (S_H : tS3 Z h0 (.int 0)) (S_L : tS4 Z h0 (.int 8)) (E_a0 : Exa Z h0 a0 "java/lang/String") (F_coder : tF0 Z h0 a0 (.int 0)) (F_value : tF1 Z h0 a0 .null) (g_a0 : n0 ≤ a0) (ne : a0 ≠ a1) (V_a1 : Arv Z h0 a1 k1 .char (4 : Int32) [(.int c1), (.int c2), (.int c3), (.int c4)] (.int 0)) (h2 : p2 = 0) (h3 : p3 = (4 : Int32)) (y1 : 0 ≤ c1.toInt ∧ c1.toInt ≤ 65535) (y2 : 0 ≤ c2.toInt ∧ c2.toInt ≤ 65535) (y3 : 0 ≤ c3.toInt ∧ c3.toInt ≤ 65535) (y4 : 0 ≤ c4.toInt ∧ c4.toInt ≤ 65535) (u1 : ¬ (255 : Int32) < c1) (u2 : ¬ (255 : Int32) < c2) (u3 : (255 : Int32) < c3) :
    MF l mN10 (Jvm.Cond.code mN10 jdk_42_method_149_code 6 none :: ws) (rO 4 2 12 57) #[(.ref a0), (.ref a1), (.int p2), (.int p3), .null] Z h0 (Q_in_4 Z a0 c1 c2 c3 c4 h0 n0) := by
  refine MetFree.of_bodySF (plainFor_of_name pn_1) hisR ?_
  intro p e s m args below meth c s₁ Bd hml0 hP hK
  obtain ⟨rfl, hZ, hh⟩ := hP
  have hx := Bd.exec
  have hby := Bd.bytes
  have hlk : meth.locks = false := Bd.notSynchronized
  have hml : c.maxLocals = 6 := hml0
  have hown : s.vm.findClass "java/lang/String" = some m.cls := findClass_of_methodNamed Bd.named
  have hnm := (name_of_methodNamed Bd.named Bd.method).1
  have X0 : Stand p l e (rO 4 2 12 57) s m #[(.ref a0), (.ref a1), (.int p2), (.int p3), .null] below meth c s₁ [] 0 0 := Stand.of_body Bd
  have e0 : s₁.heap = h0 := by rw [← hh, Bd.state]; rfl
  have N0 := Fr.nil n0
  show Go p e below s ((Q_in_4 Z a0 c1 c2 c3 c4 h0 n0)) (rO 4 2 12 57).cells (rO 4 2 12 57).slots (s₁.setTop (entryFrame m #[(.ref a0), (.ref a1), (.int p2), (.int p3), .null] 6))
  rw [ef_3n4 m a0 a1 p2 p3]
  subst h2 h3
  refine Go.st (S' := s₁.setTop (mkF m 1 #[vr a0, vr a1, vi 0, vi 4, .val .null, .unset] [.ref a0])) (fun _ kk => XS.aloadN X0.here hx rfl (hb hby d3_0) rfl rfl kk) ?_
  obtain ⟨T1, X1, e1, st1⟩ := initO X0 hx hZ hown (ow hw 16 rfl) (ow hw 17 rfl) (ow hw 18 rfl) e0 (g := (mkF m 1 #[vr a0, vr a1, vi 0, vi 4, .val .null, .unset] [.ref a0])) rfl (by rw [hml]; rfl) rfl (hb hby d3_1) (by decide) (W := 0) (oW rfl rfl) (by decide)
  refine Go.st (S' := T1.setTop (mkF m 27 #[vr a0, vr a1, vi 0, vi 4, .val .null, .unset] [])) (fun _ kk => st1 _ (XS.iloadN X1.here hx rfl (hb hby d3_4) rfl (XS.ifYes X1.here hx rfl (pc0 := 5) (pc' := 27) rfl (hb hby d3_5) rfl ((if0 _ _).trans (feq (by decide : ¬ ((4 : Int32) = (0 : Int32)))).2) (by decide) (by decide) kk))) ?_
  obtain ⟨T2, X2, e2, st2⟩ := getS2 X1 hx hZ hown (host := "") (Or.inl (ow hw 41 rfl)) Via.refl e1 S_C (g := (mkF m 27 #[vr a0, vr a1, vi 0, vi 4, .val .null, .unset] [])) rfl (hb hby d3_27)
  refine Go.st (S' := T2.setTop (mkF m 36 #[vr a0, vr a1, vi 0, vi 4, .val .null, .unset] [.int 4, .int 0, .ref a1])) (fun _ kk => st2 _ (XS.ifNo X2.here hx rfl (hb hby d3_30) rfl ((if0 _ _).trans (feq hzc).1) (XS.aloadN X2.here hx rfl (hb hby d3_33) rfl rfl (XS.iloadN X2.here hx rfl (hb hby d3_34) rfl (XS.iloadN X2.here hx rfl (hb hby d3_35) rfl kk))))) ?_
  obtain ⟨_, _, ⟨T3, L3, k3, n3⟩, -, X3, ⟨Lc3, hQ3, l3, y3, z3⟩, st3⟩ := Jvm.LawKit.callS X2 hx (y := mN20) hown (mvT hZ (ow hw 42 rfl)) (mvT hZ (ow hw 43 rfl)) (mvT hZ (ow hw 44 rfl)) (mvT hZ (ow hw 45 rfl)) (by decide) (backOf (W := 0) (rmC3_4_2 l Z az hw [] a1 (0 : Int32) (4 : Int32) zc fm k1 c1 c2 c3 c4 h0 n0 Z0 S_C hzc S_F hfm S_A S_H S_L V_a1 rfl rfl y1 y2 y3 y4 u1 u2 u3) hZ (ow hw 45 rfl) (ow hw 44 rfl) (by decide) (by decide)) (g := (mkF m 36 #[vr a0, vr a1, vi 0, vi 4, .val .null, .unset] [.int 4, .int 0, .ref a1])) rfl (by rw [hml]; rfl) (argsL := [.ref a1, .int 0, .int 4]) (rest := []) (lenOf pd_7 rfl) rfl (oW rfl rfl) (hb hby d3_36) (fun _ _ => ⟨rfl, e2, (by decide : 0 + 2 ≤ _), (by decide : 0 + 12 ≤ _)⟩)
  dsimp only [Pt.U, Pt.locs, Pt.cells, Pt.slots] at X3 l3 y3 z3 st3 hQ3
  subst l3 y3 z3
  obtain ⟨b3, kb3, rfl, N3q, K3, V_b3, E_b3, gb3⟩ := hQ3
  have Ex3 := own_extK K3
  have N3 := Fr.app N0 N3q
  have ne_a0_b3 : a0 ≠ b3 := Nat.ne_of_lt (Nat.lt_of_lt_of_le E_a0.lt gb3)
  have ne_a1_b3 : a1 ≠ b3 := Nat.ne_of_lt (Nat.lt_of_lt_of_le V_a1.lt gb3)
  have g_b3 : n0 ≤ b3 := Nat.le_trans Z0 gb3
  have sz_b3 : h0.size ≤ b3 := Nat.le_trans (Keep.refl h0 [a0]).1 gb3
  have S_C := S_C.ext Ex3
  have S_F := S_F.ext Ex3
  have S_A := S_A.ext Ex3
  have S_H := S_H.ext Ex3
  have S_L := S_L.ext Ex3
  have E_a0 := E_a0.ext Ex3
  have F_coder := F_coder.ext Ex3
  have F_value := F_value.ext Ex3
  have V_a1 := V_a1.ext Ex3
  have Zs4 := Nat.le_trans Z0 Ex3.1
  have Kp5 := (Keep.refl h0 [a0]).ext Ex3
  refine Go.st (S' := T3.setTop (mkF m 45 #[vr a0, vr a1, vi 0, vi 4, .val .null, vr b3] [.int 4, .ref b3, .ref a0])) (fun _ kk => st3 _ (XS.astore X3.here hx rfl (hb hby d3_39) rfl rfl (l' := #[vr a0, vr a1, vi 0, vi 4, .val .null, vr b3]) rfl (XS.aloadN X3.here hx rfl (hb hby d3_41) rfl rfl (XS.aload X3.here hx rfl (hb hby d3_42) rfl rfl (XS.iloadN X3.here hx rfl (hb hby d3_44) rfl kk))))) ?_
  obtain ⟨_, _, ⟨T6, L6, k6, n6⟩, -, X6, ⟨Lc6, hQ6, l6, y6, z6⟩, st6⟩ := Jvm.LawKit.callS X3 hx (y := mN19) hown (mvT hZ (ow hw 49 rfl)) (mvT hZ (ow hw 50 rfl)) (mvT hZ (ow hw 44 rfl)) (mvT hZ (ow hw 51 rfl)) (by decide) (backOf (W := 1) (rmCd_4_1 l Z az hw [] b3 (4 : Int32) kb3 _ T3.heap n0 Zs4 V_b3 rfl) hZ (ow hw 51 rfl) (ow hw 44 rfl) (by decide) (by decide)) (g := (mkF m 45 #[vr a0, vr a1, vi 0, vi 4, .val .null, vr b3] [.int 4, .ref b3, .ref a0])) rfl (by rw [hml]; rfl) (argsL := [.ref b3, .int 4]) (rest := [.ref a0]) (lenOf pd_9 rfl) rfl (oW rfl rfl) (hb hby d3_45) (fun _ _ => ⟨rfl, rfl, (by decide : 2 + 0 ≤ _), (by decide : 12 + 0 ≤ _)⟩)
  dsimp only [Pt.U, Pt.locs, Pt.cells, Pt.slots] at X6 l6 y6 z6 st6 hQ6
  subst l6 y6 z6
  obtain ⟨hv6, N6q, e6⟩ := hQ6
  subst hv6
  have N6 := Fr.app N3 N6q
  refine Go.st (S' := T6.setTop (mkF m 48 #[vr a0, vr a1, vi 0, vi 4, .val .null, vr b3] [.int 1, .ref a0])) st6 ?_
  obtain ⟨T7, h7, X7, e7, W7, st7⟩ := putFN X6 hx hZ hown (ow hw 26 rfl) Via.refl e6 F_coder E_a0 (Or.inr ⟨(ow hw 22 rfl), rfl, hnm⟩) (ow hw 7 rfl) (ty := .byte) (v' := .int (nar .byte (1 : Int32))) (by decide) rfl (fits_nar_byte _) (g := (mkF m 48 #[vr a0, vr a1, vi 0, vi 4, .val .null, vr b3] [.int 1, .ref a0])) rfl rfl (hb hby d3_48)
  have N7 := Fr.snoc X7 N6 g_a0
  have F_coder := F_coder.same W7
  have S_C := S_C.wr W7
  have S_F := S_F.wr W7
  have S_A := S_A.wr W7
  have S_H := S_H.wr W7
  have S_L := S_L.wr W7
  have E_a0 := E_a0.wr W7
  have F_value := F_value.other W7 (Or.inr (slot_ne (Or.inr (ow hw 21 rfl)) (Or.inr (ow hw 22 rfl)) (by decide) (t := (.array .byte)) (t' := .byte) (by decide) (by decide)))
  have V_a1 := V_a1.other W7 (Ne.symm ne)
  have E_b3 := E_b3.wr W7
  have V_b3 := V_b3.other W7 (Ne.symm ne_a0_b3)
  have Zs8 := Nat.le_trans Zs4 (Keep.of_wr W7).1
  have Kp9 := Kp5.wr W7 (Or.inl (List.mem_of_getElem? (i := 0) rfl))
  refine Go.st (S' := T7.setTop (mkF m 54 #[vr a0, vr a1, vi 0, vi 4, .val .null, vr b3] [.ref b3, .ref a0])) (fun _ kk => st7 _ (XS.aloadN X7.here hx rfl (hb hby d3_51) rfl rfl (XS.aload X7.here hx rfl (hb hby d3_52) rfl rfl kk))) ?_
  obtain ⟨T10, h10, X10, e10, W10, st10⟩ := putF X7 hx hZ hown (host := "") (Or.inl (ow hw 25 rfl)) Via.refl e7 F_value E_a0 (Or.inr ⟨(ow hw 21 rfl), rfl, hnm⟩) (ow hw 7 rfl) (ty := (.array .byte)) (by decide) rfl rfl (g := (mkF m 54 #[vr a0, vr a1, vi 0, vi 4, .val .null, vr b3] [.ref b3, .ref a0])) rfl rfl (hb hby d3_54)
  have N10 := Fr.snoc X10 N7 g_a0
  have F_value := F_value.same W10
  have S_C := S_C.wr W10
  have S_F := S_F.wr W10
  have S_A := S_A.wr W10
  have S_H := S_H.wr W10
  have S_L := S_L.wr W10
  have E_a0 := E_a0.wr W10
  have F_coder := F_coder.other W10 (Or.inr (slot_ne (Or.inr (ow hw 22 rfl)) (Or.inr (ow hw 21 rfl)) (by decide) (t := .byte) (t' := (.array .byte)) (by decide) (by decide)))
  have V_a1 := V_a1.other W10 (Ne.symm ne)
  have E_b3 := E_b3.wr W10
  have V_b3 := V_b3.other W10 (Ne.symm ne_a0_b3)
  have Zs11 := Nat.le_trans Zs8 (Keep.of_wr W10).1
  have Kp12 := Kp9.wr W10 (Or.inl (List.mem_of_getElem? (i := 0) rfl))
  refine Go.st (S' := T10.setTop (mkF m 57 #[vr a0, vr a1, vi 0, vi 4, .val .null, vr b3] [])) st10 ?_
  exact Go.ret0 X10 hx hlk Bd.returns (hb hby d3_57) (by rw [e10]; exact ⟨rfl, N10, Kp12, E_a0, _, _, _, _, (own_u16 [c1, c2, c3, c4]), F_coder, F_value, V_b3, Or.inr ⟨rfl, rfl, rfl, (List.forall_mem_cons.mpr ⟨y1, (List.forall_mem_cons.mpr ⟨y2, (List.forall_mem_cons.mpr ⟨y3, (List.forall_mem_cons.mpr ⟨y4, (fun _ hx => nomatch hx)⟩)⟩)⟩)⟩)⟩⟩) (by decide) (by decide)
def Q_c5_4_3 (Z : State) (a2 : Addr) (k2 : ClassId) (c1 : Int32) (c2 : Int32) (c3 : Int32) (c4 : Int32) (h0 : Heap) (n0 : Nat) (v : Option Value) (h : Heap) (L : List Loc) : Prop := v = some (.int 3) ∧ Fr n0 L ∧ Keep h0 h [a2] ∧ Arv Z h a2 k2 .byte (4 : Int32) [(.int ((c1.toInt8.toInt32).toInt8.toInt32)), (.int ((c2.toInt8.toInt32).toInt8.toInt32)), (.int ((c3.toInt8.toInt32).toInt8.toInt32)), (.int 0)] (.int 0)
theorem rmC5_4_3 (l : Launch) (Z : State) (az : Array Value) (hw : HW az Z) (ws : List Jvm.Cond) (a0 : Addr) (p1 : Int32) (a2 : Addr) (p3 : Int32) (p4 : Int32) (k0 k2 : ClassId) (c1 : Int32) (c2 : Int32) (c3 : Int32) (c4 : Int32) (h0 : Heap) (n0 : Nat) (Z0 : n0 ≤ h0.size) (V_a0 : Arv Z h0 a0 k0 .char (4 : Int32) [(.int c1), (.int c2), (.int c3), (.int c4)] (.int 0)) (V_a2 : Arv Z h0 a2 k2 .byte (4 : Int32) [(.int 0), (.int 0), (.int 0), (.int 0)] (.int 0)) (ne : a0 ≠ a2) (g_a2 : n0 ≤ a2) (h1 : p1 = 0) (h3 : p3 = 0) (h4 : p4 = (4 : Int32)) (u1 : ¬ (255 : Int32) < c1) (u2 : ¬ (255 : Int32) < c2) (u3 : ¬ (255 : Int32) < c3) (u4 : (255 : Int32) < c4) :
    MF l mN21 (Jvm.Cond.code mN21 jdk_52_method_21_code 7 (some .int) :: ws) (rO 0 0 0 0) #[(.ref a0), (.int p1), (.ref a2), (.int p3), (.int p4)] Z h0 (Q_c5_4_3 Z a2 k2 c1 c2 c3 c4 h0 n0) := by
  refine MetFree.of_bodySF (plainFor_of_name pn_3) hisR ?_
  intro p e s m args below meth c s₁ Bd hml0 hP hK
  obtain ⟨rfl, hZ, hh⟩ := hP
  have hx := Bd.exec
  have hby := Bd.bytes
  have hlk : meth.locks = false := Bd.notSynchronized
  have hml : c.maxLocals = 7 := hml0
  have hown : s.vm.findClass "java/lang/StringUTF16" = some m.cls := findClass_of_methodNamed Bd.named
  have X0 : Stand p l e (rO 0 0 0 0) s m #[(.ref a0), (.int p1), (.ref a2), (.int p3), (.int p4)] below meth c s₁ [] 0 0 := Stand.of_body Bd
  have e0 : s₁.heap = h0 := by rw [← hh, Bd.state]; rfl
  have N0 := Fr.nil n0
  show Go p e below s ((Q_c5_4_3 Z a2 k2 c1 c2 c3 c4 h0 n0)) (rO 0 0 0 0).cells (rO 0 0 0 0).slots (s₁.setTop (entryFrame m #[(.ref a0), (.int p1), (.ref a2), (.int p3), (.int p4)] 7))
  rw [ef_9 m a0 p1 a2 p3 p4]
  subst h1 h3 h4
  refine Go.st (S' := s₁.setTop (mkF m 12 #[vr a0, vi 0, vr a2, vi 0, vi 4, vi 0, .unset] [.int 0, .ref a0])) (fun _ kk => XS.iconst X0.here hx rfl (hb hby d9_0) (XS.istore X0.here hx rfl (hb hby d9_1) rfl (l' := #[vr a0, vi 0, vr a2, vi 0, vi 4, vi 0, .unset]) rfl (XS.iload X0.here hx rfl (hb hby d9_3) rfl (XS.iload X0.here hx rfl (hb hby d9_5) rfl (XS.icmpNo X0.here hx rfl (hb hby d9_7) rfl (tlt (by decide : (0 : Int32) < (4 : Int32))).2.1 (XS.aloadN X0.here hx rfl (hb hby d9_10) rfl rfl (XS.iloadN X0.here hx rfl (hb hby d9_11) rfl kk))))))) ?_
  obtain ⟨cl1, Ar1, qk1, S1, Ng1, H1, G1⟩ := (id V_a0)
  have hin1 : ¬ ((0 : Int32) < 0 ∨ cl1.slots.size ≤ ((0 : Int32)).toNatClampNeg) := inb_of S1 ⟨by decide, by decide⟩
  have hat1 : cl1.slots[((0 : Int32)).toNatClampNeg]? = some (.int c1) := Has.at H1 hin1 rfl
  refine Go.st (S' := s₁.setTop (mkF m 31 #[vr a0, vi 0, vr a2, vi 0, vi 4, vi 0, vi c1] [.int (c1.toInt8.toInt32), .int 0, .ref a2])) (fun _ kk => X0.caload hx (j := (0 : Int32)) (v := (.int c1)) (by rw [e0]; exact Ar1.1) (State.isArrayOf_alike hZ.alike Ar1.2.1) Ar1.2.2 hin1 hat1 (g := (mkF m 12 #[vr a0, vi 0, vr a2, vi 0, vi 4, vi 0, .unset] [.int 0, .ref a0])) rfl rfl (hb hby d9_12) _ (XS.istore X0.here hx rfl (hb hby d9_13) rfl (l' := #[vr a0, vi 0, vr a2, vi 0, vi 4, vi 0, vi c1]) rfl (XS.iload X0.here hx rfl (hb hby d9_15) rfl (XS.sipush X0.here hx rfl (hb hby d9_17) (XS.icmpYes X0.here hx rfl (pc0 := 20) (pc' := 26) rfl (hb hby d9_20) rfl (flt u1).2.2.2 (by decide) (by decide) (XS.aloadN X0.here hx rfl (hb hby d9_26) rfl rfl (XS.iloadN X0.here hx rfl (hb hby d9_27) rfl (XS.iload X0.here hx rfl (hb hby d9_28) rfl (XS.i2b X0.here hx rfl (hb hby d9_30) rfl kk))))))))) ?_
  obtain ⟨cl2, Ar2, qk2, S2, Ng2, H2, G2⟩ := (id V_a2)
  have hin2 : ¬ ((0 : Int32) < 0 ∨ cl2.slots.size ≤ ((0 : Int32)).toNatClampNeg) := inb_of S2 ⟨by decide, by decide⟩
  obtain ⟨T2, h2, X2, e2, W2, st2⟩ := stB X0 hx hZ e0 Ar2 (j := (0 : Int32)) hin2 (g := (mkF m 31 #[vr a0, vi 0, vr a2, vi 0, vi 4, vi 0, vi c1] [.int (c1.toInt8.toInt32), .int 0, .ref a2])) rfl rfl (hb hby d9_31)
  have V_a2 : Arv Z h2 a2 k2 .byte (4 : Int32) [(.int ((c1.toInt8.toInt32).toInt8.toInt32)), (.int 0), (.int 0), (.int 0)] (.int 0) := Arv.set Ar2 qk2 S2 Ng2 H2 G2 (fits_nar_byte _) W2 0 rfl (Nat.le_of_ble_eq_true rfl)
  have N2 := Fr.snoc X2 N0 g_a2
  have V_a0 := V_a0.other W2 ne
  have Zs3 := Nat.le_trans Z0 (Keep.of_wr W2).1
  have Kp4 := (Keep.refl h0 [a2]).wr W2 (Or.inl (List.mem_of_getElem? (i := 0) rfl))
  refine Go.st (S' := T2.setTop (mkF m 12 #[vr a0, vi 1, vr a2, vi 1, vi 4, vi 1, vi c1] [.int 1, .ref a0])) (fun _ kk => st2 _ (XS.iinc X2.here hx rfl (hb hby d9_32) rfl (l' := #[vr a0, vi 1, vr a2, vi 0, vi 4, vi 0, vi c1]) rfl (XS.iinc X2.here hx rfl (hb hby d9_35) rfl (l' := #[vr a0, vi 1, vr a2, vi 1, vi 4, vi 0, vi c1]) rfl (XS.iinc X2.here hx rfl (hb hby d9_38) rfl (l' := #[vr a0, vi 1, vr a2, vi 1, vi 4, vi 1, vi c1]) rfl (XS.goto X2.here hx rfl (pc0 := 41) (pc' := 3) rfl (hb hby d9_41) (by decide) (by decide) (XS.iload X2.here hx rfl (hb hby d9_3) rfl (XS.iload X2.here hx rfl (hb hby d9_5) rfl (XS.icmpNo X2.here hx rfl (hb hby d9_7) rfl (tlt (by decide : (1 : Int32) < (4 : Int32))).2.1 (XS.aloadN X2.here hx rfl (hb hby d9_10) rfl rfl (XS.iloadN X2.here hx rfl (hb hby d9_11) rfl kk)))))))))) ?_
  obtain ⟨cl5, Ar5, qk5, S5, Ng5, H5, G5⟩ := (id V_a0)
  have hin5 : ¬ ((1 : Int32) < 0 ∨ cl5.slots.size ≤ ((1 : Int32)).toNatClampNeg) := inb_of S5 ⟨by decide, by decide⟩
  have hat5 : cl5.slots[((1 : Int32)).toNatClampNeg]? = some (.int c2) := Has.at H5 hin5 rfl
  refine Go.st (S' := T2.setTop (mkF m 31 #[vr a0, vi 1, vr a2, vi 1, vi 4, vi 1, vi c2] [.int (c2.toInt8.toInt32), .int 1, .ref a2])) (fun _ kk => X2.caload hx (j := (1 : Int32)) (v := (.int c2)) (by rw [e2]; exact Ar5.1) (State.isArrayOf_alike hZ.alike Ar5.2.1) Ar5.2.2 hin5 hat5 (g := (mkF m 12 #[vr a0, vi 1, vr a2, vi 1, vi 4, vi 1, vi c1] [.int 1, .ref a0])) rfl rfl (hb hby d9_12) _ (XS.istore X2.here hx rfl (hb hby d9_13) rfl (l' := #[vr a0, vi 1, vr a2, vi 1, vi 4, vi 1, vi c2]) rfl (XS.iload X2.here hx rfl (hb hby d9_15) rfl (XS.sipush X2.here hx rfl (hb hby d9_17) (XS.icmpYes X2.here hx rfl (pc0 := 20) (pc' := 26) rfl (hb hby d9_20) rfl (flt u2).2.2.2 (by decide) (by decide) (XS.aloadN X2.here hx rfl (hb hby d9_26) rfl rfl (XS.iloadN X2.here hx rfl (hb hby d9_27) rfl (XS.iload X2.here hx rfl (hb hby d9_28) rfl (XS.i2b X2.here hx rfl (hb hby d9_30) rfl kk))))))))) ?_
  obtain ⟨cl6, Ar6, qk6, S6, Ng6, H6, G6⟩ := (id V_a2)
  have hin6 : ¬ ((1 : Int32) < 0 ∨ cl6.slots.size ≤ ((1 : Int32)).toNatClampNeg) := inb_of S6 ⟨by decide, by decide⟩
  obtain ⟨T6, h6, X6, e6, W6, st6⟩ := stB X2 hx hZ e2 Ar6 (j := (1 : Int32)) hin6 (g := (mkF m 31 #[vr a0, vi 1, vr a2, vi 1, vi 4, vi 1, vi c2] [.int (c2.toInt8.toInt32), .int 1, .ref a2])) rfl rfl (hb hby d9_31)
  have V_a2 : Arv Z h6 a2 k2 .byte (4 : Int32) [(.int ((c1.toInt8.toInt32).toInt8.toInt32)), (.int ((c2.toInt8.toInt32).toInt8.toInt32)), (.int 0), (.int 0)] (.int 0) := Arv.set Ar6 qk6 S6 Ng6 H6 G6 (fits_nar_byte _) W6 1 rfl (Nat.le_of_ble_eq_true rfl)
  have N6 := Fr.snoc X6 N2 g_a2
  have V_a0 := V_a0.other W6 ne
  have Zs7 := Nat.le_trans Zs3 (Keep.of_wr W6).1
  have Kp8 := Kp4.wr W6 (Or.inl (List.mem_of_getElem? (i := 0) rfl))
  refine Go.st (S' := T6.setTop (mkF m 12 #[vr a0, vi 2, vr a2, vi 2, vi 4, vi 2, vi c2] [.int 2, .ref a0])) (fun _ kk => st6 _ (XS.iinc X6.here hx rfl (hb hby d9_32) rfl (l' := #[vr a0, vi 2, vr a2, vi 1, vi 4, vi 1, vi c2]) rfl (XS.iinc X6.here hx rfl (hb hby d9_35) rfl (l' := #[vr a0, vi 2, vr a2, vi 2, vi 4, vi 1, vi c2]) rfl (XS.iinc X6.here hx rfl (hb hby d9_38) rfl (l' := #[vr a0, vi 2, vr a2, vi 2, vi 4, vi 2, vi c2]) rfl (XS.goto X6.here hx rfl (pc0 := 41) (pc' := 3) rfl (hb hby d9_41) (by decide) (by decide) (XS.iload X6.here hx rfl (hb hby d9_3) rfl (XS.iload X6.here hx rfl (hb hby d9_5) rfl (XS.icmpNo X6.here hx rfl (hb hby d9_7) rfl (tlt (by decide : (2 : Int32) < (4 : Int32))).2.1 (XS.aloadN X6.here hx rfl (hb hby d9_10) rfl rfl (XS.iloadN X6.here hx rfl (hb hby d9_11) rfl kk)))))))))) ?_
  obtain ⟨cl9, Ar9, qk9, S9, Ng9, H9, G9⟩ := (id V_a0)
  have hin9 : ¬ ((2 : Int32) < 0 ∨ cl9.slots.size ≤ ((2 : Int32)).toNatClampNeg) := inb_of S9 ⟨by decide, by decide⟩
  have hat9 : cl9.slots[((2 : Int32)).toNatClampNeg]? = some (.int c3) := Has.at H9 hin9 rfl
  refine Go.st (S' := T6.setTop (mkF m 31 #[vr a0, vi 2, vr a2, vi 2, vi 4, vi 2, vi c3] [.int (c3.toInt8.toInt32), .int 2, .ref a2])) (fun _ kk => X6.caload hx (j := (2 : Int32)) (v := (.int c3)) (by rw [e6]; exact Ar9.1) (State.isArrayOf_alike hZ.alike Ar9.2.1) Ar9.2.2 hin9 hat9 (g := (mkF m 12 #[vr a0, vi 2, vr a2, vi 2, vi 4, vi 2, vi c2] [.int 2, .ref a0])) rfl rfl (hb hby d9_12) _ (XS.istore X6.here hx rfl (hb hby d9_13) rfl (l' := #[vr a0, vi 2, vr a2, vi 2, vi 4, vi 2, vi c3]) rfl (XS.iload X6.here hx rfl (hb hby d9_15) rfl (XS.sipush X6.here hx rfl (hb hby d9_17) (XS.icmpYes X6.here hx rfl (pc0 := 20) (pc' := 26) rfl (hb hby d9_20) rfl (flt u3).2.2.2 (by decide) (by decide) (XS.aloadN X6.here hx rfl (hb hby d9_26) rfl rfl (XS.iloadN X6.here hx rfl (hb hby d9_27) rfl (XS.iload X6.here hx rfl (hb hby d9_28) rfl (XS.i2b X6.here hx rfl (hb hby d9_30) rfl kk))))))))) ?_
  obtain ⟨cl10, Ar10, qk10, S10, Ng10, H10, G10⟩ := (id V_a2)
  have hin10 : ¬ ((2 : Int32) < 0 ∨ cl10.slots.size ≤ ((2 : Int32)).toNatClampNeg) := inb_of S10 ⟨by decide, by decide⟩
  obtain ⟨T10, h10, X10, e10, W10, st10⟩ := stB X6 hx hZ e6 Ar10 (j := (2 : Int32)) hin10 (g := (mkF m 31 #[vr a0, vi 2, vr a2, vi 2, vi 4, vi 2, vi c3] [.int (c3.toInt8.toInt32), .int 2, .ref a2])) rfl rfl (hb hby d9_31)
  have V_a2 : Arv Z h10 a2 k2 .byte (4 : Int32) [(.int ((c1.toInt8.toInt32).toInt8.toInt32)), (.int ((c2.toInt8.toInt32).toInt8.toInt32)), (.int ((c3.toInt8.toInt32).toInt8.toInt32)), (.int 0)] (.int 0) := Arv.set Ar10 qk10 S10 Ng10 H10 G10 (fits_nar_byte _) W10 2 rfl (Nat.le_of_ble_eq_true rfl)
  have N10 := Fr.snoc X10 N6 g_a2
  have V_a0 := V_a0.other W10 ne
  have Zs11 := Nat.le_trans Zs7 (Keep.of_wr W10).1
  have Kp12 := Kp8.wr W10 (Or.inl (List.mem_of_getElem? (i := 0) rfl))
  refine Go.st (S' := T10.setTop (mkF m 12 #[vr a0, vi 3, vr a2, vi 3, vi 4, vi 3, vi c3] [.int 3, .ref a0])) (fun _ kk => st10 _ (XS.iinc X10.here hx rfl (hb hby d9_32) rfl (l' := #[vr a0, vi 3, vr a2, vi 2, vi 4, vi 2, vi c3]) rfl (XS.iinc X10.here hx rfl (hb hby d9_35) rfl (l' := #[vr a0, vi 3, vr a2, vi 3, vi 4, vi 2, vi c3]) rfl (XS.iinc X10.here hx rfl (hb hby d9_38) rfl (l' := #[vr a0, vi 3, vr a2, vi 3, vi 4, vi 3, vi c3]) rfl (XS.goto X10.here hx rfl (pc0 := 41) (pc' := 3) rfl (hb hby d9_41) (by decide) (by decide) (XS.iload X10.here hx rfl (hb hby d9_3) rfl (XS.iload X10.here hx rfl (hb hby d9_5) rfl (XS.icmpNo X10.here hx rfl (hb hby d9_7) rfl (tlt (by decide : (3 : Int32) < (4 : Int32))).2.1 (XS.aloadN X10.here hx rfl (hb hby d9_10) rfl rfl (XS.iloadN X10.here hx rfl (hb hby d9_11) rfl kk)))))))))) ?_
  obtain ⟨cl13, Ar13, qk13, S13, Ng13, H13, G13⟩ := (id V_a0)
  have hin13 : ¬ ((3 : Int32) < 0 ∨ cl13.slots.size ≤ ((3 : Int32)).toNatClampNeg) := inb_of S13 ⟨by decide, by decide⟩
  have hat13 : cl13.slots[((3 : Int32)).toNatClampNeg]? = some (.int c4) := Has.at H13 hin13 rfl
  refine Go.st (S' := T10.setTop (mkF m 25 #[vr a0, vi 3, vr a2, vi 3, vi 4, vi 3, vi c4] [.int 3])) (fun _ kk => X10.caload hx (j := (3 : Int32)) (v := (.int c4)) (by rw [e10]; exact Ar13.1) (State.isArrayOf_alike hZ.alike Ar13.2.1) Ar13.2.2 hin13 hat13 (g := (mkF m 12 #[vr a0, vi 3, vr a2, vi 3, vi 4, vi 3, vi c3] [.int 3, .ref a0])) rfl rfl (hb hby d9_12) _ (XS.istore X10.here hx rfl (hb hby d9_13) rfl (l' := #[vr a0, vi 3, vr a2, vi 3, vi 4, vi 3, vi c4]) rfl (XS.iload X10.here hx rfl (hb hby d9_15) rfl (XS.sipush X10.here hx rfl (hb hby d9_17) (XS.icmpNo X10.here hx rfl (hb hby d9_20) rfl (tlt u4).2.2.2 (XS.iload X10.here hx rfl (hb hby d9_23) rfl kk)))))) ?_
  exact Go.retI X10 hx hlk Bd.returns (hb hby d9_25) (by rw [e10]; exact ⟨rfl, N10, Kp12, V_a2⟩) (by decide) (by decide)
def Q_c3_4_3 (Z : State) (c1 : Int32) (c2 : Int32) (c3 : Int32) (c4 : Int32) (h0 : Heap) (n0 : Nat) (v : Option Value) (h : Heap) (L : List Loc) : Prop := ∃ (b : Addr) (k : ClassId), v = some (.ref b) ∧ Fr n0 L ∧ Keep h0 h [] ∧ Arv Z h b k .byte (8 : Int32) [(.int (((c1 >>> ((0 : Int32) &&& 31)).toInt8.toInt32).toInt8.toInt32)), (.int (((c1 >>> ((8 : Int32) &&& 31)).toInt8.toInt32).toInt8.toInt32)), (.int (((c2 >>> ((0 : Int32) &&& 31)).toInt8.toInt32).toInt8.toInt32)), (.int (((c2 >>> ((8 : Int32) &&& 31)).toInt8.toInt32).toInt8.toInt32)), (.int (((c3 >>> ((0 : Int32) &&& 31)).toInt8.toInt32).toInt8.toInt32)), (.int (((c3 >>> ((8 : Int32) &&& 31)).toInt8.toInt32).toInt8.toInt32)), (.int (((c4 >>> ((0 : Int32) &&& 31)).toInt8.toInt32).toInt8.toInt32)), (.int (((c4 >>> ((8 : Int32) &&& 31)).toInt8.toInt32).toInt8.toInt32))] (.int 0) ∧ Exa Z h b "[B" ∧ h0.size ≤ b
theorem rmC3_4_3 (l : Launch) (Z : State) (az : Array Value) (hw : HW az Z) (ws : List Jvm.Cond) (a0 : Addr) (p1 : Int32) (p2 : Int32) (zc : Int32) (fm : Value) (k0 : ClassId) (c1 : Int32) (c2 : Int32) (c3 : Int32) (c4 : Int32) (h0 : Heap) (n0 : Nat) (Z0 : n0 ≤ h0.size) (S_C : tS0 Z h0 (.int zc)) (hzc : ¬ zc = 0) (S_F : tS1 Z h0 fm) (hfm : fm.isRef = true) (S_A : tS2 Z h0 (.int 1)) (S_H : tS3 Z h0 (.int 0)) (S_L : tS4 Z h0 (.int 8)) (V_a0 : Arv Z h0 a0 k0 .char (4 : Int32) [(.int c1), (.int c2), (.int c3), (.int c4)] (.int 0)) (h1 : p1 = 0) (h2 : p2 = (4 : Int32)) (y1 : 0 ≤ c1.toInt ∧ c1.toInt ≤ 65535) (y2 : 0 ≤ c2.toInt ∧ c2.toInt ≤ 65535) (y3 : 0 ≤ c3.toInt ∧ c3.toInt ≤ 65535) (y4 : 0 ≤ c4.toInt ∧ c4.toInt ≤ 65535) (u1 : ¬ (255 : Int32) < c1) (u2 : ¬ (255 : Int32) < c2) (u3 : ¬ (255 : Int32) < c3) (u4 : (255 : Int32) < c4) :
    MF l mN20 (Jvm.Cond.code mN20 jdk_52_method_16_code 6 (some (.array .byte)) :: ws) (rO 3 2 12 40) #[(.ref a0), (.int p1), (.int p2)] Z h0 (Q_c3_4_3 Z c1 c2 c3 c4 h0 n0) := by
  refine MetFree.of_bodySF (plainFor_of_name pn_3) hisR ?_
  intro p e s m args below meth c s₁ Bd hml0 hP hK
  obtain ⟨rfl, hZ, hh⟩ := hP
  have hx := Bd.exec
  have hby := Bd.bytes
  have hlk : meth.locks = false := Bd.notSynchronized
  have hml : c.maxLocals = 6 := hml0
  have hown : s.vm.findClass "java/lang/StringUTF16" = some m.cls := findClass_of_methodNamed Bd.named
  have X0 : Stand p l e (rO 3 2 12 40) s m #[(.ref a0), (.int p1), (.int p2)] below meth c s₁ [] 0 0 := Stand.of_body Bd
  have e0 : s₁.heap = h0 := by rw [← hh, Bd.state]; rfl
  have N0 := Fr.nil n0
  show Go p e below s ((Q_c3_4_3 Z c1 c2 c3 c4 h0 n0)) (rO 3 2 12 40).cells (rO 3 2 12 40).slots (s₁.setTop (entryFrame m #[(.ref a0), (.int p1), (.int p2)] 6))
  rw [ef_8 m a0 p1 p2]
  subst h1 h2
  have hix0 : ¬ ((3 : Int32) <<< ((1 : Int32) &&& 31)) < 0 ∧ ((3 : Int32) <<< ((1 : Int32) &&& 31)) < (8 : Int32) := by decide
  have hix1 : ¬ (((3 : Int32) <<< ((1 : Int32) &&& 31)) + (1 : Int32)) < 0 ∧ (((3 : Int32) <<< ((1 : Int32) &&& 31)) + (1 : Int32)) < (8 : Int32) := by decide
  refine Go.st (S' := s₁.setTop (mkF m 1 #[vr a0, vi 0, vi 4, .unset, .unset, .unset] [.int 4])) (fun _ kk => XS.iloadN X0.here hx rfl (hb hby d8_0) rfl kk) ?_
  obtain ⟨T1, h1, k1, X1, e1, E1, A1, E_b1, st1⟩ := newPE X0 hx hZ (ow hw 20 rfl) e0 (g := (mkF m 1 #[vr a0, vi 0, vi 4, .unset, .unset, .unset] [.int 4])) rfl (hb hby d8_1) rfl (by decide) (cap := 4) (by decide) (by decide) (by decide : 0 + 1 ≤ _) (by decide : 0 + 4 ≤ _) (ad := "[B") rfl
  obtain ⟨b1, g1⟩ : ∃ z, z = h0.size := ⟨_, rfl⟩
  rw [← g1] at A1 E_b1 st1
  have ne_a0_b1 : a0 ≠ b1 := Nat.ne_of_lt (Nat.lt_of_lt_of_le V_a0.lt (Nat.le_of_eq g1.symm))
  have g_b1 : n0 ≤ b1 := Nat.le_trans Z0 (Nat.le_of_eq g1.symm)
  have sz_b1 : h0.size ≤ b1 := Nat.le_trans (Keep.refl h0 []).1 (Nat.le_of_eq g1.symm)
  have S_C := S_C.ext E1
  have S_F := S_F.ext E1
  have S_A := S_A.ext E1
  have S_H := S_H.ext E1
  have S_L := S_L.ext E1
  have V_a0 := V_a0.ext E1
  have Zs2 := Nat.le_trans Z0 E1.1
  have Kp3 := (Keep.refl h0 []).ext E1
  have V_b1 : Arv Z h1 b1 k1 .byte (4 : Int32) [(.int 0), (.int 0), (.int 0), (.int 0)] (.int 0) := (Arv.new A1 (by decide)).pad (pad_rep [] (.int 0) 4)
  refine Go.st (S' := T1.setTop (mkF m 9 #[vr a0, vi 0, vi 4, vr b1, .unset, .unset] [.int 4, .int 0, .ref b1, .int 0, .ref a0])) (fun _ kk => st1 _ (XS.astoreN X1.here hx rfl (hb hby d8_3) rfl rfl (l' := #[vr a0, vi 0, vi 4, vr b1, .unset, .unset]) rfl (XS.aloadN X1.here hx rfl (hb hby d8_4) rfl rfl (XS.iloadN X1.here hx rfl (hb hby d8_5) rfl (XS.aloadN X1.here hx rfl (hb hby d8_6) rfl rfl (XS.iconst X1.here hx rfl (hb hby d8_7) (XS.iloadN X1.here hx rfl (hb hby d8_8) rfl kk))))))) ?_
  obtain ⟨_, _, ⟨T4, L4, k4, n4⟩, -, X4, ⟨Lc4, hQ4, l4, y4, z4⟩, st4⟩ := Jvm.LawKit.callS X1 hx (y := mN21) hown (mvT hZ (ow hw 46 rfl)) (mvT hZ (ow hw 47 rfl)) (mvT hZ (ow hw 44 rfl)) (mvT hZ (ow hw 48 rfl)) (by decide) (backOf (W := 0) (rmC5_4_3 l Z az hw [] a0 (0 : Int32) b1 (0 : Int32) (4 : Int32) k0 k1 c1 c2 c3 c4 h1 n0 Zs2 V_a0 V_b1 ne_a0_b1 g_b1 rfl rfl rfl u1 u2 u3 u4) hZ (ow hw 48 rfl) (ow hw 44 rfl) (by decide) (by decide)) (g := (mkF m 9 #[vr a0, vi 0, vi 4, vr b1, .unset, .unset] [.int 4, .int 0, .ref b1, .int 0, .ref a0])) rfl (by rw [hml]; rfl) (argsL := [.ref a0, .int 0, .ref b1, .int 0, .int 4]) (rest := []) (lenOf pd_8 rfl) rfl (oW rfl rfl) (hb hby d8_9) (fun _ _ => ⟨rfl, e1, (by decide : 1 + 0 ≤ _), (by decide : 4 + 0 ≤ _)⟩)
  dsimp only [Pt.U, Pt.locs, Pt.cells, Pt.slots] at X4 l4 y4 z4 st4 hQ4
  subst l4 y4 z4
  obtain ⟨rfl, N4q, K4, Va4⟩ := hQ4
  have N4 := Fr.app N0 N4q
  have S_C := own_stak K4 (allS (P := fun x => ∀ cell : Cell, (h1)[x]? = some cell → cell.vm.isStatics = false) (Exa.nostat E_b1) all0) S_C
  have S_F := own_stak K4 (allS (P := fun x => ∀ cell : Cell, (h1)[x]? = some cell → cell.vm.isStatics = false) (Exa.nostat E_b1) all0) S_F
  have S_A := own_stak K4 (allS (P := fun x => ∀ cell : Cell, (h1)[x]? = some cell → cell.vm.isStatics = false) (Exa.nostat E_b1) all0) S_A
  have S_H := own_stak K4 (allS (P := fun x => ∀ cell : Cell, (h1)[x]? = some cell → cell.vm.isStatics = false) (Exa.nostat E_b1) all0) S_H
  have S_L := own_stak K4 (allS (P := fun x => ∀ cell : Cell, (h1)[x]? = some cell → cell.vm.isStatics = false) (Exa.nostat E_b1) all0) S_L
  have V_a0 := V_a0.keep K4 (ninS ne_a0_b1 nin0)
  have E_b1 := E_b1.keep K4
  have Zs5 := Nat.le_trans Zs2 K4.1
  have Kp6 := Kp3.trans K4 (allS (Or.inr sz_b1) all0)
  refine Go.st (S' := T4.setTop (mkF m 23 #[vr a0, vi 0, vi 4, vr b1, vi 3, .unset] [.int 4, .int 0, .ref a0])) (fun _ kk => st4 _ (XS.istore X4.here hx rfl (hb hby d8_12) rfl (l' := #[vr a0, vi 0, vi 4, vr b1, vi 3, .unset]) rfl (XS.iload X4.here hx rfl (hb hby d8_14) rfl (XS.iloadN X4.here hx rfl (hb hby d8_16) rfl (XS.icmpNo X4.here hx rfl (hb hby d8_17) rfl (feq (by decide : ¬ ((3 : Int32) = (4 : Int32)))).1 (XS.aloadN X4.here hx rfl (hb hby d8_20) rfl rfl (XS.iloadN X4.here hx rfl (hb hby d8_21) rfl (XS.iloadN X4.here hx rfl (hb hby d8_22) rfl kk)))))))) ?_
  obtain ⟨_, _, ⟨T7, L7, k7, n7⟩, -, X7, ⟨Lc7, hQ7, l7, y7, z7⟩, st7⟩ := Jvm.LawKit.callS X4 hx (y := mN27) hown (mvT hZ (ow hw 96 rfl)) (mvT hZ (ow hw 97 rfl)) (mvT hZ (ow hw 44 rfl)) (mvT hZ (ow hw 98 rfl)) (by decide) (backOf (W := 0) (rmTB_4 l Z az hw [] a0 (0 : Int32) (4 : Int32) zc fm k0 c1 c2 c3 c4 T4.heap n0 Zs5 S_C hzc S_F hfm S_A S_H S_L V_a0 rfl rfl) hZ (ow hw 98 rfl) (ow hw 44 rfl) (by decide) (by decide)) (g := (mkF m 23 #[vr a0, vi 0, vi 4, vr b1, vi 3, .unset] [.int 4, .int 0, .ref a0])) rfl (by rw [hml]; rfl) (argsL := [.ref a0, .int 0, .int 4]) (rest := []) (lenOf pd_7 rfl) rfl (oW rfl rfl) (hb hby d8_23) (fun _ _ => ⟨rfl, rfl, (by decide : 1 + 1 ≤ _), (by decide : 4 + 8 ≤ _)⟩)
  dsimp only [Pt.U, Pt.locs, Pt.cells, Pt.slots] at X7 l7 y7 z7 st7 hQ7
  subst l7 y7 z7
  obtain ⟨b7, kb7, rfl, N7q, K7, V_b7, E_b7, gb7⟩ := hQ7
  have Ex7 := own_extK K7
  have N7 := Fr.app N4 N7q
  have ne_a0_b7 : a0 ≠ b7 := Nat.ne_of_lt (Nat.lt_of_lt_of_le V_a0.lt gb7)
  have ne_b1_b7 : b1 ≠ b7 := Nat.ne_of_lt (Nat.lt_of_lt_of_le E_b1.lt gb7)
  have g_b7 : n0 ≤ b7 := Nat.le_trans Zs5 gb7
  have sz_b7 : h0.size ≤ b7 := Nat.le_trans Kp6.1 gb7
  have S_C := S_C.ext Ex7
  have S_F := S_F.ext Ex7
  have S_A := S_A.ext Ex7
  have S_H := S_H.ext Ex7
  have S_L := S_L.ext Ex7
  have V_a0 := V_a0.ext Ex7
  have E_b1 := E_b1.ext Ex7
  have Va4 := Va4.ext Ex7
  have Zs8 := Nat.le_trans Zs5 Ex7.1
  have Kp9 := Kp6.ext Ex7
  refine Go.st (S' := T7.setTop (mkF m 32 #[vr a0, vi 0, vi 4, vr b1, vi 3, vr b7] [.int 3, .ref b7])) (fun _ kk => st7 _ (XS.astore X7.here hx rfl (hb hby d8_26) rfl rfl (l' := #[vr a0, vi 0, vi 4, vr b1, vi 3, vr b7]) rfl (XS.aload X7.here hx rfl (hb hby d8_28) rfl rfl (XS.iload X7.here hx rfl (hb hby d8_30) rfl kk)))) ?_
  obtain ⟨_, _, ⟨T10, L10, k10, n10⟩, -, X10, ⟨Lc10, hQ10, l10, y10, z10⟩, st10⟩ := Jvm.LawKit.callS X7 hx (y := mN22) hown (mvT hZ (ow hw 112 rfl)) (mvT hZ (ow hw 113 rfl)) (mvT hZ (ow hw 44 rfl)) (mvT hZ (ow hw 114 rfl)) (by decide) (backOf (W := 0) (rmUg l Z az hw [] b7 (3 : Int32) zc fm kb7 (8 : Int32) [(((c1 >>> ((0 : Int32) &&& 31)).toInt8.toInt32).toInt8.toInt32), (((c1 >>> ((8 : Int32) &&& 31)).toInt8.toInt32).toInt8.toInt32), (((c2 >>> ((0 : Int32) &&& 31)).toInt8.toInt32).toInt8.toInt32), (((c2 >>> ((8 : Int32) &&& 31)).toInt8.toInt32).toInt8.toInt32), (((c3 >>> ((0 : Int32) &&& 31)).toInt8.toInt32).toInt8.toInt32), (((c3 >>> ((8 : Int32) &&& 31)).toInt8.toInt32).toInt8.toInt32), (((c4 >>> ((0 : Int32) &&& 31)).toInt8.toInt32).toInt8.toInt32), (((c4 >>> ((8 : Int32) &&& 31)).toInt8.toInt32).toInt8.toInt32)] T7.heap n0 Zs8 S_C hzc S_F hfm S_A S_H S_L V_b7 hix0 hix1) hZ (ow hw 114 rfl) (ow hw 44 rfl) (by decide) (by decide)) (g := (mkF m 32 #[vr a0, vi 0, vi 4, vr b1, vi 3, vr b7] [.int 3, .ref b7])) rfl (by rw [hml]; rfl) (argsL := [.ref b7, .int 3]) (rest := []) (lenOf pd_14 rfl) rfl (oW rfl rfl) (hb hby d8_32) (fun _ _ => ⟨rfl, rfl, (by decide : 2 + 0 ≤ _), (by decide : 12 + 0 ≤ _)⟩)
  dsimp only [Pt.U, Pt.locs, Pt.cells, Pt.slots] at X10 l10 y10 z10 st10 hQ10
  subst l10 y10 z10
  obtain ⟨hv10, N10q, e10⟩ := hQ10
  subst hv10
  have N10 := Fr.app N7 N10q
  refine Go.st (S' := T10.setTop (mkF m 35 #[vr a0, vi 0, vi 4, vr b1, vi 3, vr b7] [.int (own_g16 (bt [(((c1 >>> ((0 : Int32) &&& 31)).toInt8.toInt32).toInt8.toInt32), (((c1 >>> ((8 : Int32) &&& 31)).toInt8.toInt32).toInt8.toInt32), (((c2 >>> ((0 : Int32) &&& 31)).toInt8.toInt32).toInt8.toInt32), (((c2 >>> ((8 : Int32) &&& 31)).toInt8.toInt32).toInt8.toInt32), (((c3 >>> ((0 : Int32) &&& 31)).toInt8.toInt32).toInt8.toInt32), (((c3 >>> ((8 : Int32) &&& 31)).toInt8.toInt32).toInt8.toInt32), (((c4 >>> ((0 : Int32) &&& 31)).toInt8.toInt32).toInt8.toInt32), (((c4 >>> ((8 : Int32) &&& 31)).toInt8.toInt32).toInt8.toInt32)] ((3 : Int32) <<< ((1 : Int32) &&& 31))) (bt [(((c1 >>> ((0 : Int32) &&& 31)).toInt8.toInt32).toInt8.toInt32), (((c1 >>> ((8 : Int32) &&& 31)).toInt8.toInt32).toInt8.toInt32), (((c2 >>> ((0 : Int32) &&& 31)).toInt8.toInt32).toInt8.toInt32), (((c2 >>> ((8 : Int32) &&& 31)).toInt8.toInt32).toInt8.toInt32), (((c3 >>> ((0 : Int32) &&& 31)).toInt8.toInt32).toInt8.toInt32), (((c3 >>> ((8 : Int32) &&& 31)).toInt8.toInt32).toInt8.toInt32), (((c4 >>> ((0 : Int32) &&& 31)).toInt8.toInt32).toInt8.toInt32), (((c4 >>> ((8 : Int32) &&& 31)).toInt8.toInt32).toInt8.toInt32)] (((3 : Int32) <<< ((1 : Int32) &&& 31)) + (1 : Int32))))])) st10 ?_
  rw [show (own_g16 (bt [(((c1 >>> ((0 : Int32) &&& 31)).toInt8.toInt32).toInt8.toInt32), (((c1 >>> ((8 : Int32) &&& 31)).toInt8.toInt32).toInt8.toInt32), (((c2 >>> ((0 : Int32) &&& 31)).toInt8.toInt32).toInt8.toInt32), (((c2 >>> ((8 : Int32) &&& 31)).toInt8.toInt32).toInt8.toInt32), (((c3 >>> ((0 : Int32) &&& 31)).toInt8.toInt32).toInt8.toInt32), (((c3 >>> ((8 : Int32) &&& 31)).toInt8.toInt32).toInt8.toInt32), (((c4 >>> ((0 : Int32) &&& 31)).toInt8.toInt32).toInt8.toInt32), (((c4 >>> ((8 : Int32) &&& 31)).toInt8.toInt32).toInt8.toInt32)] ((3 : Int32) <<< ((1 : Int32) &&& 31))) (bt [(((c1 >>> ((0 : Int32) &&& 31)).toInt8.toInt32).toInt8.toInt32), (((c1 >>> ((8 : Int32) &&& 31)).toInt8.toInt32).toInt8.toInt32), (((c2 >>> ((0 : Int32) &&& 31)).toInt8.toInt32).toInt8.toInt32), (((c2 >>> ((8 : Int32) &&& 31)).toInt8.toInt32).toInt8.toInt32), (((c3 >>> ((0 : Int32) &&& 31)).toInt8.toInt32).toInt8.toInt32), (((c3 >>> ((8 : Int32) &&& 31)).toInt8.toInt32).toInt8.toInt32), (((c4 >>> ((0 : Int32) &&& 31)).toInt8.toInt32).toInt8.toInt32), (((c4 >>> ((8 : Int32) &&& 31)).toInt8.toInt32).toInt8.toInt32)] (((3 : Int32) <<< ((1 : Int32) &&& 31)) + (1 : Int32)))) = c4 from own_rtg y4]
  refine Go.st (S' := T10.setTop (mkF m 56 #[vr a0, vi 0, vi 4, vr b1, vi 3, vr b7] [.ref b7])) (fun _ kk => XS.sipush X10.here hx rfl (hb hby d8_35) (XS.icmpYes X10.here hx rfl (pc0 := 38) (pc' := 54) rfl (hb hby d8_38) rfl (tlt u4).2.2.1 (by decide) (by decide) (XS.aload X10.here hx rfl (hb hby d8_54) rfl rfl kk))) ?_
  exact Go.retA X10 hx hlk Bd.returns rfl rfl (hb hby d8_56) (by rw [e10]; exact ⟨_, _, rfl, N10, Kp9, V_b7, E_b7, sz_b7⟩) (by decide) (by decide)
theorem rmI5_4_3 (l : Launch) (Z : State) (az : Array Value) (hw : HW az Z) (ws : List Jvm.Cond) (a0 : Addr) (a1 : Addr) (p2 : Int32) (p3 : Int32) (zc : Int32) (fm : Value) (k1 : ClassId) (c1 : Int32) (c2 : Int32) (c3 : Int32) (c4 : Int32) (h0 : Heap) (n0 : Nat) (Z0 : n0 ≤ h0.size) (S_C : tS0 Z h0 (.int zc)) (hzc : ¬ zc = 0) (S_F : tS1 Z h0 fm) (hfm : fm.isRef = true) (S_A : tS2 Z h0 (.int 1)) (S_H : tS3 Z h0 (.int 0)) (S_L : tS4 Z h0 (.int 8)) (E_a0 : Exa Z h0 a0 "java/lang/String") (F_coder : tF0 Z h0 a0 (.int 0)) (F_value : tF1 Z h0 a0 .null) (g_a0 : n0 ≤ a0) (ne : a0 ≠ a1) (V_a1 : Arv Z h0 a1 k1 .char (4 : Int32) [(.int c1), (.int c2), (.int c3), (.int c4)] (.int 0)) (h2 : p2 = 0) (h3 : p3 = (4 : Int32)) (y1 : 0 ≤ c1.toInt ∧ c1.toInt ≤ 65535) (y2 : 0 ≤ c2.toInt ∧ c2.toInt ≤ 65535) (y3 : 0 ≤ c3.toInt ∧ c3.toInt ≤ 65535) (y4 : 0 ≤ c4.toInt ∧ c4.toInt ≤ 65535) (u1 : ¬ (255 : Int32) < c1) (u2 : ¬ (255 : Int32) < c2) (u3 : ¬ (255 : Int32) < c3) (u4 : (255 : Int32) < c4) :
    MF l mN10 (Jvm.Cond.code mN10 jdk_42_method_149_code 6 none :: ws) (rO 4 2 12 57) #[(.ref a0), (.ref a1), (.int p2), (.int p3), .null] Z h0 (Q_in_4 Z a0 c1 c2 c3 c4 h0 n0) := by
  refine MetFree.of_bodySF (plainFor_of_name pn_1) hisR ?_
  intro p e s m args below meth c s₁ Bd hml0 hP hK
  obtain ⟨rfl, hZ, hh⟩ := hP
  have hx := Bd.exec
  have hby := Bd.bytes
  have hlk : meth.locks = false := Bd.notSynchronized
  have hml : c.maxLocals = 6 := hml0
  have hown : s.vm.findClass "java/lang/String" = some m.cls := findClass_of_methodNamed Bd.named
  have hnm := (name_of_methodNamed Bd.named Bd.method).1
  have X0 : Stand p l e (rO 4 2 12 57) s m #[(.ref a0), (.ref a1), (.int p2), (.int p3), .null] below meth c s₁ [] 0 0 := Stand.of_body Bd
  have e0 : s₁.heap = h0 := by rw [← hh, Bd.state]; rfl
  have N0 := Fr.nil n0
  show Go p e below s ((Q_in_4 Z a0 c1 c2 c3 c4 h0 n0)) (rO 4 2 12 57).cells (rO 4 2 12 57).slots (s₁.setTop (entryFrame m #[(.ref a0), (.ref a1), (.int p2), (.int p3), .null] 6))
  rw [ef_3n4 m a0 a1 p2 p3]
  subst h2 h3
  refine Go.st (S' := s₁.setTop (mkF m 1 #[vr a0, vr a1, vi 0, vi 4, .val .null, .unset] [.ref a0])) (fun _ kk => XS.aloadN X0.here hx rfl (hb hby d3_0) rfl rfl kk) ?_
  obtain ⟨T1, X1, e1, st1⟩ := initO X0 hx hZ hown (ow hw 16 rfl) (ow hw 17 rfl) (ow hw 18 rfl) e0 (g := (mkF m 1 #[vr a0, vr a1, vi 0, vi 4, .val .null, .unset] [.ref a0])) rfl (by rw [hml]; rfl) rfl (hb hby d3_1) (by decide) (W := 0) (oW rfl rfl) (by decide)
  refine Go.st (S' := T1.setTop (mkF m 27 #[vr a0, vr a1, vi 0, vi 4, .val .null, .unset] [])) (fun _ kk => st1 _ (XS.iloadN X1.here hx rfl (hb hby d3_4) rfl (XS.ifYes X1.here hx rfl (pc0 := 5) (pc' := 27) rfl (hb hby d3_5) rfl ((if0 _ _).trans (feq (by decide : ¬ ((4 : Int32) = (0 : Int32)))).2) (by decide) (by decide) kk))) ?_
  obtain ⟨T2, X2, e2, st2⟩ := getS2 X1 hx hZ hown (host := "") (Or.inl (ow hw 41 rfl)) Via.refl e1 S_C (g := (mkF m 27 #[vr a0, vr a1, vi 0, vi 4, .val .null, .unset] [])) rfl (hb hby d3_27)
  refine Go.st (S' := T2.setTop (mkF m 36 #[vr a0, vr a1, vi 0, vi 4, .val .null, .unset] [.int 4, .int 0, .ref a1])) (fun _ kk => st2 _ (XS.ifNo X2.here hx rfl (hb hby d3_30) rfl ((if0 _ _).trans (feq hzc).1) (XS.aloadN X2.here hx rfl (hb hby d3_33) rfl rfl (XS.iloadN X2.here hx rfl (hb hby d3_34) rfl (XS.iloadN X2.here hx rfl (hb hby d3_35) rfl kk))))) ?_
  obtain ⟨_, _, ⟨T3, L3, k3, n3⟩, -, X3, ⟨Lc3, hQ3, l3, y3, z3⟩, st3⟩ := Jvm.LawKit.callS X2 hx (y := mN20) hown (mvT hZ (ow hw 42 rfl)) (mvT hZ (ow hw 43 rfl)) (mvT hZ (ow hw 44 rfl)) (mvT hZ (ow hw 45 rfl)) (by decide) (backOf (W := 0) (rmC3_4_3 l Z az hw [] a1 (0 : Int32) (4 : Int32) zc fm k1 c1 c2 c3 c4 h0 n0 Z0 S_C hzc S_F hfm S_A S_H S_L V_a1 rfl rfl y1 y2 y3 y4 u1 u2 u3 u4) hZ (ow hw 45 rfl) (ow hw 44 rfl) (by decide) (by decide)) (g := (mkF m 36 #[vr a0, vr a1, vi 0, vi 4, .val .null, .unset] [.int 4, .int 0, .ref a1])) rfl (by rw [hml]; rfl) (argsL := [.ref a1, .int 0, .int 4]) (rest := []) (lenOf pd_7 rfl) rfl (oW rfl rfl) (hb hby d3_36) (fun _ _ => ⟨rfl, e2, (by decide : 0 + 2 ≤ _), (by decide : 0 + 12 ≤ _)⟩)
  dsimp only [Pt.U, Pt.locs, Pt.cells, Pt.slots] at X3 l3 y3 z3 st3 hQ3
  subst l3 y3 z3
  obtain ⟨b3, kb3, rfl, N3q, K3, V_b3, E_b3, gb3⟩ := hQ3
  have Ex3 := own_extK K3
  have N3 := Fr.app N0 N3q
  have ne_a0_b3 : a0 ≠ b3 := Nat.ne_of_lt (Nat.lt_of_lt_of_le E_a0.lt gb3)
  have ne_a1_b3 : a1 ≠ b3 := Nat.ne_of_lt (Nat.lt_of_lt_of_le V_a1.lt gb3)
  have g_b3 : n0 ≤ b3 := Nat.le_trans Z0 gb3
  have sz_b3 : h0.size ≤ b3 := Nat.le_trans (Keep.refl h0 [a0]).1 gb3
  have S_C := S_C.ext Ex3
  have S_F := S_F.ext Ex3
  have S_A := S_A.ext Ex3
  have S_H := S_H.ext Ex3
  have S_L := S_L.ext Ex3
  have E_a0 := E_a0.ext Ex3
  have F_coder := F_coder.ext Ex3
  have F_value := F_value.ext Ex3
  have V_a1 := V_a1.ext Ex3
  have Zs4 := Nat.le_trans Z0 Ex3.1
  have Kp5 := (Keep.refl h0 [a0]).ext Ex3
  refine Go.st (S' := T3.setTop (mkF m 45 #[vr a0, vr a1, vi 0, vi 4, .val .null, vr b3] [.int 4, .ref b3, .ref a0])) (fun _ kk => st3 _ (XS.astore X3.here hx rfl (hb hby d3_39) rfl rfl (l' := #[vr a0, vr a1, vi 0, vi 4, .val .null, vr b3]) rfl (XS.aloadN X3.here hx rfl (hb hby d3_41) rfl rfl (XS.aload X3.here hx rfl (hb hby d3_42) rfl rfl (XS.iloadN X3.here hx rfl (hb hby d3_44) rfl kk))))) ?_
  obtain ⟨_, _, ⟨T6, L6, k6, n6⟩, -, X6, ⟨Lc6, hQ6, l6, y6, z6⟩, st6⟩ := Jvm.LawKit.callS X3 hx (y := mN19) hown (mvT hZ (ow hw 49 rfl)) (mvT hZ (ow hw 50 rfl)) (mvT hZ (ow hw 44 rfl)) (mvT hZ (ow hw 51 rfl)) (by decide) (backOf (W := 1) (rmCd_4_1 l Z az hw [] b3 (4 : Int32) kb3 _ T3.heap n0 Zs4 V_b3 rfl) hZ (ow hw 51 rfl) (ow hw 44 rfl) (by decide) (by decide)) (g := (mkF m 45 #[vr a0, vr a1, vi 0, vi 4, .val .null, vr b3] [.int 4, .ref b3, .ref a0])) rfl (by rw [hml]; rfl) (argsL := [.ref b3, .int 4]) (rest := [.ref a0]) (lenOf pd_9 rfl) rfl (oW rfl rfl) (hb hby d3_45) (fun _ _ => ⟨rfl, rfl, (by decide : 2 + 0 ≤ _), (by decide : 12 + 0 ≤ _)⟩)
  dsimp only [Pt.U, Pt.locs, Pt.cells, Pt.slots] at X6 l6 y6 z6 st6 hQ6
  subst l6 y6 z6
  obtain ⟨hv6, N6q, e6⟩ := hQ6
  subst hv6
  have N6 := Fr.app N3 N6q
  refine Go.st (S' := T6.setTop (mkF m 48 #[vr a0, vr a1, vi 0, vi 4, .val .null, vr b3] [.int 1, .ref a0])) st6 ?_
  obtain ⟨T7, h7, X7, e7, W7, st7⟩ := putFN X6 hx hZ hown (ow hw 26 rfl) Via.refl e6 F_coder E_a0 (Or.inr ⟨(ow hw 22 rfl), rfl, hnm⟩) (ow hw 7 rfl) (ty := .byte) (v' := .int (nar .byte (1 : Int32))) (by decide) rfl (fits_nar_byte _) (g := (mkF m 48 #[vr a0, vr a1, vi 0, vi 4, .val .null, vr b3] [.int 1, .ref a0])) rfl rfl (hb hby d3_48)
  have N7 := Fr.snoc X7 N6 g_a0
  have F_coder := F_coder.same W7
  have S_C := S_C.wr W7
  have S_F := S_F.wr W7
  have S_A := S_A.wr W7
  have S_H := S_H.wr W7
  have S_L := S_L.wr W7
  have E_a0 := E_a0.wr W7
  have F_value := F_value.other W7 (Or.inr (slot_ne (Or.inr (ow hw 21 rfl)) (Or.inr (ow hw 22 rfl)) (by decide) (t := (.array .byte)) (t' := .byte) (by decide) (by decide)))
  have V_a1 := V_a1.other W7 (Ne.symm ne)
  have E_b3 := E_b3.wr W7
  have V_b3 := V_b3.other W7 (Ne.symm ne_a0_b3)
  have Zs8 := Nat.le_trans Zs4 (Keep.of_wr W7).1
  have Kp9 := Kp5.wr W7 (Or.inl (List.mem_of_getElem? (i := 0) rfl))
  refine Go.st (S' := T7.setTop (mkF m 54 #[vr a0, vr a1, vi 0, vi 4, .val .null, vr b3] [.ref b3, .ref a0])) (fun _ kk => st7 _ (XS.aloadN X7.here hx rfl (hb hby d3_51) rfl rfl (XS.aload X7.here hx rfl (hb hby d3_52) rfl rfl kk))) ?_
  obtain ⟨T10, h10, X10, e10, W10, st10⟩ := putF X7 hx hZ hown (host := "") (Or.inl (ow hw 25 rfl)) Via.refl e7 F_value E_a0 (Or.inr ⟨(ow hw 21 rfl), rfl, hnm⟩) (ow hw 7 rfl) (ty := (.array .byte)) (by decide) rfl rfl (g := (mkF m 54 #[vr a0, vr a1, vi 0, vi 4, .val .null, vr b3] [.ref b3, .ref a0])) rfl rfl (hb hby d3_54)
  have N10 := Fr.snoc X10 N7 g_a0
  have F_value := F_value.same W10
  have S_C := S_C.wr W10
  have S_F := S_F.wr W10
  have S_A := S_A.wr W10
  have S_H := S_H.wr W10
  have S_L := S_L.wr W10
  have E_a0 := E_a0.wr W10
  have F_coder := F_coder.other W10 (Or.inr (slot_ne (Or.inr (ow hw 22 rfl)) (Or.inr (ow hw 21 rfl)) (by decide) (t := .byte) (t' := (.array .byte)) (by decide) (by decide)))
  have V_a1 := V_a1.other W10 (Ne.symm ne)
  have E_b3 := E_b3.wr W10
  have V_b3 := V_b3.other W10 (Ne.symm ne_a0_b3)
  have Zs11 := Nat.le_trans Zs8 (Keep.of_wr W10).1
  have Kp12 := Kp9.wr W10 (Or.inl (List.mem_of_getElem? (i := 0) rfl))
  refine Go.st (S' := T10.setTop (mkF m 57 #[vr a0, vr a1, vi 0, vi 4, .val .null, vr b3] [])) st10 ?_
  exact Go.ret0 X10 hx hlk Bd.returns (hb hby d3_57) (by rw [e10]; exact ⟨rfl, N10, Kp12, E_a0, _, _, _, _, (own_u16 [c1, c2, c3, c4]), F_coder, F_value, V_b3, Or.inr ⟨rfl, rfl, rfl, (List.forall_mem_cons.mpr ⟨y1, (List.forall_mem_cons.mpr ⟨y2, (List.forall_mem_cons.mpr ⟨y3, (List.forall_mem_cons.mpr ⟨y4, (fun _ hx => nomatch hx)⟩)⟩)⟩)⟩)⟩⟩) (by decide) (by decide)
def Q_c5_4_4 (Z : State) (a2 : Addr) (k2 : ClassId) (c1 : Int32) (c2 : Int32) (c3 : Int32) (c4 : Int32) (h0 : Heap) (n0 : Nat) (v : Option Value) (h : Heap) (L : List Loc) : Prop := v = some (.int 4) ∧ Fr n0 L ∧ Keep h0 h [a2] ∧ Arv Z h a2 k2 .byte (4 : Int32) [(.int ((c1.toInt8.toInt32).toInt8.toInt32)), (.int ((c2.toInt8.toInt32).toInt8.toInt32)), (.int ((c3.toInt8.toInt32).toInt8.toInt32)), (.int ((c4.toInt8.toInt32).toInt8.toInt32))] (.int 0)
theorem rmC5_4_4 (l : Launch) (Z : State) (az : Array Value) (hw : HW az Z) (ws : List Jvm.Cond) (a0 : Addr) (p1 : Int32) (a2 : Addr) (p3 : Int32) (p4 : Int32) (k0 k2 : ClassId) (c1 : Int32) (c2 : Int32) (c3 : Int32) (c4 : Int32) (h0 : Heap) (n0 : Nat) (Z0 : n0 ≤ h0.size) (V_a0 : Arv Z h0 a0 k0 .char (4 : Int32) [(.int c1), (.int c2), (.int c3), (.int c4)] (.int 0)) (V_a2 : Arv Z h0 a2 k2 .byte (4 : Int32) [(.int 0), (.int 0), (.int 0), (.int 0)] (.int 0)) (ne : a0 ≠ a2) (g_a2 : n0 ≤ a2) (h1 : p1 = 0) (h3 : p3 = 0) (h4 : p4 = (4 : Int32)) (u1 : ¬ (255 : Int32) < c1) (u2 : ¬ (255 : Int32) < c2) (u3 : ¬ (255 : Int32) < c3) (u4 : ¬ (255 : Int32) < c4) :
    MF l mN21 (Jvm.Cond.code mN21 jdk_52_method_21_code 7 (some .int) :: ws) (rO 0 0 0 0) #[(.ref a0), (.int p1), (.ref a2), (.int p3), (.int p4)] Z h0 (Q_c5_4_4 Z a2 k2 c1 c2 c3 c4 h0 n0) := by
  refine MetFree.of_bodySF (plainFor_of_name pn_3) hisR ?_
  intro p e s m args below meth c s₁ Bd hml0 hP hK
  obtain ⟨rfl, hZ, hh⟩ := hP
  have hx := Bd.exec
  have hby := Bd.bytes
  have hlk : meth.locks = false := Bd.notSynchronized
  have hml : c.maxLocals = 7 := hml0
  have hown : s.vm.findClass "java/lang/StringUTF16" = some m.cls := findClass_of_methodNamed Bd.named
  have X0 : Stand p l e (rO 0 0 0 0) s m #[(.ref a0), (.int p1), (.ref a2), (.int p3), (.int p4)] below meth c s₁ [] 0 0 := Stand.of_body Bd
  have e0 : s₁.heap = h0 := by rw [← hh, Bd.state]; rfl
  have N0 := Fr.nil n0
  show Go p e below s ((Q_c5_4_4 Z a2 k2 c1 c2 c3 c4 h0 n0)) (rO 0 0 0 0).cells (rO 0 0 0 0).slots (s₁.setTop (entryFrame m #[(.ref a0), (.int p1), (.ref a2), (.int p3), (.int p4)] 7))
  rw [ef_9 m a0 p1 a2 p3 p4]
  subst h1 h3 h4
  refine Go.st (S' := s₁.setTop (mkF m 12 #[vr a0, vi 0, vr a2, vi 0, vi 4, vi 0, .unset] [.int 0, .ref a0])) (fun _ kk => XS.iconst X0.here hx rfl (hb hby d9_0) (XS.istore X0.here hx rfl (hb hby d9_1) rfl (l' := #[vr a0, vi 0, vr a2, vi 0, vi 4, vi 0, .unset]) rfl (XS.iload X0.here hx rfl (hb hby d9_3) rfl (XS.iload X0.here hx rfl (hb hby d9_5) rfl (XS.icmpNo X0.here hx rfl (hb hby d9_7) rfl (tlt (by decide : (0 : Int32) < (4 : Int32))).2.1 (XS.aloadN X0.here hx rfl (hb hby d9_10) rfl rfl (XS.iloadN X0.here hx rfl (hb hby d9_11) rfl kk))))))) ?_
  obtain ⟨cl1, Ar1, qk1, S1, Ng1, H1, G1⟩ := (id V_a0)
  have hin1 : ¬ ((0 : Int32) < 0 ∨ cl1.slots.size ≤ ((0 : Int32)).toNatClampNeg) := inb_of S1 ⟨by decide, by decide⟩
  have hat1 : cl1.slots[((0 : Int32)).toNatClampNeg]? = some (.int c1) := Has.at H1 hin1 rfl
  refine Go.st (S' := s₁.setTop (mkF m 31 #[vr a0, vi 0, vr a2, vi 0, vi 4, vi 0, vi c1] [.int (c1.toInt8.toInt32), .int 0, .ref a2])) (fun _ kk => X0.caload hx (j := (0 : Int32)) (v := (.int c1)) (by rw [e0]; exact Ar1.1) (State.isArrayOf_alike hZ.alike Ar1.2.1) Ar1.2.2 hin1 hat1 (g := (mkF m 12 #[vr a0, vi 0, vr a2, vi 0, vi 4, vi 0, .unset] [.int 0, .ref a0])) rfl rfl (hb hby d9_12) _ (XS.istore X0.here hx rfl (hb hby d9_13) rfl (l' := #[vr a0, vi 0, vr a2, vi 0, vi 4, vi 0, vi c1]) rfl (XS.iload X0.here hx rfl (hb hby d9_15) rfl (XS.sipush X0.here hx rfl (hb hby d9_17) (XS.icmpYes X0.here hx rfl (pc0 := 20) (pc' := 26) rfl (hb hby d9_20) rfl (flt u1).2.2.2 (by decide) (by decide) (XS.aloadN X0.here hx rfl (hb hby d9_26) rfl rfl (XS.iloadN X0.here hx rfl (hb hby d9_27) rfl (XS.iload X0.here hx rfl (hb hby d9_28) rfl (XS.i2b X0.here hx rfl (hb hby d9_30) rfl kk))))))))) ?_
  obtain ⟨cl2, Ar2, qk2, S2, Ng2, H2, G2⟩ := (id V_a2)
  have hin2 : ¬ ((0 : Int32) < 0 ∨ cl2.slots.size ≤ ((0 : Int32)).toNatClampNeg) := inb_of S2 ⟨by decide, by decide⟩
  obtain ⟨T2, h2, X2, e2, W2, st2⟩ := stB X0 hx hZ e0 Ar2 (j := (0 : Int32)) hin2 (g := (mkF m 31 #[vr a0, vi 0, vr a2, vi 0, vi 4, vi 0, vi c1] [.int (c1.toInt8.toInt32), .int 0, .ref a2])) rfl rfl (hb hby d9_31)
  have V_a2 : Arv Z h2 a2 k2 .byte (4 : Int32) [(.int ((c1.toInt8.toInt32).toInt8.toInt32)), (.int 0), (.int 0), (.int 0)] (.int 0) := Arv.set Ar2 qk2 S2 Ng2 H2 G2 (fits_nar_byte _) W2 0 rfl (Nat.le_of_ble_eq_true rfl)
  have N2 := Fr.snoc X2 N0 g_a2
  have V_a0 := V_a0.other W2 ne
  have Zs3 := Nat.le_trans Z0 (Keep.of_wr W2).1
  have Kp4 := (Keep.refl h0 [a2]).wr W2 (Or.inl (List.mem_of_getElem? (i := 0) rfl))
  refine Go.st (S' := T2.setTop (mkF m 12 #[vr a0, vi 1, vr a2, vi 1, vi 4, vi 1, vi c1] [.int 1, .ref a0])) (fun _ kk => st2 _ (XS.iinc X2.here hx rfl (hb hby d9_32) rfl (l' := #[vr a0, vi 1, vr a2, vi 0, vi 4, vi 0, vi c1]) rfl (XS.iinc X2.here hx rfl (hb hby d9_35) rfl (l' := #[vr a0, vi 1, vr a2, vi 1, vi 4, vi 0, vi c1]) rfl (XS.iinc X2.here hx rfl (hb hby d9_38) rfl (l' := #[vr a0, vi 1, vr a2, vi 1, vi 4, vi 1, vi c1]) rfl (XS.goto X2.here hx rfl (pc0 := 41) (pc' := 3) rfl (hb hby d9_41) (by decide) (by decide) (XS.iload X2.here hx rfl (hb hby d9_3) rfl (XS.iload X2.here hx rfl (hb hby d9_5) rfl (XS.icmpNo X2.here hx rfl (hb hby d9_7) rfl (tlt (by decide : (1 : Int32) < (4 : Int32))).2.1 (XS.aloadN X2.here hx rfl (hb hby d9_10) rfl rfl (XS.iloadN X2.here hx rfl (hb hby d9_11) rfl kk)))))))))) ?_
  obtain ⟨cl5, Ar5, qk5, S5, Ng5, H5, G5⟩ := (id V_a0)
  have hin5 : ¬ ((1 : Int32) < 0 ∨ cl5.slots.size ≤ ((1 : Int32)).toNatClampNeg) := inb_of S5 ⟨by decide, by decide⟩
  have hat5 : cl5.slots[((1 : Int32)).toNatClampNeg]? = some (.int c2) := Has.at H5 hin5 rfl
  refine Go.st (S' := T2.setTop (mkF m 31 #[vr a0, vi 1, vr a2, vi 1, vi 4, vi 1, vi c2] [.int (c2.toInt8.toInt32), .int 1, .ref a2])) (fun _ kk => X2.caload hx (j := (1 : Int32)) (v := (.int c2)) (by rw [e2]; exact Ar5.1) (State.isArrayOf_alike hZ.alike Ar5.2.1) Ar5.2.2 hin5 hat5 (g := (mkF m 12 #[vr a0, vi 1, vr a2, vi 1, vi 4, vi 1, vi c1] [.int 1, .ref a0])) rfl rfl (hb hby d9_12) _ (XS.istore X2.here hx rfl (hb hby d9_13) rfl (l' := #[vr a0, vi 1, vr a2, vi 1, vi 4, vi 1, vi c2]) rfl (XS.iload X2.here hx rfl (hb hby d9_15) rfl (XS.sipush X2.here hx rfl (hb hby d9_17) (XS.icmpYes X2.here hx rfl (pc0 := 20) (pc' := 26) rfl (hb hby d9_20) rfl (flt u2).2.2.2 (by decide) (by decide) (XS.aloadN X2.here hx rfl (hb hby d9_26) rfl rfl (XS.iloadN X2.here hx rfl (hb hby d9_27) rfl (XS.iload X2.here hx rfl (hb hby d9_28) rfl (XS.i2b X2.here hx rfl (hb hby d9_30) rfl kk))))))))) ?_
  obtain ⟨cl6, Ar6, qk6, S6, Ng6, H6, G6⟩ := (id V_a2)
  have hin6 : ¬ ((1 : Int32) < 0 ∨ cl6.slots.size ≤ ((1 : Int32)).toNatClampNeg) := inb_of S6 ⟨by decide, by decide⟩
  obtain ⟨T6, h6, X6, e6, W6, st6⟩ := stB X2 hx hZ e2 Ar6 (j := (1 : Int32)) hin6 (g := (mkF m 31 #[vr a0, vi 1, vr a2, vi 1, vi 4, vi 1, vi c2] [.int (c2.toInt8.toInt32), .int 1, .ref a2])) rfl rfl (hb hby d9_31)
  have V_a2 : Arv Z h6 a2 k2 .byte (4 : Int32) [(.int ((c1.toInt8.toInt32).toInt8.toInt32)), (.int ((c2.toInt8.toInt32).toInt8.toInt32)), (.int 0), (.int 0)] (.int 0) := Arv.set Ar6 qk6 S6 Ng6 H6 G6 (fits_nar_byte _) W6 1 rfl (Nat.le_of_ble_eq_true rfl)
  have N6 := Fr.snoc X6 N2 g_a2
  have V_a0 := V_a0.other W6 ne
  have Zs7 := Nat.le_trans Zs3 (Keep.of_wr W6).1
  have Kp8 := Kp4.wr W6 (Or.inl (List.mem_of_getElem? (i := 0) rfl))
  refine Go.st (S' := T6.setTop (mkF m 12 #[vr a0, vi 2, vr a2, vi 2, vi 4, vi 2, vi c2] [.int 2, .ref a0])) (fun _ kk => st6 _ (XS.iinc X6.here hx rfl (hb hby d9_32) rfl (l' := #[vr a0, vi 2, vr a2, vi 1, vi 4, vi 1, vi c2]) rfl (XS.iinc X6.here hx rfl (hb hby d9_35) rfl (l' := #[vr a0, vi 2, vr a2, vi 2, vi 4, vi 1, vi c2]) rfl (XS.iinc X6.here hx rfl (hb hby d9_38) rfl (l' := #[vr a0, vi 2, vr a2, vi 2, vi 4, vi 2, vi c2]) rfl (XS.goto X6.here hx rfl (pc0 := 41) (pc' := 3) rfl (hb hby d9_41) (by decide) (by decide) (XS.iload X6.here hx rfl (hb hby d9_3) rfl (XS.iload X6.here hx rfl (hb hby d9_5) rfl (XS.icmpNo X6.here hx rfl (hb hby d9_7) rfl (tlt (by decide : (2 : Int32) < (4 : Int32))).2.1 (XS.aloadN X6.here hx rfl (hb hby d9_10) rfl rfl (XS.iloadN X6.here hx rfl (hb hby d9_11) rfl kk)))))))))) ?_
  obtain ⟨cl9, Ar9, qk9, S9, Ng9, H9, G9⟩ := (id V_a0)
  have hin9 : ¬ ((2 : Int32) < 0 ∨ cl9.slots.size ≤ ((2 : Int32)).toNatClampNeg) := inb_of S9 ⟨by decide, by decide⟩
  have hat9 : cl9.slots[((2 : Int32)).toNatClampNeg]? = some (.int c3) := Has.at H9 hin9 rfl
  refine Go.st (S' := T6.setTop (mkF m 31 #[vr a0, vi 2, vr a2, vi 2, vi 4, vi 2, vi c3] [.int (c3.toInt8.toInt32), .int 2, .ref a2])) (fun _ kk => X6.caload hx (j := (2 : Int32)) (v := (.int c3)) (by rw [e6]; exact Ar9.1) (State.isArrayOf_alike hZ.alike Ar9.2.1) Ar9.2.2 hin9 hat9 (g := (mkF m 12 #[vr a0, vi 2, vr a2, vi 2, vi 4, vi 2, vi c2] [.int 2, .ref a0])) rfl rfl (hb hby d9_12) _ (XS.istore X6.here hx rfl (hb hby d9_13) rfl (l' := #[vr a0, vi 2, vr a2, vi 2, vi 4, vi 2, vi c3]) rfl (XS.iload X6.here hx rfl (hb hby d9_15) rfl (XS.sipush X6.here hx rfl (hb hby d9_17) (XS.icmpYes X6.here hx rfl (pc0 := 20) (pc' := 26) rfl (hb hby d9_20) rfl (flt u3).2.2.2 (by decide) (by decide) (XS.aloadN X6.here hx rfl (hb hby d9_26) rfl rfl (XS.iloadN X6.here hx rfl (hb hby d9_27) rfl (XS.iload X6.here hx rfl (hb hby d9_28) rfl (XS.i2b X6.here hx rfl (hb hby d9_30) rfl kk))))))))) ?_
  obtain ⟨cl10, Ar10, qk10, S10, Ng10, H10, G10⟩ := (id V_a2)
  have hin10 : ¬ ((2 : Int32) < 0 ∨ cl10.slots.size ≤ ((2 : Int32)).toNatClampNeg) := inb_of S10 ⟨by decide, by decide⟩
  obtain ⟨T10, h10, X10, e10, W10, st10⟩ := stB X6 hx hZ e6 Ar10 (j := (2 : Int32)) hin10 (g := (mkF m 31 #[vr a0, vi 2, vr a2, vi 2, vi 4, vi 2, vi c3] [.int (c3.toInt8.toInt32), .int 2, .ref a2])) rfl rfl (hb hby d9_31)
  have V_a2 : Arv Z h10 a2 k2 .byte (4 : Int32) [(.int ((c1.toInt8.toInt32).toInt8.toInt32)), (.int ((c2.toInt8.toInt32).toInt8.toInt32)), (.int ((c3.toInt8.toInt32).toInt8.toInt32)), (.int 0)] (.int 0) := Arv.set Ar10 qk10 S10 Ng10 H10 G10 (fits_nar_byte _) W10 2 rfl (Nat.le_of_ble_eq_true rfl)
  have N10 := Fr.snoc X10 N6 g_a2
  have V_a0 := V_a0.other W10 ne
  have Zs11 := Nat.le_trans Zs7 (Keep.of_wr W10).1
  have Kp12 := Kp8.wr W10 (Or.inl (List.mem_of_getElem? (i := 0) rfl))
  refine Go.st (S' := T10.setTop (mkF m 12 #[vr a0, vi 3, vr a2, vi 3, vi 4, vi 3, vi c3] [.int 3, .ref a0])) (fun _ kk => st10 _ (XS.iinc X10.here hx rfl (hb hby d9_32) rfl (l' := #[vr a0, vi 3, vr a2, vi 2, vi 4, vi 2, vi c3]) rfl (XS.iinc X10.here hx rfl (hb hby d9_35) rfl (l' := #[vr a0, vi 3, vr a2, vi 3, vi 4, vi 2, vi c3]) rfl (XS.iinc X10.here hx rfl (hb hby d9_38) rfl (l' := #[vr a0, vi 3, vr a2, vi 3, vi 4, vi 3, vi c3]) rfl (XS.goto X10.here hx rfl (pc0 := 41) (pc' := 3) rfl (hb hby d9_41) (by decide) (by decide) (XS.iload X10.here hx rfl (hb hby d9_3) rfl (XS.iload X10.here hx rfl (hb hby d9_5) rfl (XS.icmpNo X10.here hx rfl (hb hby d9_7) rfl (tlt (by decide : (3 : Int32) < (4 : Int32))).2.1 (XS.aloadN X10.here hx rfl (hb hby d9_10) rfl rfl (XS.iloadN X10.here hx rfl (hb hby d9_11) rfl kk)))))))))) ?_
  obtain ⟨cl13, Ar13, qk13, S13, Ng13, H13, G13⟩ := (id V_a0)
  have hin13 : ¬ ((3 : Int32) < 0 ∨ cl13.slots.size ≤ ((3 : Int32)).toNatClampNeg) := inb_of S13 ⟨by decide, by decide⟩
  have hat13 : cl13.slots[((3 : Int32)).toNatClampNeg]? = some (.int c4) := Has.at H13 hin13 rfl
  refine Go.st (S' := T10.setTop (mkF m 31 #[vr a0, vi 3, vr a2, vi 3, vi 4, vi 3, vi c4] [.int (c4.toInt8.toInt32), .int 3, .ref a2])) (fun _ kk => X10.caload hx (j := (3 : Int32)) (v := (.int c4)) (by rw [e10]; exact Ar13.1) (State.isArrayOf_alike hZ.alike Ar13.2.1) Ar13.2.2 hin13 hat13 (g := (mkF m 12 #[vr a0, vi 3, vr a2, vi 3, vi 4, vi 3, vi c3] [.int 3, .ref a0])) rfl rfl (hb hby d9_12) _ (XS.istore X10.here hx rfl (hb hby d9_13) rfl (l' := #[vr a0, vi 3, vr a2, vi 3, vi 4, vi 3, vi c4]) rfl (XS.iload X10.here hx rfl (hb hby d9_15) rfl (XS.sipush X10.here hx rfl (hb hby d9_17) (XS.icmpYes X10.here hx rfl (pc0 := 20) (pc' := 26) rfl (hb hby d9_20) rfl (flt u4).2.2.2 (by decide) (by decide) (XS.aloadN X10.here hx rfl (hb hby d9_26) rfl rfl (XS.iloadN X10.here hx rfl (hb hby d9_27) rfl (XS.iload X10.here hx rfl (hb hby d9_28) rfl (XS.i2b X10.here hx rfl (hb hby d9_30) rfl kk))))))))) ?_
  obtain ⟨cl14, Ar14, qk14, S14, Ng14, H14, G14⟩ := (id V_a2)
  have hin14 : ¬ ((3 : Int32) < 0 ∨ cl14.slots.size ≤ ((3 : Int32)).toNatClampNeg) := inb_of S14 ⟨by decide, by decide⟩
  obtain ⟨T14, h14, X14, e14, W14, st14⟩ := stB X10 hx hZ e10 Ar14 (j := (3 : Int32)) hin14 (g := (mkF m 31 #[vr a0, vi 3, vr a2, vi 3, vi 4, vi 3, vi c4] [.int (c4.toInt8.toInt32), .int 3, .ref a2])) rfl rfl (hb hby d9_31)
  have V_a2 : Arv Z h14 a2 k2 .byte (4 : Int32) [(.int ((c1.toInt8.toInt32).toInt8.toInt32)), (.int ((c2.toInt8.toInt32).toInt8.toInt32)), (.int ((c3.toInt8.toInt32).toInt8.toInt32)), (.int ((c4.toInt8.toInt32).toInt8.toInt32))] (.int 0) := Arv.set Ar14 qk14 S14 Ng14 H14 G14 (fits_nar_byte _) W14 3 rfl (Nat.le_of_ble_eq_true rfl)
  have N14 := Fr.snoc X14 N10 g_a2
  have V_a0 := V_a0.other W14 ne
  have Zs15 := Nat.le_trans Zs11 (Keep.of_wr W14).1
  have Kp16 := Kp12.wr W14 (Or.inl (List.mem_of_getElem? (i := 0) rfl))
  refine Go.st (S' := T14.setTop (mkF m 46 #[vr a0, vi 4, vr a2, vi 4, vi 4, vi 4, vi c4] [.int 4])) (fun _ kk => st14 _ (XS.iinc X14.here hx rfl (hb hby d9_32) rfl (l' := #[vr a0, vi 4, vr a2, vi 3, vi 4, vi 3, vi c4]) rfl (XS.iinc X14.here hx rfl (hb hby d9_35) rfl (l' := #[vr a0, vi 4, vr a2, vi 4, vi 4, vi 3, vi c4]) rfl (XS.iinc X14.here hx rfl (hb hby d9_38) rfl (l' := #[vr a0, vi 4, vr a2, vi 4, vi 4, vi 4, vi c4]) rfl (XS.goto X14.here hx rfl (pc0 := 41) (pc' := 3) rfl (hb hby d9_41) (by decide) (by decide) (XS.iload X14.here hx rfl (hb hby d9_3) rfl (XS.iload X14.here hx rfl (hb hby d9_5) rfl (XS.icmpYes X14.here hx rfl (pc0 := 7) (pc' := 44) rfl (hb hby d9_7) rfl (flt (by decide : ¬ ((4 : Int32) < (4 : Int32)))).2.1 (by decide) (by decide) (XS.iload X14.here hx rfl (hb hby d9_44) rfl kk))))))))) ?_
  exact Go.retI X14 hx hlk Bd.returns (hb hby d9_46) (by rw [e14]; exact ⟨rfl, N14, Kp16, V_a2⟩) (by decide) (by decide)
def Q_c3_4_4 (Z : State) (c1 : Int32) (c2 : Int32) (c3 : Int32) (c4 : Int32) (h0 : Heap) (n0 : Nat) (v : Option Value) (h : Heap) (L : List Loc) : Prop := ∃ (b : Addr) (k : ClassId), v = some (.ref b) ∧ Fr n0 L ∧ Keep h0 h [] ∧ Arv Z h b k .byte (4 : Int32) [(.int ((c1.toInt8.toInt32).toInt8.toInt32)), (.int ((c2.toInt8.toInt32).toInt8.toInt32)), (.int ((c3.toInt8.toInt32).toInt8.toInt32)), (.int ((c4.toInt8.toInt32).toInt8.toInt32))] (.int 0) ∧ Exa Z h b "[B" ∧ h0.size ≤ b
theorem rmC3_4_4 (l : Launch) (Z : State) (az : Array Value) (hw : HW az Z) (ws : List Jvm.Cond) (a0 : Addr) (p1 : Int32) (p2 : Int32) (zc : Int32) (fm : Value) (k0 : ClassId) (c1 : Int32) (c2 : Int32) (c3 : Int32) (c4 : Int32) (h0 : Heap) (n0 : Nat) (Z0 : n0 ≤ h0.size) (S_C : tS0 Z h0 (.int zc)) (hzc : ¬ zc = 0) (S_F : tS1 Z h0 fm) (hfm : fm.isRef = true) (S_A : tS2 Z h0 (.int 1)) (S_H : tS3 Z h0 (.int 0)) (S_L : tS4 Z h0 (.int 8)) (V_a0 : Arv Z h0 a0 k0 .char (4 : Int32) [(.int c1), (.int c2), (.int c3), (.int c4)] (.int 0)) (h1 : p1 = 0) (h2 : p2 = (4 : Int32)) (y1 : 0 ≤ c1.toInt ∧ c1.toInt ≤ 65535) (y2 : 0 ≤ c2.toInt ∧ c2.toInt ≤ 65535) (y3 : 0 ≤ c3.toInt ∧ c3.toInt ≤ 65535) (y4 : 0 ≤ c4.toInt ∧ c4.toInt ≤ 65535) (u1 : ¬ (255 : Int32) < c1) (u2 : ¬ (255 : Int32) < c2) (u3 : ¬ (255 : Int32) < c3) (u4 : ¬ (255 : Int32) < c4) :
    MF l mN20 (Jvm.Cond.code mN20 jdk_52_method_16_code 6 (some (.array .byte)) :: ws) (rO 3 2 12 40) #[(.ref a0), (.int p1), (.int p2)] Z h0 (Q_c3_4_4 Z c1 c2 c3 c4 h0 n0) := by
  refine MetFree.of_bodySF (plainFor_of_name pn_3) hisR ?_
  intro p e s m args below meth c s₁ Bd hml0 hP hK
  obtain ⟨rfl, hZ, hh⟩ := hP
  have hx := Bd.exec
  have hby := Bd.bytes
  have hlk : meth.locks = false := Bd.notSynchronized
  have hml : c.maxLocals = 6 := hml0
  have hown : s.vm.findClass "java/lang/StringUTF16" = some m.cls := findClass_of_methodNamed Bd.named
  have X0 : Stand p l e (rO 3 2 12 40) s m #[(.ref a0), (.int p1), (.int p2)] below meth c s₁ [] 0 0 := Stand.of_body Bd
  have e0 : s₁.heap = h0 := by rw [← hh, Bd.state]; rfl
  have N0 := Fr.nil n0
  show Go p e below s ((Q_c3_4_4 Z c1 c2 c3 c4 h0 n0)) (rO 3 2 12 40).cells (rO 3 2 12 40).slots (s₁.setTop (entryFrame m #[(.ref a0), (.int p1), (.int p2)] 6))
  rw [ef_8 m a0 p1 p2]
  subst h1 h2
  refine Go.st (S' := s₁.setTop (mkF m 1 #[vr a0, vi 0, vi 4, .unset, .unset, .unset] [.int 4])) (fun _ kk => XS.iloadN X0.here hx rfl (hb hby d8_0) rfl kk) ?_
  obtain ⟨T1, h1, k1, X1, e1, E1, A1, E_b1, st1⟩ := newPE X0 hx hZ (ow hw 20 rfl) e0 (g := (mkF m 1 #[vr a0, vi 0, vi 4, .unset, .unset, .unset] [.int 4])) rfl (hb hby d8_1) rfl (by decide) (cap := 4) (by decide) (by decide) (by decide : 0 + 1 ≤ _) (by decide : 0 + 4 ≤ _) (ad := "[B") rfl
  obtain ⟨b1, g1⟩ : ∃ z, z = h0.size := ⟨_, rfl⟩
  rw [← g1] at A1 E_b1 st1
  have ne_a0_b1 : a0 ≠ b1 := Nat.ne_of_lt (Nat.lt_of_lt_of_le V_a0.lt (Nat.le_of_eq g1.symm))
  have g_b1 : n0 ≤ b1 := Nat.le_trans Z0 (Nat.le_of_eq g1.symm)
  have sz_b1 : h0.size ≤ b1 := Nat.le_trans (Keep.refl h0 []).1 (Nat.le_of_eq g1.symm)
  have S_C := S_C.ext E1
  have S_F := S_F.ext E1
  have S_A := S_A.ext E1
  have S_H := S_H.ext E1
  have S_L := S_L.ext E1
  have V_a0 := V_a0.ext E1
  have Zs2 := Nat.le_trans Z0 E1.1
  have Kp3 := (Keep.refl h0 []).ext E1
  have V_b1 : Arv Z h1 b1 k1 .byte (4 : Int32) [(.int 0), (.int 0), (.int 0), (.int 0)] (.int 0) := (Arv.new A1 (by decide)).pad (pad_rep [] (.int 0) 4)
  refine Go.st (S' := T1.setTop (mkF m 9 #[vr a0, vi 0, vi 4, vr b1, .unset, .unset] [.int 4, .int 0, .ref b1, .int 0, .ref a0])) (fun _ kk => st1 _ (XS.astoreN X1.here hx rfl (hb hby d8_3) rfl rfl (l' := #[vr a0, vi 0, vi 4, vr b1, .unset, .unset]) rfl (XS.aloadN X1.here hx rfl (hb hby d8_4) rfl rfl (XS.iloadN X1.here hx rfl (hb hby d8_5) rfl (XS.aloadN X1.here hx rfl (hb hby d8_6) rfl rfl (XS.iconst X1.here hx rfl (hb hby d8_7) (XS.iloadN X1.here hx rfl (hb hby d8_8) rfl kk))))))) ?_
  obtain ⟨_, _, ⟨T4, L4, k4, n4⟩, -, X4, ⟨Lc4, hQ4, l4, y4, z4⟩, st4⟩ := Jvm.LawKit.callS X1 hx (y := mN21) hown (mvT hZ (ow hw 46 rfl)) (mvT hZ (ow hw 47 rfl)) (mvT hZ (ow hw 44 rfl)) (mvT hZ (ow hw 48 rfl)) (by decide) (backOf (W := 0) (rmC5_4_4 l Z az hw [] a0 (0 : Int32) b1 (0 : Int32) (4 : Int32) k0 k1 c1 c2 c3 c4 h1 n0 Zs2 V_a0 V_b1 ne_a0_b1 g_b1 rfl rfl rfl u1 u2 u3 u4) hZ (ow hw 48 rfl) (ow hw 44 rfl) (by decide) (by decide)) (g := (mkF m 9 #[vr a0, vi 0, vi 4, vr b1, .unset, .unset] [.int 4, .int 0, .ref b1, .int 0, .ref a0])) rfl (by rw [hml]; rfl) (argsL := [.ref a0, .int 0, .ref b1, .int 0, .int 4]) (rest := []) (lenOf pd_8 rfl) rfl (oW rfl rfl) (hb hby d8_9) (fun _ _ => ⟨rfl, e1, (by decide : 1 + 0 ≤ _), (by decide : 4 + 0 ≤ _)⟩)
  dsimp only [Pt.U, Pt.locs, Pt.cells, Pt.slots] at X4 l4 y4 z4 st4 hQ4
  subst l4 y4 z4
  obtain ⟨rfl, N4q, K4, Va4⟩ := hQ4
  have N4 := Fr.app N0 N4q
  have S_C := own_stak K4 (allS (P := fun x => ∀ cell : Cell, (h1)[x]? = some cell → cell.vm.isStatics = false) (Exa.nostat E_b1) all0) S_C
  have S_F := own_stak K4 (allS (P := fun x => ∀ cell : Cell, (h1)[x]? = some cell → cell.vm.isStatics = false) (Exa.nostat E_b1) all0) S_F
  have S_A := own_stak K4 (allS (P := fun x => ∀ cell : Cell, (h1)[x]? = some cell → cell.vm.isStatics = false) (Exa.nostat E_b1) all0) S_A
  have S_H := own_stak K4 (allS (P := fun x => ∀ cell : Cell, (h1)[x]? = some cell → cell.vm.isStatics = false) (Exa.nostat E_b1) all0) S_H
  have S_L := own_stak K4 (allS (P := fun x => ∀ cell : Cell, (h1)[x]? = some cell → cell.vm.isStatics = false) (Exa.nostat E_b1) all0) S_L
  have V_a0 := V_a0.keep K4 (ninS ne_a0_b1 nin0)
  have E_b1 := E_b1.keep K4
  have Zs5 := Nat.le_trans Zs2 K4.1
  have Kp6 := Kp3.trans K4 (allS (Or.inr sz_b1) all0)
  refine Go.st (S' := T4.setTop (mkF m 58 #[vr a0, vi 0, vi 4, vr b1, vi 4, .unset] [.ref b1])) (fun _ kk => st4 _ (XS.istore X4.here hx rfl (hb hby d8_12) rfl (l' := #[vr a0, vi 0, vi 4, vr b1, vi 4, .unset]) rfl (XS.iload X4.here hx rfl (hb hby d8_14) rfl (XS.iloadN X4.here hx rfl (hb hby d8_16) rfl (XS.icmpYes X4.here hx rfl (pc0 := 17) (pc' := 57) rfl (hb hby d8_17) rfl (teq (by decide : (4 : Int32) = (4 : Int32))).1 (by decide) (by decide) (XS.aloadN X4.here hx rfl (hb hby d8_57) rfl rfl kk)))))) ?_
  exact Go.retA X4 hx hlk Bd.returns rfl rfl (hb hby d8_58) (by exact ⟨_, _, rfl, N4, Kp6, Va4, E_b1, sz_b1⟩) (by decide) (by decide)
theorem rmCd_4_0 (l : Launch) (Z : State) (az : Array Value) (hw : HW az Z) (ws : List Jvm.Cond) (a0 : Addr) (p1 : Int32) (k0 : ClassId) (vs : List Value) (h0 : Heap) (n0 : Nat) (Z0 : n0 ≤ h0.size) (V_a0 : Arv Z h0 a0 k0 .byte (4 : Int32) vs (.int 0)) (h1 : p1 = (4 : Int32)) :
    MF l mN19 (Jvm.Cond.code mN19 jdk_52_method_15_code 2 (some .byte) :: ws) (rO 0 0 0 0) #[(.ref a0), (.int p1)] Z h0 (PQ (.int 0) n0 h0) := by
  refine MetFree.of_bodySF (plainFor_of_name pn_3) hisR ?_
  intro p e s m args below meth c s₁ Bd hml0 hP hK
  obtain ⟨rfl, hZ, hh⟩ := hP
  have hx := Bd.exec
  have hby := Bd.bytes
  have hlk : meth.locks = false := Bd.notSynchronized
  have hml : c.maxLocals = 2 := hml0
  have hown : s.vm.findClass "java/lang/StringUTF16" = some m.cls := findClass_of_methodNamed Bd.named
  have X0 : Stand p l e (rO 0 0 0 0) s m #[(.ref a0), (.int p1)] below meth c s₁ [] 0 0 := Stand.of_body Bd
  have e0 : s₁.heap = h0 := by rw [← hh, Bd.state]; rfl
  have N0 := Fr.nil n0
  show Go p e below s ((PQ (.int 0) n0 h0)) (rO 0 0 0 0).cells (rO 0 0 0 0).slots (s₁.setTop (entryFrame m #[(.ref a0), (.int p1)] 2))
  rw [ef_10 m a0 p1]
  subst h1
  refine Go.st (S' := s₁.setTop (mkF m 2 #[vr a0, vi 4] [.ref a0, .int 4])) (fun _ kk => XS.iloadN X0.here hx rfl (hb hby d10_0) rfl (XS.aloadN X0.here hx rfl (hb hby d10_1) rfl rfl kk)) ?_
  obtain ⟨cl1, Ar1, -, S1, Ng1, -, -⟩ := (id V_a0)
  refine Go.st (S' := s₁.setTop (mkF m 3 #[vr a0, vi 4] [.int 4, .int 4])) (fun _ kk => X0.arraylength hx (by rw [e0]; exact Ar1.1) (State.isArrayOf_alike hZ.alike Ar1.2.1) (g := (mkF m 2 #[vr a0, vi 4] [.ref a0, .int 4])) rfl rfl (hb hby d10_2) _ (by rw [len_of S1 Ng1]; exact kk)) ?_
  refine Go.st (S' := s₁.setTop (mkF m 8 #[vr a0, vi 4] [.int ((((0 : Int32).toUInt32 >>> ((31 : Int32) &&& 31).toUInt32).toInt32).toInt8.toInt32)])) (fun _ kk => XS.isub X0.here hx rfl (hb hby d10_3) rfl (XS.bipush X0.here hx rfl (hb hby d10_4) (XS.iushr X0.here hx rfl (hb hby d10_6) rfl (XS.i2b X0.here hx rfl (hb hby d10_7) rfl kk)))) ?_
  exact Go.retN X0 hx hlk (t := .byte) Bd.returns (by simp) (hb hby d10_8) (⟨rfl, N0, e0⟩) (by decide) (by decide)
theorem rmI5_4_4 (l : Launch) (Z : State) (az : Array Value) (hw : HW az Z) (ws : List Jvm.Cond) (a0 : Addr) (a1 : Addr) (p2 : Int32) (p3 : Int32) (zc : Int32) (fm : Value) (k1 : ClassId) (c1 : Int32) (c2 : Int32) (c3 : Int32) (c4 : Int32) (h0 : Heap) (n0 : Nat) (Z0 : n0 ≤ h0.size) (S_C : tS0 Z h0 (.int zc)) (hzc : ¬ zc = 0) (S_F : tS1 Z h0 fm) (hfm : fm.isRef = true) (S_A : tS2 Z h0 (.int 1)) (S_H : tS3 Z h0 (.int 0)) (S_L : tS4 Z h0 (.int 8)) (E_a0 : Exa Z h0 a0 "java/lang/String") (F_coder : tF0 Z h0 a0 (.int 0)) (F_value : tF1 Z h0 a0 .null) (g_a0 : n0 ≤ a0) (ne : a0 ≠ a1) (V_a1 : Arv Z h0 a1 k1 .char (4 : Int32) [(.int c1), (.int c2), (.int c3), (.int c4)] (.int 0)) (h2 : p2 = 0) (h3 : p3 = (4 : Int32)) (y1 : 0 ≤ c1.toInt ∧ c1.toInt ≤ 65535) (y2 : 0 ≤ c2.toInt ∧ c2.toInt ≤ 65535) (y3 : 0 ≤ c3.toInt ∧ c3.toInt ≤ 65535) (y4 : 0 ≤ c4.toInt ∧ c4.toInt ≤ 65535) (u1 : ¬ (255 : Int32) < c1) (u2 : ¬ (255 : Int32) < c2) (u3 : ¬ (255 : Int32) < c3) (u4 : ¬ (255 : Int32) < c4) :
    MF l mN10 (Jvm.Cond.code mN10 jdk_42_method_149_code 6 none :: ws) (rO 4 2 12 57) #[(.ref a0), (.ref a1), (.int p2), (.int p3), .null] Z h0 (Q_in_4 Z a0 c1 c2 c3 c4 h0 n0) := by
  refine MetFree.of_bodySF (plainFor_of_name pn_1) hisR ?_
  intro p e s m args below meth c s₁ Bd hml0 hP hK
  obtain ⟨rfl, hZ, hh⟩ := hP
  have hx := Bd.exec
  have hby := Bd.bytes
  have hlk : meth.locks = false := Bd.notSynchronized
  have hml : c.maxLocals = 6 := hml0
  have hown : s.vm.findClass "java/lang/String" = some m.cls := findClass_of_methodNamed Bd.named
  have hnm := (name_of_methodNamed Bd.named Bd.method).1
  have X0 : Stand p l e (rO 4 2 12 57) s m #[(.ref a0), (.ref a1), (.int p2), (.int p3), .null] below meth c s₁ [] 0 0 := Stand.of_body Bd
  have e0 : s₁.heap = h0 := by rw [← hh, Bd.state]; rfl
  have N0 := Fr.nil n0
  show Go p e below s ((Q_in_4 Z a0 c1 c2 c3 c4 h0 n0)) (rO 4 2 12 57).cells (rO 4 2 12 57).slots (s₁.setTop (entryFrame m #[(.ref a0), (.ref a1), (.int p2), (.int p3), .null] 6))
  rw [ef_3n4 m a0 a1 p2 p3]
  subst h2 h3
  refine Go.st (S' := s₁.setTop (mkF m 1 #[vr a0, vr a1, vi 0, vi 4, .val .null, .unset] [.ref a0])) (fun _ kk => XS.aloadN X0.here hx rfl (hb hby d3_0) rfl rfl kk) ?_
  obtain ⟨T1, X1, e1, st1⟩ := initO X0 hx hZ hown (ow hw 16 rfl) (ow hw 17 rfl) (ow hw 18 rfl) e0 (g := (mkF m 1 #[vr a0, vr a1, vi 0, vi 4, .val .null, .unset] [.ref a0])) rfl (by rw [hml]; rfl) rfl (hb hby d3_1) (by decide) (W := 0) (oW rfl rfl) (by decide)
  refine Go.st (S' := T1.setTop (mkF m 27 #[vr a0, vr a1, vi 0, vi 4, .val .null, .unset] [])) (fun _ kk => st1 _ (XS.iloadN X1.here hx rfl (hb hby d3_4) rfl (XS.ifYes X1.here hx rfl (pc0 := 5) (pc' := 27) rfl (hb hby d3_5) rfl ((if0 _ _).trans (feq (by decide : ¬ ((4 : Int32) = (0 : Int32)))).2) (by decide) (by decide) kk))) ?_
  obtain ⟨T2, X2, e2, st2⟩ := getS2 X1 hx hZ hown (host := "") (Or.inl (ow hw 41 rfl)) Via.refl e1 S_C (g := (mkF m 27 #[vr a0, vr a1, vi 0, vi 4, .val .null, .unset] [])) rfl (hb hby d3_27)
  refine Go.st (S' := T2.setTop (mkF m 36 #[vr a0, vr a1, vi 0, vi 4, .val .null, .unset] [.int 4, .int 0, .ref a1])) (fun _ kk => st2 _ (XS.ifNo X2.here hx rfl (hb hby d3_30) rfl ((if0 _ _).trans (feq hzc).1) (XS.aloadN X2.here hx rfl (hb hby d3_33) rfl rfl (XS.iloadN X2.here hx rfl (hb hby d3_34) rfl (XS.iloadN X2.here hx rfl (hb hby d3_35) rfl kk))))) ?_
  obtain ⟨_, _, ⟨T3, L3, k3, n3⟩, -, X3, ⟨Lc3, hQ3, l3, y3, z3⟩, st3⟩ := Jvm.LawKit.callS X2 hx (y := mN20) hown (mvT hZ (ow hw 42 rfl)) (mvT hZ (ow hw 43 rfl)) (mvT hZ (ow hw 44 rfl)) (mvT hZ (ow hw 45 rfl)) (by decide) (backOf (W := 0) (rmC3_4_4 l Z az hw [] a1 (0 : Int32) (4 : Int32) zc fm k1 c1 c2 c3 c4 h0 n0 Z0 S_C hzc S_F hfm S_A S_H S_L V_a1 rfl rfl y1 y2 y3 y4 u1 u2 u3 u4) hZ (ow hw 45 rfl) (ow hw 44 rfl) (by decide) (by decide)) (g := (mkF m 36 #[vr a0, vr a1, vi 0, vi 4, .val .null, .unset] [.int 4, .int 0, .ref a1])) rfl (by rw [hml]; rfl) (argsL := [.ref a1, .int 0, .int 4]) (rest := []) (lenOf pd_7 rfl) rfl (oW rfl rfl) (hb hby d3_36) (fun _ _ => ⟨rfl, e2, (by decide : 0 + 2 ≤ _), (by decide : 0 + 12 ≤ _)⟩)
  dsimp only [Pt.U, Pt.locs, Pt.cells, Pt.slots] at X3 l3 y3 z3 st3 hQ3
  subst l3 y3 z3
  obtain ⟨b3, kb3, rfl, N3q, K3, V_b3, E_b3, gb3⟩ := hQ3
  have Ex3 := own_extK K3
  have N3 := Fr.app N0 N3q
  have ne_a0_b3 : a0 ≠ b3 := Nat.ne_of_lt (Nat.lt_of_lt_of_le E_a0.lt gb3)
  have ne_a1_b3 : a1 ≠ b3 := Nat.ne_of_lt (Nat.lt_of_lt_of_le V_a1.lt gb3)
  have g_b3 : n0 ≤ b3 := Nat.le_trans Z0 gb3
  have sz_b3 : h0.size ≤ b3 := Nat.le_trans (Keep.refl h0 [a0]).1 gb3
  have S_C := S_C.ext Ex3
  have S_F := S_F.ext Ex3
  have S_A := S_A.ext Ex3
  have S_H := S_H.ext Ex3
  have S_L := S_L.ext Ex3
  have E_a0 := E_a0.ext Ex3
  have F_coder := F_coder.ext Ex3
  have F_value := F_value.ext Ex3
  have V_a1 := V_a1.ext Ex3
  have Zs4 := Nat.le_trans Z0 Ex3.1
  have Kp5 := (Keep.refl h0 [a0]).ext Ex3
  refine Go.st (S' := T3.setTop (mkF m 45 #[vr a0, vr a1, vi 0, vi 4, .val .null, vr b3] [.int 4, .ref b3, .ref a0])) (fun _ kk => st3 _ (XS.astore X3.here hx rfl (hb hby d3_39) rfl rfl (l' := #[vr a0, vr a1, vi 0, vi 4, .val .null, vr b3]) rfl (XS.aloadN X3.here hx rfl (hb hby d3_41) rfl rfl (XS.aload X3.here hx rfl (hb hby d3_42) rfl rfl (XS.iloadN X3.here hx rfl (hb hby d3_44) rfl kk))))) ?_
  obtain ⟨_, _, ⟨T6, L6, k6, n6⟩, -, X6, ⟨Lc6, hQ6, l6, y6, z6⟩, st6⟩ := Jvm.LawKit.callS X3 hx (y := mN19) hown (mvT hZ (ow hw 49 rfl)) (mvT hZ (ow hw 50 rfl)) (mvT hZ (ow hw 44 rfl)) (mvT hZ (ow hw 51 rfl)) (by decide) (backOf (W := 1) (rmCd_4_0 l Z az hw [] b3 (4 : Int32) kb3 _ T3.heap n0 Zs4 V_b3 rfl) hZ (ow hw 51 rfl) (ow hw 44 rfl) (by decide) (by decide)) (g := (mkF m 45 #[vr a0, vr a1, vi 0, vi 4, .val .null, vr b3] [.int 4, .ref b3, .ref a0])) rfl (by rw [hml]; rfl) (argsL := [.ref b3, .int 4]) (rest := [.ref a0]) (lenOf pd_9 rfl) rfl (oW rfl rfl) (hb hby d3_45) (fun _ _ => ⟨rfl, rfl, (by decide : 2 + 0 ≤ _), (by decide : 12 + 0 ≤ _)⟩)
  dsimp only [Pt.U, Pt.locs, Pt.cells, Pt.slots] at X6 l6 y6 z6 st6 hQ6
  subst l6 y6 z6
  obtain ⟨hv6, N6q, e6⟩ := hQ6
  subst hv6
  have N6 := Fr.app N3 N6q
  refine Go.st (S' := T6.setTop (mkF m 48 #[vr a0, vr a1, vi 0, vi 4, .val .null, vr b3] [.int 0, .ref a0])) st6 ?_
  obtain ⟨T7, h7, X7, e7, W7, st7⟩ := putFN X6 hx hZ hown (ow hw 26 rfl) Via.refl e6 F_coder E_a0 (Or.inr ⟨(ow hw 22 rfl), rfl, hnm⟩) (ow hw 7 rfl) (ty := .byte) (v' := .int (nar .byte (0 : Int32))) (by decide) rfl (fits_nar_byte _) (g := (mkF m 48 #[vr a0, vr a1, vi 0, vi 4, .val .null, vr b3] [.int 0, .ref a0])) rfl rfl (hb hby d3_48)
  have N7 := Fr.snoc X7 N6 g_a0
  have F_coder := F_coder.same W7
  have S_C := S_C.wr W7
  have S_F := S_F.wr W7
  have S_A := S_A.wr W7
  have S_H := S_H.wr W7
  have S_L := S_L.wr W7
  have E_a0 := E_a0.wr W7
  have F_value := F_value.other W7 (Or.inr (slot_ne (Or.inr (ow hw 21 rfl)) (Or.inr (ow hw 22 rfl)) (by decide) (t := (.array .byte)) (t' := .byte) (by decide) (by decide)))
  have V_a1 := V_a1.other W7 (Ne.symm ne)
  have E_b3 := E_b3.wr W7
  have V_b3 := V_b3.other W7 (Ne.symm ne_a0_b3)
  have Zs8 := Nat.le_trans Zs4 (Keep.of_wr W7).1
  have Kp9 := Kp5.wr W7 (Or.inl (List.mem_of_getElem? (i := 0) rfl))
  refine Go.st (S' := T7.setTop (mkF m 54 #[vr a0, vr a1, vi 0, vi 4, .val .null, vr b3] [.ref b3, .ref a0])) (fun _ kk => st7 _ (XS.aloadN X7.here hx rfl (hb hby d3_51) rfl rfl (XS.aload X7.here hx rfl (hb hby d3_52) rfl rfl kk))) ?_
  obtain ⟨T10, h10, X10, e10, W10, st10⟩ := putF X7 hx hZ hown (host := "") (Or.inl (ow hw 25 rfl)) Via.refl e7 F_value E_a0 (Or.inr ⟨(ow hw 21 rfl), rfl, hnm⟩) (ow hw 7 rfl) (ty := (.array .byte)) (by decide) rfl rfl (g := (mkF m 54 #[vr a0, vr a1, vi 0, vi 4, .val .null, vr b3] [.ref b3, .ref a0])) rfl rfl (hb hby d3_54)
  have N10 := Fr.snoc X10 N7 g_a0
  have F_value := F_value.same W10
  have S_C := S_C.wr W10
  have S_F := S_F.wr W10
  have S_A := S_A.wr W10
  have S_H := S_H.wr W10
  have S_L := S_L.wr W10
  have E_a0 := E_a0.wr W10
  have F_coder := F_coder.other W10 (Or.inr (slot_ne (Or.inr (ow hw 22 rfl)) (Or.inr (ow hw 21 rfl)) (by decide) (t := .byte) (t' := (.array .byte)) (by decide) (by decide)))
  have V_a1 := V_a1.other W10 (Ne.symm ne)
  have E_b3 := E_b3.wr W10
  have V_b3 := V_b3.other W10 (Ne.symm ne_a0_b3)
  have Zs11 := Nat.le_trans Zs8 (Keep.of_wr W10).1
  have Kp12 := Kp9.wr W10 (Or.inl (List.mem_of_getElem? (i := 0) rfl))
  refine Go.st (S' := T10.setTop (mkF m 57 #[vr a0, vr a1, vi 0, vi 4, .val .null, vr b3] [])) st10 ?_
  exact Go.ret0 X10 hx hlk Bd.returns (hb hby d3_57) (by rw [e10]; exact ⟨rfl, N10, Kp12, E_a0, _, _, _, _, (([c1, c2, c3, c4] : List Int32).map own_lo8), F_coder, F_value, V_b3, Or.inl ⟨rfl, rfl, rfl, (List.forall_mem_cons.mpr ⟨own_sm y1 u1, (List.forall_mem_cons.mpr ⟨own_sm y2 u2, (List.forall_mem_cons.mpr ⟨own_sm y3 u3, (List.forall_mem_cons.mpr ⟨own_sm y4 u4, (fun _ hx => nomatch hx)⟩)⟩)⟩)⟩)⟩⟩) (by decide) (by decide)
theorem rmI1_4 (l : Launch) (Z : State) (az : Array Value) (hw : HW az Z) (ws : List Jvm.Cond) (a0 : Addr) (a1 : Addr) (zc : Int32) (fm : Value) (k1 : ClassId) (c1 : Int32) (c2 : Int32) (c3 : Int32) (c4 : Int32) (h0 : Heap) (n0 : Nat) (Z0 : n0 ≤ h0.size) (S_C : tS0 Z h0 (.int zc)) (hzc : ¬ zc = 0) (S_F : tS1 Z h0 fm) (hfm : fm.isRef = true) (S_A : tS2 Z h0 (.int 1)) (S_H : tS3 Z h0 (.int 0)) (S_L : tS4 Z h0 (.int 8)) (E_a0 : Exa Z h0 a0 "java/lang/String") (F_coder : tF0 Z h0 a0 (.int 0)) (F_value : tF1 Z h0 a0 .null) (g_a0 : n0 ≤ a0) (ne : a0 ≠ a1) (V_a1 : Arv Z h0 a1 k1 .char (4 : Int32) [(.int c1), (.int c2), (.int c3), (.int c4)] (.int 0)) (y1 : 0 ≤ c1.toInt ∧ c1.toInt ≤ 65535) (y2 : 0 ≤ c2.toInt ∧ c2.toInt ≤ 65535) (y3 : 0 ≤ c3.toInt ∧ c3.toInt ≤ 65535) (y4 : 0 ≤ c4.toInt ∧ c4.toInt ≤ 65535) :
    MF l mN9 (Jvm.Cond.code mN9 jdk_42_method_3_code 2 none :: ws) (rO 5 2 12 74) #[(.ref a0), (.ref a1)] Z h0 (Q_in_4 Z a0 c1 c2 c3 c4 h0 n0) := by
  refine MetFree.of_bodySF (plainFor_of_name pn_1) hisR ?_
  intro p e s m args below meth c s₁ Bd hml0 hP hK
  obtain ⟨rfl, hZ, hh⟩ := hP
  have hx := Bd.exec
  have hby := Bd.bytes
  have hlk : meth.locks = false := Bd.notSynchronized
  have hml : c.maxLocals = 2 := hml0
  have hown : s.vm.findClass "java/lang/String" = some m.cls := findClass_of_methodNamed Bd.named
  have X0 : Stand p l e (rO 5 2 12 74) s m #[(.ref a0), (.ref a1)] below meth c s₁ [] 0 0 := Stand.of_body Bd
  have e0 : s₁.heap = h0 := by rw [← hh, Bd.state]; rfl
  have N0 := Fr.nil n0
  show Go p e below s ((Q_in_4 Z a0 c1 c2 c3 c4 h0 n0)) (rO 5 2 12 74).cells (rO 5 2 12 74).slots (s₁.setTop (entryFrame m #[(.ref a0), (.ref a1)] 2))
  rw [ef_2 m a0 a1]
  refine Go.st (S' := s₁.setTop (mkF m 4 #[vr a0, vr a1] [.ref a1, .int 0, .ref a1, .ref a0])) (fun _ kk => XS.aloadN X0.here hx rfl (hb hby d2_0) rfl rfl (XS.aloadN X0.here hx rfl (hb hby d2_1) rfl rfl (XS.iconst X0.here hx rfl (hb hby d2_2) (XS.aloadN X0.here hx rfl (hb hby d2_3) rfl rfl kk)))) ?_
  obtain ⟨cl1, Ar1, -, S1, Ng1, -, -⟩ := (id V_a1)
  refine Go.st (S' := s₁.setTop (mkF m 5 #[vr a0, vr a1] [.int 4, .int 0, .ref a1, .ref a0])) (fun _ kk => X0.arraylength hx (by rw [e0]; exact Ar1.1) (State.isArrayOf_alike hZ.alike Ar1.2.1) (g := (mkF m 4 #[vr a0, vr a1] [.ref a1, .int 0, .ref a1, .ref a0])) rfl rfl (hb hby d2_4) _ (by rw [len_of S1 Ng1]; exact kk)) ?_
  refine Go.st (S' := s₁.setTop (mkF m 6 #[vr a0, vr a1] [.null, .int 4, .int 0, .ref a1, .ref a0])) (fun _ kk => XS.aconstNull X0.here hx rfl (hb hby d2_5) kk) ?_
  by_cases hc2 : (255 : Int32) < c1
  · obtain ⟨_, _, ⟨T3, L3, k3, n3⟩, -, X3, ⟨Lc3, hQ3, l3, y3, z3⟩, st3⟩ := X0.specialBack hx (y := mN10) rfl hown (mvT hZ (ow hw 12 rfl)) (mvT hZ (ow hw 13 rfl)) (mvT hZ (ow hw 15 rfl)) (by decide) (backOf (W := 0) (rmI5_4_0 l Z az hw [] a0 a1 (0 : Int32) (4 : Int32) zc fm k1 c1 c2 c3 c4 h0 n0 Z0 S_C hzc S_F hfm S_A S_H S_L E_a0 F_coder F_value g_a0 ne V_a1 rfl rfl y1 y2 y3 y4 hc2) hZ (ow hw 15 rfl) (ow hw 8 rfl) (by decide) (by decide)) (g := (mkF m 6 #[vr a0, vr a1] [.null, .int 4, .int 0, .ref a1, .ref a0])) rfl (by rw [hml]; rfl) (Steps.refl _) (a := a0) (argsL := [.ref a1, .int 0, .int 4, .null]) (rest := []) (lenOf pd_2 rfl) rfl (oW rfl rfl) (hb hby d2_6) (fun _ _ => ⟨rfl, e0, (by decide : 0 + 2 ≤ _), (by decide : 0 + 12 ≤ _)⟩)
    dsimp only [Pt.U, Pt.locs, Pt.cells, Pt.slots] at X3 l3 y3 z3 st3 hQ3
    subst l3 y3 z3
    obtain ⟨rfl, N3q, K3, CS3⟩ := hQ3
    have N3 := Fr.app N0 N3q
    have S_C := own_stak K3 (allS (P := fun x => ∀ cell : Cell, (h0)[x]? = some cell → cell.vm.isStatics = false) (Exa.nostat E_a0) all0) S_C
    have S_F := own_stak K3 (allS (P := fun x => ∀ cell : Cell, (h0)[x]? = some cell → cell.vm.isStatics = false) (Exa.nostat E_a0) all0) S_F
    have S_A := own_stak K3 (allS (P := fun x => ∀ cell : Cell, (h0)[x]? = some cell → cell.vm.isStatics = false) (Exa.nostat E_a0) all0) S_A
    have S_H := own_stak K3 (allS (P := fun x => ∀ cell : Cell, (h0)[x]? = some cell → cell.vm.isStatics = false) (Exa.nostat E_a0) all0) S_H
    have S_L := own_stak K3 (allS (P := fun x => ∀ cell : Cell, (h0)[x]? = some cell → cell.vm.isStatics = false) (Exa.nostat E_a0) all0) S_L
    have E_a0 := E_a0.keep K3
    have V_a1 := V_a1.keep K3 (ninS (Ne.symm ne) nin0)
    have Zs4 := Nat.le_trans Z0 K3.1
    have Kp5 := (Keep.refl h0 [a0]).trans K3 (allS (Or.inl (List.mem_of_getElem? (i := 0) rfl)) all0)
    have Ec3 := CS3.1
    refine Go.tr (S' := T3.setTop (mkF m 9 #[vr a0, vr a1] [])) st3 ?_
    exact Go.ret0 X3 hx hlk Bd.returns (hb hby d2_9) (by exact ⟨rfl, N3, Kp5, CS3⟩) (by decide) (by decide)
  · by_cases hc6 : (255 : Int32) < c2
    · obtain ⟨_, _, ⟨T7, L7, k7, n7⟩, -, X7, ⟨Lc7, hQ7, l7, y7, z7⟩, st7⟩ := X0.specialBack hx (y := mN10) rfl hown (mvT hZ (ow hw 12 rfl)) (mvT hZ (ow hw 13 rfl)) (mvT hZ (ow hw 15 rfl)) (by decide) (backOf (W := 0) (rmI5_4_1 l Z az hw [] a0 a1 (0 : Int32) (4 : Int32) zc fm k1 c1 c2 c3 c4 h0 n0 Z0 S_C hzc S_F hfm S_A S_H S_L E_a0 F_coder F_value g_a0 ne V_a1 rfl rfl y1 y2 y3 y4 hc2 hc6) hZ (ow hw 15 rfl) (ow hw 8 rfl) (by decide) (by decide)) (g := (mkF m 6 #[vr a0, vr a1] [.null, .int 4, .int 0, .ref a1, .ref a0])) rfl (by rw [hml]; rfl) (Steps.refl _) (a := a0) (argsL := [.ref a1, .int 0, .int 4, .null]) (rest := []) (lenOf pd_2 rfl) rfl (oW rfl rfl) (hb hby d2_6) (fun _ _ => ⟨rfl, e0, (by decide : 0 + 2 ≤ _), (by decide : 0 + 12 ≤ _)⟩)
      dsimp only [Pt.U, Pt.locs, Pt.cells, Pt.slots] at X7 l7 y7 z7 st7 hQ7
      subst l7 y7 z7
      obtain ⟨rfl, N7q, K7, CS7⟩ := hQ7
      have N7 := Fr.app N0 N7q
      have S_C := own_stak K7 (allS (P := fun x => ∀ cell : Cell, (h0)[x]? = some cell → cell.vm.isStatics = false) (Exa.nostat E_a0) all0) S_C
      have S_F := own_stak K7 (allS (P := fun x => ∀ cell : Cell, (h0)[x]? = some cell → cell.vm.isStatics = false) (Exa.nostat E_a0) all0) S_F
      have S_A := own_stak K7 (allS (P := fun x => ∀ cell : Cell, (h0)[x]? = some cell → cell.vm.isStatics = false) (Exa.nostat E_a0) all0) S_A
      have S_H := own_stak K7 (allS (P := fun x => ∀ cell : Cell, (h0)[x]? = some cell → cell.vm.isStatics = false) (Exa.nostat E_a0) all0) S_H
      have S_L := own_stak K7 (allS (P := fun x => ∀ cell : Cell, (h0)[x]? = some cell → cell.vm.isStatics = false) (Exa.nostat E_a0) all0) S_L
      have E_a0 := E_a0.keep K7
      have V_a1 := V_a1.keep K7 (ninS (Ne.symm ne) nin0)
      have Zs8 := Nat.le_trans Z0 K7.1
      have Kp9 := (Keep.refl h0 [a0]).trans K7 (allS (Or.inl (List.mem_of_getElem? (i := 0) rfl)) all0)
      have Ec7 := CS7.1
      refine Go.tr (S' := T7.setTop (mkF m 9 #[vr a0, vr a1] [])) st7 ?_
      exact Go.ret0 X7 hx hlk Bd.returns (hb hby d2_9) (by exact ⟨rfl, N7, Kp9, CS7⟩) (by decide) (by decide)
    · by_cases hc10 : (255 : Int32) < c3
      · obtain ⟨_, _, ⟨T11, L11, k11, n11⟩, -, X11, ⟨Lc11, hQ11, l11, y11, z11⟩, st11⟩ := X0.specialBack hx (y := mN10) rfl hown (mvT hZ (ow hw 12 rfl)) (mvT hZ (ow hw 13 rfl)) (mvT hZ (ow hw 15 rfl)) (by decide) (backOf (W := 0) (rmI5_4_2 l Z az hw [] a0 a1 (0 : Int32) (4 : Int32) zc fm k1 c1 c2 c3 c4 h0 n0 Z0 S_C hzc S_F hfm S_A S_H S_L E_a0 F_coder F_value g_a0 ne V_a1 rfl rfl y1 y2 y3 y4 hc2 hc6 hc10) hZ (ow hw 15 rfl) (ow hw 8 rfl) (by decide) (by decide)) (g := (mkF m 6 #[vr a0, vr a1] [.null, .int 4, .int 0, .ref a1, .ref a0])) rfl (by rw [hml]; rfl) (Steps.refl _) (a := a0) (argsL := [.ref a1, .int 0, .int 4, .null]) (rest := []) (lenOf pd_2 rfl) rfl (oW rfl rfl) (hb hby d2_6) (fun _ _ => ⟨rfl, e0, (by decide : 0 + 2 ≤ _), (by decide : 0 + 12 ≤ _)⟩)
        dsimp only [Pt.U, Pt.locs, Pt.cells, Pt.slots] at X11 l11 y11 z11 st11 hQ11
        subst l11 y11 z11
        obtain ⟨rfl, N11q, K11, CS11⟩ := hQ11
        have N11 := Fr.app N0 N11q
        have S_C := own_stak K11 (allS (P := fun x => ∀ cell : Cell, (h0)[x]? = some cell → cell.vm.isStatics = false) (Exa.nostat E_a0) all0) S_C
        have S_F := own_stak K11 (allS (P := fun x => ∀ cell : Cell, (h0)[x]? = some cell → cell.vm.isStatics = false) (Exa.nostat E_a0) all0) S_F
        have S_A := own_stak K11 (allS (P := fun x => ∀ cell : Cell, (h0)[x]? = some cell → cell.vm.isStatics = false) (Exa.nostat E_a0) all0) S_A
        have S_H := own_stak K11 (allS (P := fun x => ∀ cell : Cell, (h0)[x]? = some cell → cell.vm.isStatics = false) (Exa.nostat E_a0) all0) S_H
        have S_L := own_stak K11 (allS (P := fun x => ∀ cell : Cell, (h0)[x]? = some cell → cell.vm.isStatics = false) (Exa.nostat E_a0) all0) S_L
        have E_a0 := E_a0.keep K11
        have V_a1 := V_a1.keep K11 (ninS (Ne.symm ne) nin0)
        have Zs12 := Nat.le_trans Z0 K11.1
        have Kp13 := (Keep.refl h0 [a0]).trans K11 (allS (Or.inl (List.mem_of_getElem? (i := 0) rfl)) all0)
        have Ec11 := CS11.1
        refine Go.tr (S' := T11.setTop (mkF m 9 #[vr a0, vr a1] [])) st11 ?_
        exact Go.ret0 X11 hx hlk Bd.returns (hb hby d2_9) (by exact ⟨rfl, N11, Kp13, CS11⟩) (by decide) (by decide)
      · by_cases hc14 : (255 : Int32) < c4
        · obtain ⟨_, _, ⟨T15, L15, k15, n15⟩, -, X15, ⟨Lc15, hQ15, l15, y15, z15⟩, st15⟩ := X0.specialBack hx (y := mN10) rfl hown (mvT hZ (ow hw 12 rfl)) (mvT hZ (ow hw 13 rfl)) (mvT hZ (ow hw 15 rfl)) (by decide) (backOf (W := 0) (rmI5_4_3 l Z az hw [] a0 a1 (0 : Int32) (4 : Int32) zc fm k1 c1 c2 c3 c4 h0 n0 Z0 S_C hzc S_F hfm S_A S_H S_L E_a0 F_coder F_value g_a0 ne V_a1 rfl rfl y1 y2 y3 y4 hc2 hc6 hc10 hc14) hZ (ow hw 15 rfl) (ow hw 8 rfl) (by decide) (by decide)) (g := (mkF m 6 #[vr a0, vr a1] [.null, .int 4, .int 0, .ref a1, .ref a0])) rfl (by rw [hml]; rfl) (Steps.refl _) (a := a0) (argsL := [.ref a1, .int 0, .int 4, .null]) (rest := []) (lenOf pd_2 rfl) rfl (oW rfl rfl) (hb hby d2_6) (fun _ _ => ⟨rfl, e0, (by decide : 0 + 2 ≤ _), (by decide : 0 + 12 ≤ _)⟩)
          dsimp only [Pt.U, Pt.locs, Pt.cells, Pt.slots] at X15 l15 y15 z15 st15 hQ15
          subst l15 y15 z15
          obtain ⟨rfl, N15q, K15, CS15⟩ := hQ15
          have N15 := Fr.app N0 N15q
          have S_C := own_stak K15 (allS (P := fun x => ∀ cell : Cell, (h0)[x]? = some cell → cell.vm.isStatics = false) (Exa.nostat E_a0) all0) S_C
          have S_F := own_stak K15 (allS (P := fun x => ∀ cell : Cell, (h0)[x]? = some cell → cell.vm.isStatics = false) (Exa.nostat E_a0) all0) S_F
          have S_A := own_stak K15 (allS (P := fun x => ∀ cell : Cell, (h0)[x]? = some cell → cell.vm.isStatics = false) (Exa.nostat E_a0) all0) S_A
          have S_H := own_stak K15 (allS (P := fun x => ∀ cell : Cell, (h0)[x]? = some cell → cell.vm.isStatics = false) (Exa.nostat E_a0) all0) S_H
          have S_L := own_stak K15 (allS (P := fun x => ∀ cell : Cell, (h0)[x]? = some cell → cell.vm.isStatics = false) (Exa.nostat E_a0) all0) S_L
          have E_a0 := E_a0.keep K15
          have V_a1 := V_a1.keep K15 (ninS (Ne.symm ne) nin0)
          have Zs16 := Nat.le_trans Z0 K15.1
          have Kp17 := (Keep.refl h0 [a0]).trans K15 (allS (Or.inl (List.mem_of_getElem? (i := 0) rfl)) all0)
          have Ec15 := CS15.1
          refine Go.tr (S' := T15.setTop (mkF m 9 #[vr a0, vr a1] [])) st15 ?_
          exact Go.ret0 X15 hx hlk Bd.returns (hb hby d2_9) (by exact ⟨rfl, N15, Kp17, CS15⟩) (by decide) (by decide)
        · obtain ⟨_, _, ⟨T18, L18, k18, n18⟩, -, X18, ⟨Lc18, hQ18, l18, y18, z18⟩, st18⟩ := X0.specialBack hx (y := mN10) rfl hown (mvT hZ (ow hw 12 rfl)) (mvT hZ (ow hw 13 rfl)) (mvT hZ (ow hw 15 rfl)) (by decide) (backOf (W := 0) (rmI5_4_4 l Z az hw [] a0 a1 (0 : Int32) (4 : Int32) zc fm k1 c1 c2 c3 c4 h0 n0 Z0 S_C hzc S_F hfm S_A S_H S_L E_a0 F_coder F_value g_a0 ne V_a1 rfl rfl y1 y2 y3 y4 hc2 hc6 hc10 hc14) hZ (ow hw 15 rfl) (ow hw 8 rfl) (by decide) (by decide)) (g := (mkF m 6 #[vr a0, vr a1] [.null, .int 4, .int 0, .ref a1, .ref a0])) rfl (by rw [hml]; rfl) (Steps.refl _) (a := a0) (argsL := [.ref a1, .int 0, .int 4, .null]) (rest := []) (lenOf pd_2 rfl) rfl (oW rfl rfl) (hb hby d2_6) (fun _ _ => ⟨rfl, e0, (by decide : 0 + 2 ≤ _), (by decide : 0 + 12 ≤ _)⟩)
          dsimp only [Pt.U, Pt.locs, Pt.cells, Pt.slots] at X18 l18 y18 z18 st18 hQ18
          subst l18 y18 z18
          obtain ⟨rfl, N18q, K18, CS18⟩ := hQ18
          have N18 := Fr.app N0 N18q
          have S_C := own_stak K18 (allS (P := fun x => ∀ cell : Cell, (h0)[x]? = some cell → cell.vm.isStatics = false) (Exa.nostat E_a0) all0) S_C
          have S_F := own_stak K18 (allS (P := fun x => ∀ cell : Cell, (h0)[x]? = some cell → cell.vm.isStatics = false) (Exa.nostat E_a0) all0) S_F
          have S_A := own_stak K18 (allS (P := fun x => ∀ cell : Cell, (h0)[x]? = some cell → cell.vm.isStatics = false) (Exa.nostat E_a0) all0) S_A
          have S_H := own_stak K18 (allS (P := fun x => ∀ cell : Cell, (h0)[x]? = some cell → cell.vm.isStatics = false) (Exa.nostat E_a0) all0) S_H
          have S_L := own_stak K18 (allS (P := fun x => ∀ cell : Cell, (h0)[x]? = some cell → cell.vm.isStatics = false) (Exa.nostat E_a0) all0) S_L
          have E_a0 := E_a0.keep K18
          have V_a1 := V_a1.keep K18 (ninS (Ne.symm ne) nin0)
          have Zs19 := Nat.le_trans Z0 K18.1
          have Kp20 := (Keep.refl h0 [a0]).trans K18 (allS (Or.inl (List.mem_of_getElem? (i := 0) rfl)) all0)
          have Ec18 := CS18.1
          refine Go.tr (S' := T18.setTop (mkF m 9 #[vr a0, vr a1] [])) st18 ?_
          exact Go.ret0 X18 hx hlk Bd.returns (hb hby d2_9) (by exact ⟨rfl, N18, Kp20, CS18⟩) (by decide) (by decide)
section OwnWide
variable {p : Program} {l : Launch} {e : Env} {R : Room} {s : State} {m : MethodId} {args : Array Value} {below : List Frame} {meth : Method} {c : Code} {T : State} {locs : List Loc} {cells slots ck sk : Nat} {S S' t : State} {Q : Option Value → Heap → Vm → List Loc → Prop} {Z : State} {az : Array Value} {h : Heap} {vm0 vm1 : Vm}
/-- from S the run comes to a return of which Q is said; texts may have been booked meanwhile -/
def GoW (p : Program) (e : Env) (below : List Frame) (s : State) (Q : Option Value → Heap → Vm → List Loc → Prop) (ck sk : Nat) (S : State) : Prop :=
  ∃ s₂ o, Steps p.tables e below S s₂ ∧ s₂.status = .running ∧ Ended s₂ below o ∧ ∃ v L, o = .returned v ∧ Q v s₂.heap s₂.vm L ∧ ReturnedEndW s o s₂ L ck sk
theorem GoW.st (h : ∀ t, Steps p.tables e below S' t → Steps p.tables e below S t) (k : GoW p e below s Q ck sk S') : GoW p e below s Q ck sk S := by
  obtain ⟨s₂, o, h1, r⟩ := k
  exact ⟨s₂, o, h _ h1, r⟩
theorem GoW.tr (h : Steps p.tables e below S S') (k : GoW p e below s Q ck sk S') : GoW p e below s Q ck sk S := GoW.st (fun _ q => h.trans q) k
theorem own_endW {t : State} {o : Outcome} {L : List Loc} {k n k' n' : Nat} (h : ReturnedEndW s o t L k n) (hk : k ≤ k') (hn : n ≤ n') : ReturnedEndW s o t L k' n' := ⟨h.1, h.2.1, h.2.2.1, h.2.2.2.mono hk hn⟩
theorem GoW.retW {n : Nat} (X : Stand p l e R (s.setVm vm0) m args below meth c T locs cells slots) (hx : p.tables.exec = Jvm.exec) (hlk : meth.locks = false) (hS : s.Since vm0 n) (hk : n ≤ T.heap.size) {pc : Nat} {Ls : Array Slot} {w : Value} {ty : FieldType} {i : Instr} {rest : List Value} (hret : meth.sig.returnType = some ty) (hn : narrow ty w = w)
    (hi : (i = .ireturn ∧ (ty = .int ∨ ty = .boolean ∨ ty = .byte ∨ ty = .char ∨ ty = .short) ∧ ∃ z, w = .int z) ∨ (i = .lreturn ∧ ty = .long ∧ ∃ z, w = .long z) ∨ (i = .dreturn ∧ ty = .double ∧ ∃ z, w = .double z) ∨ (i = .freturn ∧ ty = .float ∧ ∃ z, w = .float z) ∨ (i = .areturn ∧ ty.isReference = true ∧ w.isRef = true))
    (hd : decode c.code pc = .ok (i, 1)) (hQ : Q (some w) T.heap T.vm locs) (hc : cells ≤ ck) (hs : slots ≤ sk) : GoW p e below s Q ck sk (T.setTop (mkF m pc Ls (w :: rest))) := by
  obtain ⟨fs, hr, hrun, hended, hW⟩ := X.leaveW hS hk (v := some w) (fun h => by rw [hret] at h; cases h)
  exact ⟨_, _, retOut X hx hret hn hi hd hr, hrun, hended, _, _, rfl, hQ, own_endW hW hc hs⟩
theorem GoW.retI {n : Nat} (X : Stand p l e R (s.setVm vm0) m args below meth c T locs cells slots) (hx : p.tables.exec = Jvm.exec) (hlk : meth.locks = false) (hS : s.Since vm0 n) (hk : n ≤ T.heap.size) {pc : Nat} {Ls : Array Slot} {z : Int32} {rest : List Value} (hret : meth.sig.returnType = some .int) (hd : decode c.code pc = .ok (.ireturn, 1)) (hQ : Q (some (.int z)) T.heap T.vm locs) (hc : cells ≤ ck) (hs : slots ≤ sk) : GoW p e below s Q ck sk (T.setTop (mkF m pc Ls (.int z :: rest))) :=
  GoW.retW X hx hlk hS hk hret rfl (Or.inl ⟨rfl, Or.inl rfl, _, rfl⟩) hd hQ hc hs
theorem GoW.retJ {n : Nat} (X : Stand p l e R (s.setVm vm0) m args below meth c T locs cells slots) (hx : p.tables.exec = Jvm.exec) (hlk : meth.locks = false) (hS : s.Since vm0 n) (hk : n ≤ T.heap.size) {pc : Nat} {Ls : Array Slot} {z : Int64} {rest : List Value} (hret : meth.sig.returnType = some .long) (hd : decode c.code pc = .ok (.lreturn, 1)) (hQ : Q (some (.long z)) T.heap T.vm locs) (hc : cells ≤ ck) (hs : slots ≤ sk) : GoW p e below s Q ck sk (T.setTop (mkF m pc Ls (.long z :: rest))) :=
  GoW.retW X hx hlk hS hk hret rfl (Or.inr (Or.inl ⟨rfl, rfl, _, rfl⟩)) hd hQ hc hs
theorem GoW.retA {n : Nat} (X : Stand p l e R (s.setVm vm0) m args below meth c T locs cells slots) (hx : p.tables.exec = Jvm.exec) (hlk : meth.locks = false) (hS : s.Since vm0 n) (hk : n ≤ T.heap.size) {pc : Nat} {Ls : Array Slot} {w : Value} {ty : FieldType} {rest : List Value} (hret : meth.sig.returnType = some ty) (ht : ty.isReference = true) (hw : w.isRef = true) (hd : decode c.code pc = .ok (.areturn, 1)) (hQ : Q (some w) T.heap T.vm locs) (hc : cells ≤ ck) (hs : slots ≤ sk) : GoW p e below s Q ck sk (T.setTop (mkF m pc Ls (w :: rest))) :=
  GoW.retW X hx hlk hS hk hret (by cases ty <;> first | (cases ht; done) | (cases w <;> first | rfl | cases hw)) (Or.inr (Or.inr (Or.inr (Or.inr ⟨rfl, ht, hw⟩)))) hd hQ hc hs
theorem GoW.retN {n : Nat} (X : Stand p l e R (s.setVm vm0) m args below meth c T locs cells slots) (hx : p.tables.exec = Jvm.exec) (hlk : meth.locks = false) (hS : s.Since vm0 n) (hk : n ≤ T.heap.size) {pc : Nat} {Ls : Array Slot} {z : Int32} {t : FieldType} {rest : List Value} (hret : meth.sig.returnType = some t) (ht : t = .boolean ∨ t = .byte ∨ t = .char ∨ t = .short) (hd : decode c.code pc = .ok (.ireturn, 1)) (hQ : Q (some (.int (nar t z))) T.heap T.vm locs) (hc : cells ≤ ck) (hs : slots ≤ sk) : GoW p e below s Q ck sk (T.setTop (mkF m pc Ls (.int z :: rest))) := by
  obtain ⟨fs, hr, hrun, hended, hW⟩ := X.leaveW hS hk (v := some (.int (nar t z))) (fun h => by rw [hret] at h; cases h)
  exact ⟨_, _, Jvm.RoadKit.retN X hx hret ht hd hr, hrun, hended, _, _, rfl, hQ, own_endW hW hc hs⟩
theorem GoW.ret0 {n : Nat} (X : Stand p l e R (s.setVm vm0) m args below meth c T locs cells slots) (hx : p.tables.exec = Jvm.exec) (hlk : meth.locks = false) (hS : s.Since vm0 n) (hk : n ≤ T.heap.size) {pc : Nat} {Ls : Array Slot} (hret : meth.sig.returnType = none) (hd : decode c.code pc = .ok (.return_, 1)) (hQ : Q none T.heap T.vm locs) (hc : cells ≤ ck) (hs : slots ≤ sk) : GoW p e below s Q ck sk (T.setTop (mkF m pc Ls [])) := by
  obtain ⟨fs, hr, hrun, hended, hW⟩ := X.leaveW hS hk (v := none) (fun _ => rfl)
  exact ⟨_, _, X.returnOut hx hret hd hr, hrun, hended, _, _, rfl, hQ, own_endW hW hc hs⟩
theorem own_backS {y : MethodName} {bytes : ByteArray} {maxL : Nat} {ret : Option FieldType} {rm : Room} {len W : Nat} {as' : Array Value} {P : Vm → Prop}
    (hM : MetFree l y (head1 [Cond.code y bytes maxL ret] rm) (fun a U => a = as' ∧ Z.Warmed39 U.vm ∧ U.heap = h ∧ P U.vm) (fun _ _ _ _ _ => True) (fun _ U o U' => ∃ v L, o = .returned v ∧ Q v U'.heap U'.vm L ∧ ReturnedEndW U o U' L rm.cells rm.slots))
    (hZ : Z.Warmed39 s.vm) (wc : (Cond.code y bytes maxL ret).before az Z = true) (wz : (Cond.initialized y.cls).before az Z = true) (hf : rm.frames + 1 ≤ R.frames) (hl : W + (maxL + 11) + rm.locals ≤ R.locals) :
    BackS l R p e below s args y len W (fun A a => a = as' ∧ A.U.heap = h ∧ P A.U.vm ∧ A.cells + rm.cells ≤ R.cells ∧ A.slots + rm.slots ≤ R.slots)
      (fun A _ v B => ∃ L, Q v B.U.heap B.U.vm L ∧ B.locs = A.locs ++ L ∧ B.cells = A.cells + rm.cells ∧ B.slots = A.slots + rm.slots) :=
  BackS.of_freeW (bytes := bytes) (maxL := maxL) (ret := ret) (E := fun _ _ o t L k n => k = rm.cells ∧ n = rm.slots ∧ ∃ v, o = .returned v ∧ Q v t.heap t.vm L) hM hf hl
    (fun m meth c A a Y hp => have hU : Z.Warmed39 A.U.vm := wtrans hZ Y.warmed
      ⟨by show (Cond.and _ .tt).before a A.U = true; rw [Cond.before_and, mv hU wc]; rfl, mv hU wc, mv hU wz, hp.2.2.2.1, hp.2.2.2.2⟩)
    (fun m meth c A a g mk Y hp => ⟨hp.1, wtrans hZ Y.warmed, hp.2.1, hp.2.2.1⟩) (fun _ _ _ _ _ _ _ _ _ => trivial)
    (fun _ _ _ _ ⟨v, L, h1, h2, h3⟩ => ⟨L, _, _, h3, rfl, rfl, v, h1, h2⟩)
    (fun m meth c A a g mk v t L k n Y hp _ _ ⟨e1, e2, v', e3, e4⟩ => by cases e3; subst e1 e2; exact ⟨L, e4, rfl, rfl, rfl⟩)
theorem own_ib {Ts : List String} (I : IB Z vm0 Ts) (hw : (s.setVm vm0).WarmedH vm1) : IB Z vm1 Ts := by
  obtain ⟨more, e, r⟩ := I
  exact ⟨more, (hw.interned_eq).trans e, r⟩
/-- the entry of the pool holds the object a -/
def LitV (Z : State) (vm : Vm) (own : String) (index : Nat) (a : Addr) : Prop := Lit (Z.setVm vm) own index a
theorem LitV.stays {own : String} {index : Nat} {a : Addr} (L : LitV Z vm0 own index a) (hw : (s.setVm vm0).Warmed39 vm1) : LitV Z vm1 own index a := Lit.stays (s := s) (vm0 := vm0) L hw
theorem own_frm {n k : Nat} {L : List Loc} (N : Fr n L) (h : k ≤ n) : Fr k L := fun y hy => Nat.le_trans h (N y hy)
theorem own_keepOld {n : Nat} (O : Old Z n h) : ∀ (b : Addr) (cl : Cell), Z.heap[b]? = some cl → h[b]? = some cl := O.2.2
theorem own_sinceM {n n' : Nat} (h : s.Since vm0 n) (q : n ≤ n') : s.Since vm0 n' := ⟨h.1, fun j p hj hp => ⟨(h.2 j p hj hp).1, Nat.lt_of_lt_of_le (h.2 j p hj hp).2 q⟩⟩
theorem own_chat {EL : List (String × Nat)} (hZ : Z.Warmed39 vm0) (hq : (s.setVm vm0).WarmedH vm1) (w : EW Z az EL) (H : CHv Z EL vm0 h) : CHr Z EL vm0 h vm1 h := by
  have q := CHv.later (h' := h) hZ (hW := (show (Wst Z vm0 h).Warmed39 vm1 from hq.wide)) w ⟨Nat.le_refl _, fun _ _ q => q⟩ (Or.inl hq.interned_eq) H
  exact ⟨q.1, Nat.le_refl _, q.2⟩
theorem own_hk {n : Nat} (eT : T.heap = h) (q : n ≤ h.size) : n ≤ T.heap.size := by rw [eT]; exact q
theorem own_extk {h' : Heap} (K : Keep h h' []) : Ext h h' := ⟨K.1, fun a c q => K.2.1 a c q (List.not_mem_nil)⟩
/-- what a law leaves -/
def LQW (n0 : Nat) (v : Option Value) (h : Heap) (vm : Vm) (L : List Loc) : Prop := v = some (.int 1) ∧ Fr n0 L
end OwnWide
theorem own_EW {Z : State} {az : Array Value} (hw : HW az Z) : EW Z az consts_1 := (EW.cons (text := "") (ow hw 19 rfl) (by decide) EW.nil)
theorem own_wS {Z : State} {az : Array Value} (hw : HW az Z) : ∀ d ∈ Bundle.stringAtoms, d.before az Z = true := by
  intro d hd
  simp only [Bundle.stringAtoms, Bundle.sN, List.mem_cons, List.not_mem_nil, or_false] at hd
  rcases hd with rfl | rfl | rfl | rfl | rfl | rfl | rfl
  · exact (ow hw 8 rfl)
  · exact (ow hw 7 rfl)
  · exact (ow hw 20 rfl)
  · exact (ow hw 21 rfl)
  · exact (ow hw 22 rfl)
  · exact (ow hw 23 rfl)
  · exact (ow hw 24 rfl)
def PCS (Z : State) (h0 : Heap) (a0 : Addr) (vm : Vm) : Prop := CHv Z consts_1 vm h0 ∧ Safe Z consts_1 vm h0 a0
def Q_in_0 (Z : State) (a0 : Addr) (h0 : Heap) (n0 : Nat) (v : Option Value) (h : Heap) (vm : Vm) (L : List Loc) : Prop := v = none ∧ Fr n0 L ∧ Keep h0 h [a0] ∧ CHv Z consts_1 vm h ∧ Exa Z h a0 "java/lang/String" ∧ tF0 Z h a0 (.int 0) ∧ ∃ (b : Addr) (k : ClassId), tF1 Z h a0 (.ref b) ∧ Arv Z h b k .byte 0 [] (.int 0)
theorem rmI5_0 (l : Launch) (Z : State) (az : Array Value) (hw : HW az Z) (ws : List Jvm.Cond) (a0 : Addr) (a1 : Addr) (p2 : Int32) (p3 : Int32) (k1 : ClassId) (h0 : Heap) (n0 : Nat) (Z0 : n0 ≤ h0.size) (E_a0 : Exa Z h0 a0 "java/lang/String") (F_coder : tF0 Z h0 a0 (.int 0)) (F_value : tF1 Z h0 a0 .null) (g_a0 : n0 ≤ a0) (ne : a0 ≠ a1) (V_a1 : Arv Z h0 a1 k1 .char 0 [] (.int 0)) (h2 : p2 = 0) (h3 : p3 = 0) :
    MetFree l mN10 (head1 (Jvm.Cond.code mN10 jdk_42_method_149_code 6 none :: ws) (rO 1 2 4 12)) (fun a U => a = #[(.ref a0), (.ref a1), (.int p2), (.int p3), .null] ∧ Z.Warmed39 U.vm ∧ U.heap = h0 ∧ (PCS Z h0 a0) U.vm) (fun _ _ _ _ _ => True) (fun _ U o U' => ∃ v L, o = .returned v ∧ (Q_in_0 Z a0 h0 n0) v U'.heap U'.vm L ∧ ReturnedEndW U o U' L (rO 1 2 4 12).cells (rO 1 2 4 12).slots) := by
  refine MetFree.of_bodySF (plainFor_of_name pn_1) hisR ?_
  intro p e s m args below meth c s₁ Bd hml0 hP hK
  obtain ⟨rfl, hZ, hh, Hc, Sf⟩ := hP
  have hx := Bd.exec
  have hby := Bd.bytes
  have hlk : meth.locks = false := Bd.notSynchronized
  have hml : c.maxLocals = 6 := hml0
  have hown : s.vm.findClass "java/lang/String" = some m.cls := findClass_of_methodNamed Bd.named
  have hnm := (name_of_methodNamed Bd.named Bd.method).1
  have X0 : Stand p l e (rO 1 2 4 12) s m #[(.ref a0), (.ref a1), (.int p2), (.int p3), .null] below meth c s₁ [] 0 0 := Stand.of_body Bd
  have X0 : Stand p l e (rO 1 2 4 12) (s.setVm s.vm) m #[(.ref a0), (.ref a1), (.int p2), (.int p3), .null] below meth c s₁ [] 0 0 := X0
  have e0 : s₁.heap = h0 := by rw [← hh, Bd.state]; rfl
  have hS : s.Since s.vm n0 := (State.WarmedH.refl s).since n0
  have hk : n0 ≤ h0.size := Z0
  have N0 := Fr.nil n0
  show GoW p e below s ((Q_in_0 Z a0 h0 n0)) (rO 1 2 4 12).cells (rO 1 2 4 12).slots (s₁.setTop (entryFrame m #[(.ref a0), (.ref a1), (.int p2), (.int p3), .null] 6))
  rw [ef_3n4 m a0 a1 p2 p3]
  subst h2 h3
  refine GoW.st (S' := s₁.setTop (mkF m 1 #[vr a0, vr a1, vi 0, vi 0, .val .null, .unset] [.ref a0])) (fun _ kk => XS.aloadN X0.here hx rfl (hb hby d3_0) rfl rfl kk) ?_
  obtain ⟨T1, X1, e1, st1⟩ := initO X0 hx hZ hown (ow hw 16 rfl) (ow hw 17 rfl) (ow hw 18 rfl) e0 (g := (mkF m 1 #[vr a0, vr a1, vi 0, vi 0, .val .null, .unset] [.ref a0])) rfl (by rw [hml]; rfl) rfl (hb hby d3_1) (by decide) (W := 0) (oW rfl rfl) (by decide)
  refine GoW.st (S' := T1.setTop (mkF m 9 #[vr a0, vr a1, vi 0, vi 0, .val .null, .unset] [.ref a0])) (fun _ kk => st1 _ (XS.iloadN X1.here hx rfl (hb hby d3_4) rfl (XS.ifNo X1.here hx rfl (hb hby d3_5) rfl ((if0 _ _).trans (teq (by decide : (0 : Int32) = (0 : Int32))).2) (XS.aloadN X1.here hx rfl (hb hby d3_8) rfl rfl kk)))) ?_
  obtain ⟨b2, T2, h2, k2, v2, c2, X2, e2, E2, hS2, hk2, hZ2, ho2, E_b2, FC_b2, FV_b2, V_v2, -, -, Cr2, Li_b2, Sn2, st2⟩ := ldcCH (s := s.setVm s.vm) (vm0 := s.vm) X1 hx hZ hown (ow hw 19 rfl) (own_wS hw) e1 ((State.WarmedH.refl _).since _) (Nat.le_refl _) (own_EW hw) (List.mem_of_getElem? (i := 0) rfl) Hc (vs := ([] : List Int32).map .int) (z := (0 : Int32)) ⟨by decide, by decide⟩ (by decide) (by decide) (g := (mkF m 9 #[vr a0, vr a1, vi 0, vi 0, .val .null, .unset] [.ref a0])) rfl (hb hby d3_9) (n := 0) (by decide) (by decide) (by decide : 0 + 2 ≤ _) (by decide : 0 + 4 ≤ _)
  have X2 : Stand p l e _ (s.setVm T2.vm) m _ below meth c T2 _ _ _ := X2
  have Li_b2 : LitV Z T2.vm "java/lang/String" 7 b2 := Li_b2
  have Sf := CHr.safe Cr2 E_a0.lt Sf
  have ne_a0_b2 := (Sn2 _ Sf).1
  have ne_a0_v2 := (Sn2 _ Sf).2
  have Hc := Cr2.1
  have E_a0 := E_a0.ext E2
  have F_coder := F_coder.ext E2
  have F_value := F_value.ext E2
  have V_a1 := V_a1.ext E2
  have Zs3 := Nat.le_trans Z0 E2.1
  have hk := Nat.le_trans hk E2.1
  have Kp4 := (Keep.refl h0 [a0]).ext E2
  have hS := hS.trans (own_sinceM hS2 hk2) hk
  have hk := Nat.le_refl h2.size
  have hZ := hZ2
  have hown := ho2
  refine GoW.st (S' := T2.setTop (mkF m 11 #[vr a0, vr a1, vi 0, vi 0, .val .null, .unset] [.ref b2, .ref a0])) st2 ?_
  obtain ⟨T5, X5, e5, st5⟩ := getF X2 hx hZ hown (host := "") (Or.inl (ow hw 25 rfl)) Via.refl e2 FV_b2 (g := (mkF m 11 #[vr a0, vr a1, vi 0, vi 0, .val .null, .unset] [.ref b2, .ref a0])) rfl rfl (hb hby d3_11)
  refine GoW.st (S' := T5.setTop (mkF m 14 #[vr a0, vr a1, vi 0, vi 0, .val .null, .unset] [.ref v2, .ref a0])) st5 ?_
  obtain ⟨T6, h6, X6, e6, W6, st6⟩ := putF X5 hx hZ hown (host := "") (Or.inl (ow hw 25 rfl)) Via.refl e5 F_value E_a0 (Or.inr ⟨(ow hw 21 rfl), rfl, hnm⟩) (ow hw 7 rfl) (ty := (.array .byte)) (by decide) rfl rfl (g := (mkF m 14 #[vr a0, vr a1, vi 0, vi 0, .val .null, .unset] [.ref v2, .ref a0])) rfl rfl (hb hby d3_14)
  have N6 := Fr.snoc X6 N0 g_a0
  have F_value := F_value.same W6
  have Sf' := Safe.wr W6 Sf Hc Sf
  have Hc := CHv.wr W6 Sf Hc
  have Sf := Sf'
  have E_a0 := E_a0.wr W6
  have F_coder := F_coder.other W6 (Or.inr (slot_ne (Or.inr (ow hw 22 rfl)) (Or.inr (ow hw 21 rfl)) (by decide) (t := .byte) (t' := (.array .byte)) (by decide) (by decide)))
  have V_a1 := V_a1.other W6 (Ne.symm ne)
  have E_b2 := E_b2.wr W6
  have FC_b2 := FC_b2.other W6 (Or.inl (Ne.symm ne_a0_b2))
  have FV_b2 := FV_b2.other W6 (Or.inl (Ne.symm ne_a0_b2))
  have V_v2 := V_v2.other W6 (Ne.symm ne_a0_v2)
  have Zs7 := Nat.le_trans Zs3 (Keep.of_wr W6).1
  have hk := Nat.le_trans hk (Keep.of_wr W6).1
  have Kp8 := Kp4.wr W6 (Or.inl (List.mem_of_getElem? (i := 0) rfl))
  refine GoW.st (S' := T6.setTop (mkF m 20 #[vr a0, vr a1, vi 0, vi 0, .val .null, .unset] [.ref b2, .ref a0])) (fun _ kk => st6 _ (XS.aloadN X6.here hx rfl (hb hby d3_17) rfl rfl (ldcAgain X6 hx hZ hown (ow hw 19 rfl) Li_b2 (g := (mkF m 18 #[vr a0, vr a1, vi 0, vi 0, .val .null, .unset] [.ref a0])) rfl (hb hby d3_18) _ kk))) ?_
  obtain ⟨T9, X9, e9, st9⟩ := getF X6 hx hZ hown (host := "") (Or.inl (ow hw 26 rfl)) Via.refl e6 FC_b2 (g := (mkF m 20 #[vr a0, vr a1, vi 0, vi 0, .val .null, .unset] [.ref b2, .ref a0])) rfl rfl (hb hby d3_20)
  refine GoW.st (S' := T9.setTop (mkF m 23 #[vr a0, vr a1, vi 0, vi 0, .val .null, .unset] [.int 0, .ref a0])) st9 ?_
  obtain ⟨T10, h10, X10, e10, W10, st10⟩ := putFN X9 hx hZ hown (ow hw 26 rfl) Via.refl e9 F_coder E_a0 (Or.inr ⟨(ow hw 22 rfl), rfl, hnm⟩) (ow hw 7 rfl) (ty := .byte) (v' := .int (nar .byte (0 : Int32))) (by decide) rfl (fits_nar_byte _) (g := (mkF m 23 #[vr a0, vr a1, vi 0, vi 0, .val .null, .unset] [.int 0, .ref a0])) rfl rfl (hb hby d3_23)
  have N10 := Fr.snoc X10 N6 g_a0
  have F_coder := F_coder.same W10
  have Sf' := Safe.wr W10 Sf Hc Sf
  have Hc := CHv.wr W10 Sf Hc
  have Sf := Sf'
  have E_a0 := E_a0.wr W10
  have F_value := F_value.other W10 (Or.inr (slot_ne (Or.inr (ow hw 21 rfl)) (Or.inr (ow hw 22 rfl)) (by decide) (t := (.array .byte)) (t' := .byte) (by decide) (by decide)))
  have V_a1 := V_a1.other W10 (Ne.symm ne)
  have E_b2 := E_b2.wr W10
  have FC_b2 := FC_b2.other W10 (Or.inl (Ne.symm ne_a0_b2))
  have FV_b2 := FV_b2.other W10 (Or.inl (Ne.symm ne_a0_b2))
  have V_v2 := V_v2.other W10 (Ne.symm ne_a0_v2)
  have Zs11 := Nat.le_trans Zs7 (Keep.of_wr W10).1
  have hk := Nat.le_trans hk (Keep.of_wr W10).1
  have Kp12 := Kp8.wr W10 (Or.inl (List.mem_of_getElem? (i := 0) rfl))
  refine GoW.st (S' := T10.setTop (mkF m 26 #[vr a0, vr a1, vi 0, vi 0, .val .null, .unset] [])) st10 ?_
  exact GoW.ret0 X10 hx hlk hS (own_hk e10 hk) Bd.returns (hb hby d3_26) (by rw [e10]; exact ⟨rfl, N10, Kp12, (own_chat hZ X10.warmed (own_EW hw) Hc).1, E_a0, F_coder, _, _, F_value, V_v2⟩) (by decide) (by decide)
theorem rmI1_0 (l : Launch) (Z : State) (az : Array Value) (hw : HW az Z) (ws : List Jvm.Cond) (a0 : Addr) (a1 : Addr) (k1 : ClassId) (h0 : Heap) (n0 : Nat) (Z0 : n0 ≤ h0.size) (E_a0 : Exa Z h0 a0 "java/lang/String") (F_coder : tF0 Z h0 a0 (.int 0)) (F_value : tF1 Z h0 a0 .null) (g_a0 : n0 ≤ a0) (ne : a0 ≠ a1) (V_a1 : Arv Z h0 a1 k1 .char 0 [] (.int 0)) :
    MetFree l mN9 (head1 (Jvm.Cond.code mN9 jdk_42_method_3_code 2 none :: ws) (rO 2 2 4 29)) (fun a U => a = #[(.ref a0), (.ref a1)] ∧ Z.Warmed39 U.vm ∧ U.heap = h0 ∧ (PCS Z h0 a0) U.vm) (fun _ _ _ _ _ => True) (fun _ U o U' => ∃ v L, o = .returned v ∧ (Q_in_0 Z a0 h0 n0) v U'.heap U'.vm L ∧ ReturnedEndW U o U' L (rO 2 2 4 29).cells (rO 2 2 4 29).slots) := by
  refine MetFree.of_bodySF (plainFor_of_name pn_1) hisR ?_
  intro p e s m args below meth c s₁ Bd hml0 hP hK
  obtain ⟨rfl, hZ, hh, Hc, Sf⟩ := hP
  have hx := Bd.exec
  have hby := Bd.bytes
  have hlk : meth.locks = false := Bd.notSynchronized
  have hml : c.maxLocals = 2 := hml0
  have hown : s.vm.findClass "java/lang/String" = some m.cls := findClass_of_methodNamed Bd.named
  have X0 : Stand p l e (rO 2 2 4 29) s m #[(.ref a0), (.ref a1)] below meth c s₁ [] 0 0 := Stand.of_body Bd
  have X0 : Stand p l e (rO 2 2 4 29) (s.setVm s.vm) m #[(.ref a0), (.ref a1)] below meth c s₁ [] 0 0 := X0
  have e0 : s₁.heap = h0 := by rw [← hh, Bd.state]; rfl
  have hS : s.Since s.vm n0 := (State.WarmedH.refl s).since n0
  have hk : n0 ≤ h0.size := Z0
  have N0 := Fr.nil n0
  show GoW p e below s ((Q_in_0 Z a0 h0 n0)) (rO 2 2 4 29).cells (rO 2 2 4 29).slots (s₁.setTop (entryFrame m #[(.ref a0), (.ref a1)] 2))
  rw [ef_2 m a0 a1]
  refine GoW.st (S' := s₁.setTop (mkF m 4 #[vr a0, vr a1] [.ref a1, .int 0, .ref a1, .ref a0])) (fun _ kk => XS.aloadN X0.here hx rfl (hb hby d2_0) rfl rfl (XS.aloadN X0.here hx rfl (hb hby d2_1) rfl rfl (XS.iconst X0.here hx rfl (hb hby d2_2) (XS.aloadN X0.here hx rfl (hb hby d2_3) rfl rfl kk)))) ?_
  obtain ⟨cl1, Ar1, -, S1, Ng1, -, -⟩ := (id V_a1)
  refine GoW.st (S' := s₁.setTop (mkF m 5 #[vr a0, vr a1] [.int 0, .int 0, .ref a1, .ref a0])) (fun _ kk => X0.arraylength hx (by rw [e0]; exact Ar1.1) (State.isArrayOf_alike hZ.alike Ar1.2.1) (g := (mkF m 4 #[vr a0, vr a1] [.ref a1, .int 0, .ref a1, .ref a0])) rfl rfl (hb hby d2_4) _ (by rw [len_of S1 Ng1]; exact kk)) ?_
  refine GoW.st (S' := s₁.setTop (mkF m 6 #[vr a0, vr a1] [.null, .int 0, .int 0, .ref a1, .ref a0])) (fun _ kk => XS.aconstNull X0.here hx rfl (hb hby d2_5) kk) ?_
  obtain ⟨_, _, ⟨T2, L2, k2, n2⟩, -, X2, hS2, hg2, ⟨Lc2, hQ2, l2, y2, z2⟩, st2⟩ := X0.specialBackS hx (y := mN10) rfl hown (mvT hZ (ow hw 12 rfl)) (mvT hZ (ow hw 13 rfl)) (mvT hZ (ow hw 15 rfl)) (by decide) (own_backS (W := 0) (P := PCS Z h0 a0) (rmI5_0 l Z az hw [] a0 a1 (0 : Int32) (0 : Int32) k1 h0 n0 Z0 E_a0 F_coder F_value g_a0 ne V_a1 rfl rfl) hZ (ow hw 15 rfl) (ow hw 8 rfl) (by decide) (by decide)) (g := (mkF m 6 #[vr a0, vr a1] [.null, .int 0, .int 0, .ref a1, .ref a0])) rfl (by rw [hml]; rfl) (Steps.refl _) (a := a0) (argsL := [.ref a1, .int 0, .int 0, .null]) (rest := []) (lenOf pd_2 rfl) rfl (oW rfl rfl) (hb hby d2_6) (fun vmq hvq => ⟨rfl, e0, ⟨(own_chat hZ hvq (own_EW hw) Hc).1, (own_chat hZ hvq (own_EW hw) Hc).safe E_a0.lt Sf⟩, (by decide : 0 + 2 ≤ _), (by decide : 0 + 4 ≤ _)⟩)
  dsimp only [Pt.U, Pt.locs, Pt.cells, Pt.slots] at X2 l2 y2 z2 st2 hQ2 hS2 hg2
  subst l2 y2 z2
  obtain ⟨X2, hS, hZ, hown⟩ := rebS hS (own_hk e0 hk) X2 hS2 hg2 hZ hown
  obtain ⟨rfl, N2q, K2, Hc2, Ec2, Fc2, d2, kd2, Fv2, V_d2⟩ := hQ2
  have N2 := Fr.app N0 N2q
  have E_a0 := E_a0.keep K2
  have V_a1 := V_a1.keep K2 (ninS (Ne.symm ne) nin0)
  have Zs3 := Nat.le_trans Z0 K2.1
  have hk := Nat.le_trans hk K2.1
  have Kp4 := (Keep.refl h0 [a0]).trans K2 (allS (Or.inl (List.mem_of_getElem? (i := 0) rfl)) all0)
  have Hc := Hc2
  have hk : T2.heap.size ≤ (T2.heap).size := Nat.le_of_eq (congrArg Array.size (show T2.heap = T2.heap from rfl))
  refine GoW.tr (S' := T2.setTop (mkF m 9 #[vr a0, vr a1] [])) st2 ?_
  exact GoW.ret0 X2 hx hlk hS (own_hk rfl hk) Bd.returns (hb hby d2_9) (by exact ⟨rfl, N2, Kp4, (own_chat hZ X2.warmed (own_EW hw) Hc).1, Ec2, Fc2, _, _, Fv2, V_d2⟩) (by decide) (by decide)
def fHS (p0 : Int32) : Int32 := (if p0 < (55296 : Int32) then (0 : Int32) else (if p0 < (56320 : Int32) then (1 : Int32) else (0 : Int32)))
theorem d20_0 : decode jdk_89_method_14_code 0 = .ok (.iload_n 0, 1) := by decide +kernel
theorem d20_1 : decode jdk_89_method_14_code 1 = .ok (.ldc 75, 2) := by decide +kernel
theorem d20_3 : decode jdk_89_method_14_code 3 = .ok (.if_icmp .lt 13, 3) := by decide +kernel
theorem d20_6 : decode jdk_89_method_14_code 6 = .ok (.iload_n 0, 1) := by decide +kernel
theorem d20_7 : decode jdk_89_method_14_code 7 = .ok (.ldc 76, 2) := by decide +kernel
theorem d20_9 : decode jdk_89_method_14_code 9 = .ok (.if_icmp .ge 7, 3) := by decide +kernel
theorem d20_12 : decode jdk_89_method_14_code 12 = .ok (.iconst 1, 1) := by decide +kernel
theorem d20_13 : decode jdk_89_method_14_code 13 = .ok (.goto 4, 3) := by decide +kernel
theorem d20_16 : decode jdk_89_method_14_code 16 = .ok (.iconst 0, 1) := by decide +kernel
theorem d20_17 : decode jdk_89_method_14_code 17 = .ok (.ireturn, 1) := by decide +kernel
theorem pn_4 : plainName "java/lang/Character" = true := by first | (simp [plainName, overriddenIn]; done) | decide +kernel
theorem ef_20 (m : MethodId) (p0 : Int32) : entryFrame m #[(.int p0)] 1 = mkF m 0 #[.val (.int p0)] [] := by first | (simp [entryFrame, mkF, argsToLocals, Value.category]; done) | rfl
theorem rmHS (l : Launch) (Z : State) (az : Array Value) (hw : HW az Z) (ws : List Jvm.Cond) (p0 : Int32)  (h0 : Heap) (n0 : Nat) (Z0 : n0 ≤ h0.size)  :
    MF l mN6 (Jvm.Cond.code mN6 jdk_89_method_14_code 1 (some .boolean) :: ws) (rO 0 0 0 0) #[(.int p0)] Z h0 (PQ (.int (fHS p0)) n0 h0) := by
  refine MetFree.of_bodySF (plainFor_of_name pn_4) hisR ?_
  intro p e s m args below meth c s₁ Bd hml0 hP hK
  obtain ⟨rfl, hZ, hh⟩ := hP
  have hx := Bd.exec
  have hby := Bd.bytes
  have hlk : meth.locks = false := Bd.notSynchronized
  have hml : c.maxLocals = 1 := hml0
  have hown : s.vm.findClass "java/lang/Character" = some m.cls := findClass_of_methodNamed Bd.named
  have X0 : Stand p l e (rO 0 0 0 0) s m #[(.int p0)] below meth c s₁ [] 0 0 := Stand.of_body Bd
  have e0 : s₁.heap = h0 := by rw [← hh, Bd.state]; rfl
  have N0 := Fr.nil n0
  show Go p e below s ((PQ (.int (fHS p0)) n0 h0)) (rO 0 0 0 0).cells (rO 0 0 0 0).slots (s₁.setTop (entryFrame m #[(.int p0)] 1))
  rw [ef_20 m p0]
  refine Go.st (S' := s₁.setTop (mkF m 3 #[vi p0] [.int 55296, .int p0])) (fun _ kk => XS.iloadN X0.here hx rfl (hb hby d20_0) rfl (X0.ldcInt hx hown (mvT hZ (ow hw 92 rfl)) (g := (mkF m 1 #[vi p0] [.int p0])) rfl (hb hby d20_1) _ kk)) ?_
  by_cases hc1 : p0 < (55296 : Int32)
  · refine Go.st (S' := s₁.setTop (mkF m 17 #[vi p0] [.int 0])) (fun _ kk => XS.icmpYes X0.here hx rfl (pc0 := 3) (pc' := 16) rfl (hb hby d20_3) rfl (tlt hc1).1 (by decide) (by decide) (XS.iconst X0.here hx rfl (hb hby d20_16) kk)) ?_
    exact Go.retN X0 hx hlk (t := .boolean) Bd.returns (by simp) (hb hby d20_17) (⟨congrArg (fun q => some (Value.int q)) (Eq.symm (show fHS p0 = (0 : Int32) from by unfold fHS; rw [if_pos hc1])), N0, e0⟩) (by decide) (by decide)
  · refine Go.st (S' := s₁.setTop (mkF m 9 #[vi p0] [.int 56320, .int p0])) (fun _ kk => XS.icmpNo X0.here hx rfl (hb hby d20_3) rfl (flt hc1).1 (XS.iloadN X0.here hx rfl (hb hby d20_6) rfl (X0.ldcInt hx hown (mvT hZ (ow hw 127 rfl)) (g := (mkF m 7 #[vi p0] [.int p0])) rfl (hb hby d20_7) _ kk))) ?_
    by_cases hc2 : p0 < (56320 : Int32)
    · refine Go.st (S' := s₁.setTop (mkF m 17 #[vi p0] [.int 1])) (fun _ kk => XS.icmpNo X0.here hx rfl (hb hby d20_9) rfl (tlt hc2).2.1 (XS.iconst X0.here hx rfl (hb hby d20_12) (XS.goto X0.here hx rfl (pc0 := 13) (pc' := 17) rfl (hb hby d20_13) (by decide) (by decide) kk))) ?_
      exact Go.retN X0 hx hlk (t := .boolean) Bd.returns (by simp) (hb hby d20_17) (⟨congrArg (fun q => some (Value.int q)) (Eq.symm (show fHS p0 = (1 : Int32) from by unfold fHS; rw [if_neg hc1, if_pos hc2])), N0, e0⟩) (by decide) (by decide)
    · refine Go.st (S' := s₁.setTop (mkF m 17 #[vi p0] [.int 0])) (fun _ kk => XS.icmpYes X0.here hx rfl (pc0 := 9) (pc' := 16) rfl (hb hby d20_9) rfl (flt hc2).2.1 (by decide) (by decide) (XS.iconst X0.here hx rfl (hb hby d20_16) kk)) ?_
      exact Go.retN X0 hx hlk (t := .boolean) Bd.returns (by simp) (hb hby d20_17) (⟨congrArg (fun q => some (Value.int q)) (Eq.symm (show fHS p0 = (0 : Int32) from by unfold fHS; rw [if_neg hc1, if_neg hc2])), N0, e0⟩) (by decide) (by decide)
def fLS (p0 : Int32) : Int32 := (if p0 < (56320 : Int32) then (0 : Int32) else (if p0 < (57344 : Int32) then (1 : Int32) else (0 : Int32)))
theorem d30_0 : decode jdk_89_method_15_code 0 = .ok (.iload_n 0, 1) := by decide +kernel
theorem d30_1 : decode jdk_89_method_15_code 1 = .ok (.ldc 76, 2) := by decide +kernel
theorem d30_3 : decode jdk_89_method_15_code 3 = .ok (.if_icmp .lt 13, 3) := by decide +kernel
theorem d30_6 : decode jdk_89_method_15_code 6 = .ok (.iload_n 0, 1) := by decide +kernel
theorem d30_7 : decode jdk_89_method_15_code 7 = .ok (.ldc 77, 2) := by decide +kernel
theorem d30_9 : decode jdk_89_method_15_code 9 = .ok (.if_icmp .ge 7, 3) := by decide +kernel
theorem d30_12 : decode jdk_89_method_15_code 12 = .ok (.iconst 1, 1) := by decide +kernel
theorem d30_13 : decode jdk_89_method_15_code 13 = .ok (.goto 4, 3) := by decide +kernel
theorem d30_16 : decode jdk_89_method_15_code 16 = .ok (.iconst 0, 1) := by decide +kernel
theorem d30_17 : decode jdk_89_method_15_code 17 = .ok (.ireturn, 1) := by decide +kernel
theorem ef_30 (m : MethodId) (p0 : Int32) : entryFrame m #[(.int p0)] 1 = mkF m 0 #[.val (.int p0)] [] := by first | (simp [entryFrame, mkF, argsToLocals, Value.category]; done) | rfl
theorem rmLS (l : Launch) (Z : State) (az : Array Value) (hw : HW az Z) (ws : List Jvm.Cond) (p0 : Int32)  (h0 : Heap) (n0 : Nat) (Z0 : n0 ≤ h0.size)  :
    MF l mN7 (Jvm.Cond.code mN7 jdk_89_method_15_code 1 (some .boolean) :: ws) (rO 0 0 0 0) #[(.int p0)] Z h0 (PQ (.int (fLS p0)) n0 h0) := by
  refine MetFree.of_bodySF (plainFor_of_name pn_4) hisR ?_
  intro p e s m args below meth c s₁ Bd hml0 hP hK
  obtain ⟨rfl, hZ, hh⟩ := hP
  have hx := Bd.exec
  have hby := Bd.bytes
  have hlk : meth.locks = false := Bd.notSynchronized
  have hml : c.maxLocals = 1 := hml0
  have hown : s.vm.findClass "java/lang/Character" = some m.cls := findClass_of_methodNamed Bd.named
  have X0 : Stand p l e (rO 0 0 0 0) s m #[(.int p0)] below meth c s₁ [] 0 0 := Stand.of_body Bd
  have e0 : s₁.heap = h0 := by rw [← hh, Bd.state]; rfl
  have N0 := Fr.nil n0
  show Go p e below s ((PQ (.int (fLS p0)) n0 h0)) (rO 0 0 0 0).cells (rO 0 0 0 0).slots (s₁.setTop (entryFrame m #[(.int p0)] 1))
  rw [ef_30 m p0]
  refine Go.st (S' := s₁.setTop (mkF m 3 #[vi p0] [.int 56320, .int p0])) (fun _ kk => XS.iloadN X0.here hx rfl (hb hby d30_0) rfl (X0.ldcInt hx hown (mvT hZ (ow hw 127 rfl)) (g := (mkF m 1 #[vi p0] [.int p0])) rfl (hb hby d30_1) _ kk)) ?_
  by_cases hc1 : p0 < (56320 : Int32)
  · refine Go.st (S' := s₁.setTop (mkF m 17 #[vi p0] [.int 0])) (fun _ kk => XS.icmpYes X0.here hx rfl (pc0 := 3) (pc' := 16) rfl (hb hby d30_3) rfl (tlt hc1).1 (by decide) (by decide) (XS.iconst X0.here hx rfl (hb hby d30_16) kk)) ?_
    exact Go.retN X0 hx hlk (t := .boolean) Bd.returns (by simp) (hb hby d30_17) (⟨congrArg (fun q => some (Value.int q)) (Eq.symm (show fLS p0 = (0 : Int32) from by unfold fLS; rw [if_pos hc1])), N0, e0⟩) (by decide) (by decide)
  · refine Go.st (S' := s₁.setTop (mkF m 9 #[vi p0] [.int 57344, .int p0])) (fun _ kk => XS.icmpNo X0.here hx rfl (hb hby d30_3) rfl (flt hc1).1 (XS.iloadN X0.here hx rfl (hb hby d30_6) rfl (X0.ldcInt hx hown (mvT hZ (ow hw 128 rfl)) (g := (mkF m 7 #[vi p0] [.int p0])) rfl (hb hby d30_7) _ kk))) ?_
    by_cases hc2 : p0 < (57344 : Int32)
    · refine Go.st (S' := s₁.setTop (mkF m 17 #[vi p0] [.int 1])) (fun _ kk => XS.icmpNo X0.here hx rfl (hb hby d30_9) rfl (tlt hc2).2.1 (XS.iconst X0.here hx rfl (hb hby d30_12) (XS.goto X0.here hx rfl (pc0 := 13) (pc' := 17) rfl (hb hby d30_13) (by decide) (by decide) kk))) ?_
      exact Go.retN X0 hx hlk (t := .boolean) Bd.returns (by simp) (hb hby d30_17) (⟨congrArg (fun q => some (Value.int q)) (Eq.symm (show fLS p0 = (1 : Int32) from by unfold fLS; rw [if_neg hc1, if_pos hc2])), N0, e0⟩) (by decide) (by decide)
    · refine Go.st (S' := s₁.setTop (mkF m 17 #[vi p0] [.int 0])) (fun _ kk => XS.icmpYes X0.here hx rfl (pc0 := 9) (pc' := 16) rfl (hb hby d30_9) rfl (flt hc2).2.1 (by decide) (by decide) (XS.iconst X0.here hx rfl (hb hby d30_16) kk)) ?_
      exact Go.retN X0 hx hlk (t := .boolean) Bd.returns (by simp) (hb hby d30_17) (⟨congrArg (fun q => some (Value.int q)) (Eq.symm (show fLS p0 = (0 : Int32) from by unfold fLS; rw [if_neg hc1, if_neg hc2])), N0, e0⟩) (by decide) (by decide)
def fSu (p0 : Int32) : Int32 := (if p0 < (55296 : Int32) then (0 : Int32) else (if p0 < (57344 : Int32) then (1 : Int32) else (0 : Int32)))
theorem d21_0 : decode jdk_89_method_16_code 0 = .ok (.iload_n 0, 1) := by decide +kernel
theorem d21_1 : decode jdk_89_method_16_code 1 = .ok (.ldc 75, 2) := by decide +kernel
theorem d21_3 : decode jdk_89_method_16_code 3 = .ok (.if_icmp .lt 13, 3) := by decide +kernel
theorem d21_6 : decode jdk_89_method_16_code 6 = .ok (.iload_n 0, 1) := by decide +kernel
theorem d21_7 : decode jdk_89_method_16_code 7 = .ok (.ldc 77, 2) := by decide +kernel
theorem d21_9 : decode jdk_89_method_16_code 9 = .ok (.if_icmp .ge 7, 3) := by decide +kernel
theorem d21_12 : decode jdk_89_method_16_code 12 = .ok (.iconst 1, 1) := by decide +kernel
theorem d21_13 : decode jdk_89_method_16_code 13 = .ok (.goto 4, 3) := by decide +kernel
theorem d21_16 : decode jdk_89_method_16_code 16 = .ok (.iconst 0, 1) := by decide +kernel
theorem d21_17 : decode jdk_89_method_16_code 17 = .ok (.ireturn, 1) := by decide +kernel
theorem ef_21 (m : MethodId) (p0 : Int32) : entryFrame m #[(.int p0)] 1 = mkF m 0 #[.val (.int p0)] [] := by first | (simp [entryFrame, mkF, argsToLocals, Value.category]; done) | rfl
theorem rmSu (l : Launch) (Z : State) (az : Array Value) (hw : HW az Z) (ws : List Jvm.Cond) (p0 : Int32)  (h0 : Heap) (n0 : Nat) (Z0 : n0 ≤ h0.size)  :
    MF l mN8 (Jvm.Cond.code mN8 jdk_89_method_16_code 1 (some .boolean) :: ws) (rO 0 0 0 0) #[(.int p0)] Z h0 (PQ (.int (fSu p0)) n0 h0) := by
  refine MetFree.of_bodySF (plainFor_of_name pn_4) hisR ?_
  intro p e s m args below meth c s₁ Bd hml0 hP hK
  obtain ⟨rfl, hZ, hh⟩ := hP
  have hx := Bd.exec
  have hby := Bd.bytes
  have hlk : meth.locks = false := Bd.notSynchronized
  have hml : c.maxLocals = 1 := hml0
  have hown : s.vm.findClass "java/lang/Character" = some m.cls := findClass_of_methodNamed Bd.named
  have X0 : Stand p l e (rO 0 0 0 0) s m #[(.int p0)] below meth c s₁ [] 0 0 := Stand.of_body Bd
  have e0 : s₁.heap = h0 := by rw [← hh, Bd.state]; rfl
  have N0 := Fr.nil n0
  show Go p e below s ((PQ (.int (fSu p0)) n0 h0)) (rO 0 0 0 0).cells (rO 0 0 0 0).slots (s₁.setTop (entryFrame m #[(.int p0)] 1))
  rw [ef_21 m p0]
  refine Go.st (S' := s₁.setTop (mkF m 3 #[vi p0] [.int 55296, .int p0])) (fun _ kk => XS.iloadN X0.here hx rfl (hb hby d21_0) rfl (X0.ldcInt hx hown (mvT hZ (ow hw 92 rfl)) (g := (mkF m 1 #[vi p0] [.int p0])) rfl (hb hby d21_1) _ kk)) ?_
  by_cases hc1 : p0 < (55296 : Int32)
  · refine Go.st (S' := s₁.setTop (mkF m 17 #[vi p0] [.int 0])) (fun _ kk => XS.icmpYes X0.here hx rfl (pc0 := 3) (pc' := 16) rfl (hb hby d21_3) rfl (tlt hc1).1 (by decide) (by decide) (XS.iconst X0.here hx rfl (hb hby d21_16) kk)) ?_
    exact Go.retN X0 hx hlk (t := .boolean) Bd.returns (by simp) (hb hby d21_17) (⟨congrArg (fun q => some (Value.int q)) (Eq.symm (show fSu p0 = (0 : Int32) from by unfold fSu; rw [if_pos hc1])), N0, e0⟩) (by decide) (by decide)
  · refine Go.st (S' := s₁.setTop (mkF m 9 #[vi p0] [.int 57344, .int p0])) (fun _ kk => XS.icmpNo X0.here hx rfl (hb hby d21_3) rfl (flt hc1).1 (XS.iloadN X0.here hx rfl (hb hby d21_6) rfl (X0.ldcInt hx hown (mvT hZ (ow hw 128 rfl)) (g := (mkF m 7 #[vi p0] [.int p0])) rfl (hb hby d21_7) _ kk))) ?_
    by_cases hc2 : p0 < (57344 : Int32)
    · refine Go.st (S' := s₁.setTop (mkF m 17 #[vi p0] [.int 1])) (fun _ kk => XS.icmpNo X0.here hx rfl (hb hby d21_9) rfl (tlt hc2).2.1 (XS.iconst X0.here hx rfl (hb hby d21_12) (XS.goto X0.here hx rfl (pc0 := 13) (pc' := 17) rfl (hb hby d21_13) (by decide) (by decide) kk))) ?_
      exact Go.retN X0 hx hlk (t := .boolean) Bd.returns (by simp) (hb hby d21_17) (⟨congrArg (fun q => some (Value.int q)) (Eq.symm (show fSu p0 = (1 : Int32) from by unfold fSu; rw [if_neg hc1, if_pos hc2])), N0, e0⟩) (by decide) (by decide)
    · refine Go.st (S' := s₁.setTop (mkF m 17 #[vi p0] [.int 0])) (fun _ kk => XS.icmpYes X0.here hx rfl (pc0 := 9) (pc' := 16) rfl (hb hby d21_9) rfl (flt hc2).2.1 (by decide) (by decide) (XS.iconst X0.here hx rfl (hb hby d21_16) kk)) ?_
      exact Go.retN X0 hx hlk (t := .boolean) Bd.returns (by simp) (hb hby d21_17) (⟨congrArg (fun q => some (Value.int q)) (Eq.symm (show fSu p0 = (0 : Int32) from by unfold fSu; rw [if_neg hc1, if_neg hc2])), N0, e0⟩) (by decide) (by decide)
def fHi (p0 : Int32) : Int32 := (if p0 < (55296 : Int32) then (0 : Int32) else (if (56319 : Int32) < p0 then (0 : Int32) else (1 : Int32)))
theorem d12_0 : decode method_3_code 0 = .ok (.iload_n 0, 1) := by decide +kernel
theorem d12_1 : decode method_3_code 1 = .ok (.ldc 7, 2) := by decide +kernel
theorem d12_3 : decode method_3_code 3 = .ok (.if_icmp .lt 13, 3) := by decide +kernel
theorem d12_6 : decode method_3_code 6 = .ok (.iload_n 0, 1) := by decide +kernel
theorem d12_7 : decode method_3_code 7 = .ok (.ldc 8, 2) := by decide +kernel
theorem d12_9 : decode method_3_code 9 = .ok (.if_icmp .gt 7, 3) := by decide +kernel
theorem d12_12 : decode method_3_code 12 = .ok (.iconst 1, 1) := by decide +kernel
theorem d12_13 : decode method_3_code 13 = .ok (.goto 4, 3) := by decide +kernel
theorem d12_16 : decode method_3_code 16 = .ok (.iconst 0, 1) := by decide +kernel
theorem d12_17 : decode method_3_code 17 = .ok (.ireturn, 1) := by decide +kernel
theorem pn_5 : plainName "com/example/winj/winj/storage/Utf8EncodesPinLaw" = true := by first | (simp [plainName, overriddenIn]; done) | decide +kernel
theorem ef_12 (m : MethodId) (p0 : Int32) : entryFrame m #[(.int p0)] 1 = mkF m 0 #[.val (.int p0)] [] := by first | (simp [entryFrame, mkF, argsToLocals, Value.category]; done) | rfl
theorem rmHi (l : Launch) (Z : State) (az : Array Value) (hw : HW az Z) (ws : List Jvm.Cond) (p0 : Int32)  (h0 : Heap) (n0 : Nat) (Z0 : n0 ≤ h0.size)  :
    MF l mN3 (Jvm.Cond.code mN3 method_3_code 1 (some .boolean) :: ws) (rO 0 0 0 0) #[(.int p0)] Z h0 (PQ (.int (fHi p0)) n0 h0) := by
  refine MetFree.of_bodySF (plainFor_of_name pn_5) hisR ?_
  intro p e s m args below meth c s₁ Bd hml0 hP hK
  obtain ⟨rfl, hZ, hh⟩ := hP
  have hx := Bd.exec
  have hby := Bd.bytes
  have hlk : meth.locks = false := Bd.notSynchronized
  have hml : c.maxLocals = 1 := hml0
  have hown : s.vm.findClass "com/example/winj/winj/storage/Utf8EncodesPinLaw" = some m.cls := findClass_of_methodNamed Bd.named
  have X0 : Stand p l e (rO 0 0 0 0) s m #[(.int p0)] below meth c s₁ [] 0 0 := Stand.of_body Bd
  have e0 : s₁.heap = h0 := by rw [← hh, Bd.state]; rfl
  have N0 := Fr.nil n0
  show Go p e below s ((PQ (.int (fHi p0)) n0 h0)) (rO 0 0 0 0).cells (rO 0 0 0 0).slots (s₁.setTop (entryFrame m #[(.int p0)] 1))
  rw [ef_12 m p0]
  refine Go.st (S' := s₁.setTop (mkF m 3 #[vi p0] [.int 55296, .int p0])) (fun _ kk => XS.iloadN X0.here hx rfl (hb hby d12_0) rfl (X0.ldcInt hx hown (mvT hZ (ow hw 58 rfl)) (g := (mkF m 1 #[vi p0] [.int p0])) rfl (hb hby d12_1) _ kk)) ?_
  by_cases hc1 : p0 < (55296 : Int32)
  · refine Go.st (S' := s₁.setTop (mkF m 17 #[vi p0] [.int 0])) (fun _ kk => XS.icmpYes X0.here hx rfl (pc0 := 3) (pc' := 16) rfl (hb hby d12_3) rfl (tlt hc1).1 (by decide) (by decide) (XS.iconst X0.here hx rfl (hb hby d12_16) kk)) ?_
    exact Go.retN X0 hx hlk (t := .boolean) Bd.returns (by simp) (hb hby d12_17) (⟨congrArg (fun q => some (Value.int q)) (Eq.symm (show fHi p0 = (0 : Int32) from by unfold fHi; rw [if_pos hc1])), N0, e0⟩) (by decide) (by decide)
  · refine Go.st (S' := s₁.setTop (mkF m 9 #[vi p0] [.int 56319, .int p0])) (fun _ kk => XS.icmpNo X0.here hx rfl (hb hby d12_3) rfl (flt hc1).1 (XS.iloadN X0.here hx rfl (hb hby d12_6) rfl (X0.ldcInt hx hown (mvT hZ (ow hw 115 rfl)) (g := (mkF m 7 #[vi p0] [.int p0])) rfl (hb hby d12_7) _ kk))) ?_
    by_cases hc2 : (56319 : Int32) < p0
    · refine Go.st (S' := s₁.setTop (mkF m 17 #[vi p0] [.int 0])) (fun _ kk => XS.icmpYes X0.here hx rfl (pc0 := 9) (pc' := 16) rfl (hb hby d12_9) rfl (tlt hc2).2.2.1 (by decide) (by decide) (XS.iconst X0.here hx rfl (hb hby d12_16) kk)) ?_
      exact Go.retN X0 hx hlk (t := .boolean) Bd.returns (by simp) (hb hby d12_17) (⟨congrArg (fun q => some (Value.int q)) (Eq.symm (show fHi p0 = (0 : Int32) from by unfold fHi; rw [if_neg hc1, if_pos hc2])), N0, e0⟩) (by decide) (by decide)
    · refine Go.st (S' := s₁.setTop (mkF m 17 #[vi p0] [.int 1])) (fun _ kk => XS.icmpNo X0.here hx rfl (hb hby d12_9) rfl (flt hc2).2.2.1 (XS.iconst X0.here hx rfl (hb hby d12_12) (XS.goto X0.here hx rfl (pc0 := 13) (pc' := 17) rfl (hb hby d12_13) (by decide) (by decide) kk))) ?_
      exact Go.retN X0 hx hlk (t := .boolean) Bd.returns (by simp) (hb hby d12_17) (⟨congrArg (fun q => some (Value.int q)) (Eq.symm (show fHi p0 = (1 : Int32) from by unfold fHi; rw [if_neg hc1, if_neg hc2])), N0, e0⟩) (by decide) (by decide)
def fLo (p0 : Int32) : Int32 := (if p0 < (56320 : Int32) then (0 : Int32) else (if (57343 : Int32) < p0 then (0 : Int32) else (1 : Int32)))
theorem d13_0 : decode method_4_code 0 = .ok (.iload_n 0, 1) := by decide +kernel
theorem d13_1 : decode method_4_code 1 = .ok (.ldc 9, 2) := by decide +kernel
theorem d13_3 : decode method_4_code 3 = .ok (.if_icmp .lt 13, 3) := by decide +kernel
theorem d13_6 : decode method_4_code 6 = .ok (.iload_n 0, 1) := by decide +kernel
theorem d13_7 : decode method_4_code 7 = .ok (.ldc 10, 2) := by decide +kernel
theorem d13_9 : decode method_4_code 9 = .ok (.if_icmp .gt 7, 3) := by decide +kernel
theorem d13_12 : decode method_4_code 12 = .ok (.iconst 1, 1) := by decide +kernel
theorem d13_13 : decode method_4_code 13 = .ok (.goto 4, 3) := by decide +kernel
theorem d13_16 : decode method_4_code 16 = .ok (.iconst 0, 1) := by decide +kernel
theorem d13_17 : decode method_4_code 17 = .ok (.ireturn, 1) := by decide +kernel
theorem ef_13 (m : MethodId) (p0 : Int32) : entryFrame m #[(.int p0)] 1 = mkF m 0 #[.val (.int p0)] [] := by first | (simp [entryFrame, mkF, argsToLocals, Value.category]; done) | rfl
theorem rmLo (l : Launch) (Z : State) (az : Array Value) (hw : HW az Z) (ws : List Jvm.Cond) (p0 : Int32)  (h0 : Heap) (n0 : Nat) (Z0 : n0 ≤ h0.size)  :
    MF l mN4 (Jvm.Cond.code mN4 method_4_code 1 (some .boolean) :: ws) (rO 0 0 0 0) #[(.int p0)] Z h0 (PQ (.int (fLo p0)) n0 h0) := by
  refine MetFree.of_bodySF (plainFor_of_name pn_5) hisR ?_
  intro p e s m args below meth c s₁ Bd hml0 hP hK
  obtain ⟨rfl, hZ, hh⟩ := hP
  have hx := Bd.exec
  have hby := Bd.bytes
  have hlk : meth.locks = false := Bd.notSynchronized
  have hml : c.maxLocals = 1 := hml0
  have hown : s.vm.findClass "com/example/winj/winj/storage/Utf8EncodesPinLaw" = some m.cls := findClass_of_methodNamed Bd.named
  have X0 : Stand p l e (rO 0 0 0 0) s m #[(.int p0)] below meth c s₁ [] 0 0 := Stand.of_body Bd
  have e0 : s₁.heap = h0 := by rw [← hh, Bd.state]; rfl
  have N0 := Fr.nil n0
  show Go p e below s ((PQ (.int (fLo p0)) n0 h0)) (rO 0 0 0 0).cells (rO 0 0 0 0).slots (s₁.setTop (entryFrame m #[(.int p0)] 1))
  rw [ef_13 m p0]
  refine Go.st (S' := s₁.setTop (mkF m 3 #[vi p0] [.int 56320, .int p0])) (fun _ kk => XS.iloadN X0.here hx rfl (hb hby d13_0) rfl (X0.ldcInt hx hown (mvT hZ (ow hw 62 rfl)) (g := (mkF m 1 #[vi p0] [.int p0])) rfl (hb hby d13_1) _ kk)) ?_
  by_cases hc1 : p0 < (56320 : Int32)
  · refine Go.st (S' := s₁.setTop (mkF m 17 #[vi p0] [.int 0])) (fun _ kk => XS.icmpYes X0.here hx rfl (pc0 := 3) (pc' := 16) rfl (hb hby d13_3) rfl (tlt hc1).1 (by decide) (by decide) (XS.iconst X0.here hx rfl (hb hby d13_16) kk)) ?_
    exact Go.retN X0 hx hlk (t := .boolean) Bd.returns (by simp) (hb hby d13_17) (⟨congrArg (fun q => some (Value.int q)) (Eq.symm (show fLo p0 = (0 : Int32) from by unfold fLo; rw [if_pos hc1])), N0, e0⟩) (by decide) (by decide)
  · refine Go.st (S' := s₁.setTop (mkF m 9 #[vi p0] [.int 57343, .int p0])) (fun _ kk => XS.icmpNo X0.here hx rfl (hb hby d13_3) rfl (flt hc1).1 (XS.iloadN X0.here hx rfl (hb hby d13_6) rfl (X0.ldcInt hx hown (mvT hZ (ow hw 116 rfl)) (g := (mkF m 7 #[vi p0] [.int p0])) rfl (hb hby d13_7) _ kk))) ?_
    by_cases hc2 : (57343 : Int32) < p0
    · refine Go.st (S' := s₁.setTop (mkF m 17 #[vi p0] [.int 0])) (fun _ kk => XS.icmpYes X0.here hx rfl (pc0 := 9) (pc' := 16) rfl (hb hby d13_9) rfl (tlt hc2).2.2.1 (by decide) (by decide) (XS.iconst X0.here hx rfl (hb hby d13_16) kk)) ?_
      exact Go.retN X0 hx hlk (t := .boolean) Bd.returns (by simp) (hb hby d13_17) (⟨congrArg (fun q => some (Value.int q)) (Eq.symm (show fLo p0 = (0 : Int32) from by unfold fLo; rw [if_neg hc1, if_pos hc2])), N0, e0⟩) (by decide) (by decide)
    · refine Go.st (S' := s₁.setTop (mkF m 17 #[vi p0] [.int 1])) (fun _ kk => XS.icmpNo X0.here hx rfl (hb hby d13_9) rfl (flt hc2).2.2.1 (XS.iconst X0.here hx rfl (hb hby d13_12) (XS.goto X0.here hx rfl (pc0 := 13) (pc' := 17) rfl (hb hby d13_13) (by decide) (by decide) kk))) ?_
      exact Go.retN X0 hx hlk (t := .boolean) Bd.returns (by simp) (hb hby d13_17) (⟨congrArg (fun q => some (Value.int q)) (Eq.symm (show fLo p0 = (1 : Int32) from by unfold fLo; rw [if_neg hc1, if_neg hc2])), N0, e0⟩) (by decide) (by decide)
def fU (p0 : Int32) (p1 : Int32) (p2 : Int32) (p3 : Int32) (p4 : Int32) : Int32 := (if (fHi p2) = (0 : Int32) then (if (fLo p2) = (0 : Int32) then (1 : Int32) else (if p1 = (0 : Int32) then (0 : Int32) else (if (fHi p0) = (0 : Int32) then (0 : Int32) else (1 : Int32)))) else (if p4 = (0 : Int32) then (0 : Int32) else (if (fLo p3) = (0 : Int32) then (0 : Int32) else (1 : Int32))))
theorem d11_0 : decode method_5_code 0 = .ok (.iload_n 2, 1) := by decide +kernel
theorem d11_1 : decode method_5_code 1 = .ok (.invokestatic 11, 3) := by decide +kernel
theorem d11_4 : decode method_5_code 4 = .ok (.ifCond .eq 21, 3) := by decide +kernel
theorem d11_7 : decode method_5_code 7 = .ok (.iload 4, 2) := by decide +kernel
theorem d11_9 : decode method_5_code 9 = .ok (.ifCond .eq 14, 3) := by decide +kernel
theorem d11_12 : decode method_5_code 12 = .ok (.iload_n 3, 1) := by decide +kernel
theorem d11_13 : decode method_5_code 13 = .ok (.invokestatic 17, 3) := by decide +kernel
theorem d11_16 : decode method_5_code 16 = .ok (.ifCond .eq 7, 3) := by decide +kernel
theorem d11_19 : decode method_5_code 19 = .ok (.iconst 1, 1) := by decide +kernel
theorem d11_20 : decode method_5_code 20 = .ok (.goto 4, 3) := by decide +kernel
theorem d11_23 : decode method_5_code 23 = .ok (.iconst 0, 1) := by decide +kernel
theorem d11_24 : decode method_5_code 24 = .ok (.ireturn, 1) := by decide +kernel
theorem d11_25 : decode method_5_code 25 = .ok (.iload_n 2, 1) := by decide +kernel
theorem d11_26 : decode method_5_code 26 = .ok (.invokestatic 17, 3) := by decide +kernel
theorem d11_29 : decode method_5_code 29 = .ok (.ifCond .eq 20, 3) := by decide +kernel
theorem d11_32 : decode method_5_code 32 = .ok (.iload_n 1, 1) := by decide +kernel
theorem d11_33 : decode method_5_code 33 = .ok (.ifCond .eq 14, 3) := by decide +kernel
theorem d11_36 : decode method_5_code 36 = .ok (.iload_n 0, 1) := by decide +kernel
theorem d11_37 : decode method_5_code 37 = .ok (.invokestatic 11, 3) := by decide +kernel
theorem d11_40 : decode method_5_code 40 = .ok (.ifCond .eq 7, 3) := by decide +kernel
theorem d11_43 : decode method_5_code 43 = .ok (.iconst 1, 1) := by decide +kernel
theorem d11_44 : decode method_5_code 44 = .ok (.goto 4, 3) := by decide +kernel
theorem d11_47 : decode method_5_code 47 = .ok (.iconst 0, 1) := by decide +kernel
theorem d11_48 : decode method_5_code 48 = .ok (.ireturn, 1) := by decide +kernel
theorem d11_49 : decode method_5_code 49 = .ok (.iconst 1, 1) := by decide +kernel
theorem d11_50 : decode method_5_code 50 = .ok (.ireturn, 1) := by decide +kernel
theorem ef_11 (m : MethodId) (p0 : Int32) (p1 : Int32) (p2 : Int32) (p3 : Int32) (p4 : Int32) : entryFrame m #[(.int p0), (.int p1), (.int p2), (.int p3), (.int p4)] 5 = mkF m 0 #[.val (.int p0), .val (.int p1), .val (.int p2), .val (.int p3), .val (.int p4)] [] := by first | (simp [entryFrame, mkF, argsToLocals, Value.category]; done) | rfl
theorem rmU (l : Launch) (Z : State) (az : Array Value) (hw : HW az Z) (ws : List Jvm.Cond) (p0 : Int32) (p1 : Int32) (p2 : Int32) (p3 : Int32) (p4 : Int32)  (h0 : Heap) (n0 : Nat) (Z0 : n0 ≤ h0.size)  :
    MF l mN5 (Jvm.Cond.code mN5 method_5_code 5 (some .boolean) :: ws) (rO 1 0 0 12) #[(.int p0), (.int p1), (.int p2), (.int p3), (.int p4)] Z h0 (PQ (.int (fU p0 p1 p2 p3 p4)) n0 h0) := by
  refine MetFree.of_bodySF (plainFor_of_name pn_5) hisR ?_
  intro p e s m args below meth c s₁ Bd hml0 hP hK
  obtain ⟨rfl, hZ, hh⟩ := hP
  have hx := Bd.exec
  have hby := Bd.bytes
  have hlk : meth.locks = false := Bd.notSynchronized
  have hml : c.maxLocals = 5 := hml0
  have hown : s.vm.findClass "com/example/winj/winj/storage/Utf8EncodesPinLaw" = some m.cls := findClass_of_methodNamed Bd.named
  have X0 : Stand p l e (rO 1 0 0 12) s m #[(.int p0), (.int p1), (.int p2), (.int p3), (.int p4)] below meth c s₁ [] 0 0 := Stand.of_body Bd
  have e0 : s₁.heap = h0 := by rw [← hh, Bd.state]; rfl
  have N0 := Fr.nil n0
  show Go p e below s ((PQ (.int (fU p0 p1 p2 p3 p4)) n0 h0)) (rO 1 0 0 12).cells (rO 1 0 0 12).slots (s₁.setTop (entryFrame m #[(.int p0), (.int p1), (.int p2), (.int p3), (.int p4)] 5))
  rw [ef_11 m p0 p1 p2 p3 p4]
  refine Go.st (S' := s₁.setTop (mkF m 1 #[vi p0, vi p1, vi p2, vi p3, vi p4] [.int p2])) (fun _ kk => XS.iloadN X0.here hx rfl (hb hby d11_0) rfl kk) ?_
  obtain ⟨_, _, ⟨T1, L1, k1, n1⟩, -, X1, ⟨Lc1, hQ1, l1, y1, z1⟩, st1⟩ := Jvm.LawKit.callS X0 hx (y := mN3) hown (mvT hZ (ow hw 55 rfl)) (mvT hZ (ow hw 56 rfl)) (mvT hZ (ow hw 3 rfl)) (mvT hZ (ow hw 57 rfl)) (by decide) (backOf (W := 0) (rmHi l Z az hw [] p2  h0 n0 Z0 ) hZ (ow hw 57 rfl) (ow hw 3 rfl) (by decide) (by decide)) (g := (mkF m 1 #[vi p0, vi p1, vi p2, vi p3, vi p4] [.int p2])) rfl (by rw [hml]; rfl) (argsL := [.int p2]) (rest := []) (lenOf pd_11 rfl) rfl (oW rfl rfl) (hb hby d11_1) (fun _ _ => ⟨rfl, e0, (by decide : 0 + 0 ≤ _), (by decide : 0 + 0 ≤ _)⟩)
  dsimp only [Pt.U, Pt.locs, Pt.cells, Pt.slots] at X1 l1 y1 z1 st1 hQ1
  subst l1 y1 z1
  obtain ⟨hv1, N1q, e1⟩ := hQ1
  subst hv1
  have N1 := Fr.app N0 N1q
  refine Go.st (S' := T1.setTop (mkF m 4 #[vi p0, vi p1, vi p2, vi p3, vi p4] [.int (fHi p2)])) st1 ?_
  by_cases hc2 : (fHi p2) = (0 : Int32)
  · refine Go.st (S' := T1.setTop (mkF m 26 #[vi p0, vi p1, vi p2, vi p3, vi p4] [.int p2])) (fun _ kk => XS.ifYes X1.here hx rfl (pc0 := 4) (pc' := 25) rfl (hb hby d11_4) rfl ((if0 _ _).trans (teq hc2).1) (by decide) (by decide) (XS.iloadN X1.here hx rfl (hb hby d11_25) rfl kk)) ?_
    obtain ⟨_, _, ⟨T3, L3, k3, n3⟩, -, X3, ⟨Lc3, hQ3, l3, y3, z3⟩, st3⟩ := Jvm.LawKit.callS X1 hx (y := mN4) hown (mvT hZ (ow hw 59 rfl)) (mvT hZ (ow hw 60 rfl)) (mvT hZ (ow hw 3 rfl)) (mvT hZ (ow hw 61 rfl)) (by decide) (backOf (W := 0) (rmLo l Z az hw [] p2  h0 n0 Z0 ) hZ (ow hw 61 rfl) (ow hw 3 rfl) (by decide) (by decide)) (g := (mkF m 26 #[vi p0, vi p1, vi p2, vi p3, vi p4] [.int p2])) rfl (by rw [hml]; rfl) (argsL := [.int p2]) (rest := []) (lenOf pd_11 rfl) rfl (oW rfl rfl) (hb hby d11_26) (fun _ _ => ⟨rfl, e1, (by decide : 0 + 0 ≤ _), (by decide : 0 + 0 ≤ _)⟩)
    dsimp only [Pt.U, Pt.locs, Pt.cells, Pt.slots] at X3 l3 y3 z3 st3 hQ3
    subst l3 y3 z3
    obtain ⟨hv3, N3q, e3⟩ := hQ3
    subst hv3
    have N3 := Fr.app N1 N3q
    refine Go.st (S' := T3.setTop (mkF m 29 #[vi p0, vi p1, vi p2, vi p3, vi p4] [.int (fLo p2)])) st3 ?_
    by_cases hc4 : (fLo p2) = (0 : Int32)
    · refine Go.st (S' := T3.setTop (mkF m 50 #[vi p0, vi p1, vi p2, vi p3, vi p4] [.int 1])) (fun _ kk => XS.ifYes X3.here hx rfl (pc0 := 29) (pc' := 49) rfl (hb hby d11_29) rfl ((if0 _ _).trans (teq hc4).1) (by decide) (by decide) (XS.iconst X3.here hx rfl (hb hby d11_49) kk)) ?_
      exact Go.retN X3 hx hlk (t := .boolean) Bd.returns (by simp) (hb hby d11_50) (⟨congrArg (fun q => some (Value.int q)) (Eq.symm (show fU p0 p1 p2 p3 p4 = (1 : Int32) from by unfold fU; rw [if_pos hc2, if_pos hc4])), N3, e3⟩) (by decide) (by decide)
    · refine Go.st (S' := T3.setTop (mkF m 33 #[vi p0, vi p1, vi p2, vi p3, vi p4] [.int p1])) (fun _ kk => XS.ifNo X3.here hx rfl (hb hby d11_29) rfl ((if0 _ _).trans (feq hc4).1) (XS.iloadN X3.here hx rfl (hb hby d11_32) rfl kk)) ?_
      by_cases hc5 : p1 = (0 : Int32)
      · refine Go.st (S' := T3.setTop (mkF m 48 #[vi p0, vi p1, vi p2, vi p3, vi p4] [.int 0])) (fun _ kk => XS.ifYes X3.here hx rfl (pc0 := 33) (pc' := 47) rfl (hb hby d11_33) rfl ((if0 _ _).trans (teq hc5).1) (by decide) (by decide) (XS.iconst X3.here hx rfl (hb hby d11_47) kk)) ?_
        exact Go.retN X3 hx hlk (t := .boolean) Bd.returns (by simp) (hb hby d11_48) (⟨congrArg (fun q => some (Value.int q)) (Eq.symm (show fU p0 p1 p2 p3 p4 = (0 : Int32) from by unfold fU; rw [if_pos hc2, if_neg hc4, if_pos hc5])), N3, e3⟩) (by decide) (by decide)
      · refine Go.st (S' := T3.setTop (mkF m 37 #[vi p0, vi p1, vi p2, vi p3, vi p4] [.int p0])) (fun _ kk => XS.ifNo X3.here hx rfl (hb hby d11_33) rfl ((if0 _ _).trans (feq hc5).1) (XS.iloadN X3.here hx rfl (hb hby d11_36) rfl kk)) ?_
        obtain ⟨_, _, ⟨T6, L6, k6, n6⟩, -, X6, ⟨Lc6, hQ6, l6, y6, z6⟩, st6⟩ := Jvm.LawKit.callS X3 hx (y := mN3) hown (mvT hZ (ow hw 55 rfl)) (mvT hZ (ow hw 56 rfl)) (mvT hZ (ow hw 3 rfl)) (mvT hZ (ow hw 57 rfl)) (by decide) (backOf (W := 0) (rmHi l Z az hw [] p0  h0 n0 Z0 ) hZ (ow hw 57 rfl) (ow hw 3 rfl) (by decide) (by decide)) (g := (mkF m 37 #[vi p0, vi p1, vi p2, vi p3, vi p4] [.int p0])) rfl (by rw [hml]; rfl) (argsL := [.int p0]) (rest := []) (lenOf pd_11 rfl) rfl (oW rfl rfl) (hb hby d11_37) (fun _ _ => ⟨rfl, e3, (by decide : 0 + 0 ≤ _), (by decide : 0 + 0 ≤ _)⟩)
        dsimp only [Pt.U, Pt.locs, Pt.cells, Pt.slots] at X6 l6 y6 z6 st6 hQ6
        subst l6 y6 z6
        obtain ⟨hv6, N6q, e6⟩ := hQ6
        subst hv6
        have N6 := Fr.app N3 N6q
        refine Go.st (S' := T6.setTop (mkF m 40 #[vi p0, vi p1, vi p2, vi p3, vi p4] [.int (fHi p0)])) st6 ?_
        by_cases hc7 : (fHi p0) = (0 : Int32)
        · refine Go.st (S' := T6.setTop (mkF m 48 #[vi p0, vi p1, vi p2, vi p3, vi p4] [.int 0])) (fun _ kk => XS.ifYes X6.here hx rfl (pc0 := 40) (pc' := 47) rfl (hb hby d11_40) rfl ((if0 _ _).trans (teq hc7).1) (by decide) (by decide) (XS.iconst X6.here hx rfl (hb hby d11_47) kk)) ?_
          exact Go.retN X6 hx hlk (t := .boolean) Bd.returns (by simp) (hb hby d11_48) (⟨congrArg (fun q => some (Value.int q)) (Eq.symm (show fU p0 p1 p2 p3 p4 = (0 : Int32) from by unfold fU; rw [if_pos hc2, if_neg hc4, if_neg hc5, if_pos hc7])), N6, e6⟩) (by decide) (by decide)
        · refine Go.st (S' := T6.setTop (mkF m 48 #[vi p0, vi p1, vi p2, vi p3, vi p4] [.int 1])) (fun _ kk => XS.ifNo X6.here hx rfl (hb hby d11_40) rfl ((if0 _ _).trans (feq hc7).1) (XS.iconst X6.here hx rfl (hb hby d11_43) (XS.goto X6.here hx rfl (pc0 := 44) (pc' := 48) rfl (hb hby d11_44) (by decide) (by decide) kk))) ?_
          exact Go.retN X6 hx hlk (t := .boolean) Bd.returns (by simp) (hb hby d11_48) (⟨congrArg (fun q => some (Value.int q)) (Eq.symm (show fU p0 p1 p2 p3 p4 = (1 : Int32) from by unfold fU; rw [if_pos hc2, if_neg hc4, if_neg hc5, if_neg hc7])), N6, e6⟩) (by decide) (by decide)
  · refine Go.st (S' := T1.setTop (mkF m 9 #[vi p0, vi p1, vi p2, vi p3, vi p4] [.int p4])) (fun _ kk => XS.ifNo X1.here hx rfl (hb hby d11_4) rfl ((if0 _ _).trans (feq hc2).1) (XS.iload X1.here hx rfl (hb hby d11_7) rfl kk)) ?_
    by_cases hc8 : p4 = (0 : Int32)
    · refine Go.st (S' := T1.setTop (mkF m 24 #[vi p0, vi p1, vi p2, vi p3, vi p4] [.int 0])) (fun _ kk => XS.ifYes X1.here hx rfl (pc0 := 9) (pc' := 23) rfl (hb hby d11_9) rfl ((if0 _ _).trans (teq hc8).1) (by decide) (by decide) (XS.iconst X1.here hx rfl (hb hby d11_23) kk)) ?_
      exact Go.retN X1 hx hlk (t := .boolean) Bd.returns (by simp) (hb hby d11_24) (⟨congrArg (fun q => some (Value.int q)) (Eq.symm (show fU p0 p1 p2 p3 p4 = (0 : Int32) from by unfold fU; rw [if_neg hc2, if_pos hc8])), N1, e1⟩) (by decide) (by decide)
    · refine Go.st (S' := T1.setTop (mkF m 13 #[vi p0, vi p1, vi p2, vi p3, vi p4] [.int p3])) (fun _ kk => XS.ifNo X1.here hx rfl (hb hby d11_9) rfl ((if0 _ _).trans (feq hc8).1) (XS.iloadN X1.here hx rfl (hb hby d11_12) rfl kk)) ?_
      obtain ⟨_, _, ⟨T9, L9, k9, n9⟩, -, X9, ⟨Lc9, hQ9, l9, y9, z9⟩, st9⟩ := Jvm.LawKit.callS X1 hx (y := mN4) hown (mvT hZ (ow hw 59 rfl)) (mvT hZ (ow hw 60 rfl)) (mvT hZ (ow hw 3 rfl)) (mvT hZ (ow hw 61 rfl)) (by decide) (backOf (W := 0) (rmLo l Z az hw [] p3  h0 n0 Z0 ) hZ (ow hw 61 rfl) (ow hw 3 rfl) (by decide) (by decide)) (g := (mkF m 13 #[vi p0, vi p1, vi p2, vi p3, vi p4] [.int p3])) rfl (by rw [hml]; rfl) (argsL := [.int p3]) (rest := []) (lenOf pd_11 rfl) rfl (oW rfl rfl) (hb hby d11_13) (fun _ _ => ⟨rfl, e1, (by decide : 0 + 0 ≤ _), (by decide : 0 + 0 ≤ _)⟩)
      dsimp only [Pt.U, Pt.locs, Pt.cells, Pt.slots] at X9 l9 y9 z9 st9 hQ9
      subst l9 y9 z9
      obtain ⟨hv9, N9q, e9⟩ := hQ9
      subst hv9
      have N9 := Fr.app N1 N9q
      refine Go.st (S' := T9.setTop (mkF m 16 #[vi p0, vi p1, vi p2, vi p3, vi p4] [.int (fLo p3)])) st9 ?_
      by_cases hc10 : (fLo p3) = (0 : Int32)
      · refine Go.st (S' := T9.setTop (mkF m 24 #[vi p0, vi p1, vi p2, vi p3, vi p4] [.int 0])) (fun _ kk => XS.ifYes X9.here hx rfl (pc0 := 16) (pc' := 23) rfl (hb hby d11_16) rfl ((if0 _ _).trans (teq hc10).1) (by decide) (by decide) (XS.iconst X9.here hx rfl (hb hby d11_23) kk)) ?_
        exact Go.retN X9 hx hlk (t := .boolean) Bd.returns (by simp) (hb hby d11_24) (⟨congrArg (fun q => some (Value.int q)) (Eq.symm (show fU p0 p1 p2 p3 p4 = (0 : Int32) from by unfold fU; rw [if_neg hc2, if_neg hc8, if_pos hc10])), N9, e9⟩) (by decide) (by decide)
      · refine Go.st (S' := T9.setTop (mkF m 24 #[vi p0, vi p1, vi p2, vi p3, vi p4] [.int 1])) (fun _ kk => XS.ifNo X9.here hx rfl (hb hby d11_16) rfl ((if0 _ _).trans (feq hc10).1) (XS.iconst X9.here hx rfl (hb hby d11_19) (XS.goto X9.here hx rfl (pc0 := 20) (pc' := 24) rfl (hb hby d11_20) (by decide) (by decide) kk))) ?_
        exact Go.retN X9 hx hlk (t := .boolean) Bd.returns (by simp) (hb hby d11_24) (⟨congrArg (fun q => some (Value.int q)) (Eq.symm (show fU p0 p1 p2 p3 p4 = (1 : Int32) from by unfold fU; rw [if_neg hc2, if_neg hc8, if_neg hc10])), N9, e9⟩) (by decide) (by decide)
theorem own_i1 {p ln : Int32} {n : Nat} (h : 0 ≤ p.toInt ∧ p.toInt < n) (hl : ln.toInt = n) (q : (p + (1 : Int32)) < ln) : 0 ≤ (p + (1 : Int32)).toInt ∧ (p + (1 : Int32)).toInt < n ∧ (p + (1 : Int32)).toInt = p.toInt + 1 := by
  have a := c_iadd p 1
  have b3 := (p + (1 : Int32)).le_toInt
  have b4 := (p + (1 : Int32)).toInt_lt
  have z := ln.toInt_lt
  rw [Int32.lt_iff_toInt_lt] at q
  simp only [Int.reducePow, Int.reduceNeg, Int32.reduceToInt] at *
  omega
theorem own_i1' {p ln : Int32} {n : Nat} (h : 0 ≤ p.toInt ∧ p.toInt < n) (hl : ln.toInt = n) : (p + (1 : Int32)).toInt = p.toInt + 1 := by
  have a := c_iadd p 1
  have b3 := (p + (1 : Int32)).le_toInt
  have b4 := (p + (1 : Int32)).toInt_lt
  have z := ln.toInt_lt
  simp only [Int.reducePow, Int.reduceNeg, Int32.reduceToInt] at *
  omega
theorem own_ixw {w ln : Int32} {i n : Nat} (hw : w.toInt = i) (hl : ln.toInt = n) (q : w < ln) : 0 ≤ w.toInt ∧ w.toInt < n := by
  rw [Int32.lt_iff_toInt_lt] at q; omega
def fPA (cs : List Int32) (ln p1 : Int32) : Int32 := (if (fHS (bt cs p1)) = (0 : Int32) then (0 : Int32) else (if (p1 + (1 : Int32)) < ln then (if (fLS (bt cs (p1 + (1 : Int32)))) = (0 : Int32) then (0 : Int32) else (1 : Int32)) else (0 : Int32)))
theorem d14_0 : decode prog_12_method_4_code 0 = .ok (.aload_n 0, 1) := by decide +kernel
theorem d14_1 : decode prog_12_method_4_code 1 = .ok (.iload_n 1, 1) := by decide +kernel
theorem d14_2 : decode prog_12_method_4_code 2 = .ok (.invokevirtual 19, 3) := by decide +kernel
theorem d14_5 : decode prog_12_method_4_code 5 = .ok (.invokestatic 35, 3) := by decide +kernel
theorem d14_8 : decode prog_12_method_4_code 8 = .ok (.ifCond .eq 30, 3) := by decide +kernel
theorem d14_11 : decode prog_12_method_4_code 11 = .ok (.iload_n 1, 1) := by decide +kernel
theorem d14_12 : decode prog_12_method_4_code 12 = .ok (.iconst 1, 1) := by decide +kernel
theorem d14_13 : decode prog_12_method_4_code 13 = .ok (.iadd, 1) := by decide +kernel
theorem d14_14 : decode prog_12_method_4_code 14 = .ok (.aload_n 0, 1) := by decide +kernel
theorem d14_15 : decode prog_12_method_4_code 15 = .ok (.invokevirtual 7, 3) := by decide +kernel
theorem d14_18 : decode prog_12_method_4_code 18 = .ok (.if_icmp .ge 20, 3) := by decide +kernel
theorem d14_21 : decode prog_12_method_4_code 21 = .ok (.aload_n 0, 1) := by decide +kernel
theorem d14_22 : decode prog_12_method_4_code 22 = .ok (.iload_n 1, 1) := by decide +kernel
theorem d14_23 : decode prog_12_method_4_code 23 = .ok (.iconst 1, 1) := by decide +kernel
theorem d14_24 : decode prog_12_method_4_code 24 = .ok (.iadd, 1) := by decide +kernel
theorem d14_25 : decode prog_12_method_4_code 25 = .ok (.invokevirtual 19, 3) := by decide +kernel
theorem d14_28 : decode prog_12_method_4_code 28 = .ok (.invokestatic 38, 3) := by decide +kernel
theorem d14_31 : decode prog_12_method_4_code 31 = .ok (.ifCond .eq 7, 3) := by decide +kernel
theorem d14_34 : decode prog_12_method_4_code 34 = .ok (.iconst 1, 1) := by decide +kernel
theorem d14_35 : decode prog_12_method_4_code 35 = .ok (.goto 4, 3) := by decide +kernel
theorem d14_38 : decode prog_12_method_4_code 38 = .ok (.iconst 0, 1) := by decide +kernel
theorem d14_39 : decode prog_12_method_4_code 39 = .ok (.ireturn, 1) := by decide +kernel
theorem pn_6 : plainName "com/example/winj/winj/storage/Utf8" = true := by first | (simp [plainName, overriddenIn]; done) | decide +kernel
theorem ef_14 (m : MethodId) (a0 : Addr) (p1 : Int32) : entryFrame m #[(.ref a0), (.int p1)] 2 = mkF m 0 #[.val (.ref a0), .val (.int p1)] [] := by first | (simp [entryFrame, mkF, argsToLocals, Value.category]; done) | rfl
theorem rmPA (l : Launch) (Z : State) (az : Array Value) (hw : HW az Z) (ws : List Jvm.Cond) (a0 : Addr) (p1 : Int32) (zc : Int32) (fm : Value) (cs : List Int32) (ln : Int32) (h0 : Heap) (n0 : Nat) (Z0 : n0 ≤ h0.size) (S_C : tS0 Z h0 (.int zc)) (hzc : ¬ zc = 0) (S_F : tS1 Z h0 fm) (hfm : fm.isRef = true) (S_A : tS2 Z h0 (.int 1)) (S_H : tS3 Z h0 (.int 0)) (S_L : tS4 Z h0 (.int 8)) (CS : CSt Z h0 a0 cs) (E_a0 : Exa Z h0 a0 "java/lang/String") (hln : ln.toInt = cs.length) (hi : 0 ≤ p1.toInt ∧ p1.toInt < cs.length) :
    MF l mN1 (Jvm.Cond.code mN1 prog_12_method_4_code 2 (some .boolean) :: ws) (rO 5 0 0 66) #[(.ref a0), (.int p1)] Z h0 (PQ (.int (fPA cs ln p1)) n0 h0) := by
  refine MetFree.of_bodySF (plainFor_of_name pn_6) hisR ?_
  intro p e s m args below meth c s₁ Bd hml0 hP hK
  obtain ⟨rfl, hZ, hh⟩ := hP
  have hx := Bd.exec
  have hby := Bd.bytes
  have hlk : meth.locks = false := Bd.notSynchronized
  have hml : c.maxLocals = 2 := hml0
  have hown : s.vm.findClass "com/example/winj/winj/storage/Utf8" = some m.cls := findClass_of_methodNamed Bd.named
  have X0 : Stand p l e (rO 5 0 0 66) s m #[(.ref a0), (.int p1)] below meth c s₁ [] 0 0 := Stand.of_body Bd
  have e0 : s₁.heap = h0 := by rw [← hh, Bd.state]; rfl
  have N0 := Fr.nil n0
  show Go p e below s ((PQ (.int (fPA cs ln p1)) n0 h0)) (rO 5 0 0 66).cells (rO 5 0 0 66).slots (s₁.setTop (entryFrame m #[(.ref a0), (.int p1)] 2))
  rw [ef_14 m a0 p1]
  refine Go.st (S' := s₁.setTop (mkF m 2 #[vr a0, vi p1] [.int p1, .ref a0])) (fun _ kk => XS.aloadN X0.here hx rfl (hb hby d14_0) rfl rfl (XS.iloadN X0.here hx rfl (hb hby d14_1) rfl kk)) ?_
  obtain ⟨cq1, kq1, q1a, q1b, q1c⟩ := isOf hZ e0 E_a0
  obtain ⟨_, _, ⟨T1, L1, k1, n1⟩, -, X1, ⟨Lc1, hQ1, l1, y1, z1⟩, st1⟩ := X0.virtualBack hx (y := mN11) (z := mN11) hown (mvT hZ (ow hw 66 rfl)) (mvT hZ (ow hw 67 rfl)) (notFace_of_selects (args := #[]) (mvT hZ (ow hw 69 rfl))) (mvT hZ (ow hw 69 rfl)) (mvT hZ (ow hw 68 rfl)) (by decide) (backOf (W := 0) (rmCa l Z az hw [] a0 p1 zc fm cs h0 n0 Z0 S_C hzc S_F hfm S_A S_H S_L CS hi) hZ (ow hw 70 rfl) (ow hw 8 rfl) (by decide) (by decide)) q1a q1c (g := (mkF m 2 #[vr a0, vi p1] [.int p1, .ref a0])) rfl (by rw [hml]; rfl) (Steps.refl _) (argsL := [.int p1]) (rest := []) (lenOf pd_0 rfl) rfl (oW rfl rfl) (hb hby d14_2) (fun _ _ => ⟨rfl, e0, (by decide : 0 + 0 ≤ _), (by decide : 0 + 0 ≤ _)⟩)
  dsimp only [Pt.U, Pt.locs, Pt.cells, Pt.slots] at X1 l1 y1 z1 st1 hQ1
  subst l1 y1 z1
  obtain ⟨hv1, N1q, e1⟩ := hQ1
  subst hv1
  have N1 := Fr.app N0 N1q
  refine Go.tr (S' := T1.setTop (mkF m 5 #[vr a0, vi p1] [.int (bt cs p1)])) st1 ?_
  obtain ⟨_, _, ⟨T2, L2, k2, n2⟩, -, X2, ⟨Lc2, hQ2, l2, y2, z2⟩, st2⟩ := Jvm.LawKit.callS X1 hx (y := mN6) hown (mvT hZ (ow hw 88 rfl)) (mvT hZ (ow hw 89 rfl)) (mvT hZ (ow hw 90 rfl)) (mvT hZ (ow hw 91 rfl)) (by decide) (backOf (W := 0) (rmHS l Z az hw [] (bt cs p1)  h0 n0 Z0 ) hZ (ow hw 91 rfl) (ow hw 90 rfl) (by decide) (by decide)) (g := (mkF m 5 #[vr a0, vi p1] [.int (bt cs p1)])) rfl (by rw [hml]; rfl) (argsL := [.int (bt cs p1)]) (rest := []) (lenOf pd_11 rfl) rfl (oW rfl rfl) (hb hby d14_5) (fun _ _ => ⟨rfl, e1, (by decide : 0 + 0 ≤ _), (by decide : 0 + 0 ≤ _)⟩)
  dsimp only [Pt.U, Pt.locs, Pt.cells, Pt.slots] at X2 l2 y2 z2 st2 hQ2
  subst l2 y2 z2
  obtain ⟨hv2, N2q, e2⟩ := hQ2
  subst hv2
  have N2 := Fr.app N1 N2q
  refine Go.st (S' := T2.setTop (mkF m 8 #[vr a0, vi p1] [.int (fHS (bt cs p1))])) st2 ?_
  by_cases hc3 : (fHS (bt cs p1)) = (0 : Int32)
  · refine Go.st (S' := T2.setTop (mkF m 39 #[vr a0, vi p1] [.int 0])) (fun _ kk => XS.ifYes X2.here hx rfl (pc0 := 8) (pc' := 38) rfl (hb hby d14_8) rfl ((if0 _ _).trans (teq hc3).1) (by decide) (by decide) (XS.iconst X2.here hx rfl (hb hby d14_38) kk)) ?_
    exact Go.retN X2 hx hlk (t := .boolean) Bd.returns (by simp) (hb hby d14_39) (⟨congrArg (fun q => some (Value.int q)) (Eq.symm (show fPA cs ln p1 = (0 : Int32) from by unfold fPA; rw [if_pos hc3])), N2, e2⟩) (by decide) (by decide)
  · refine Go.st (S' := T2.setTop (mkF m 15 #[vr a0, vi p1] [.ref a0, .int (p1 + (1 : Int32))])) (fun _ kk => XS.ifNo X2.here hx rfl (hb hby d14_8) rfl ((if0 _ _).trans (feq hc3).1) (XS.iloadN X2.here hx rfl (hb hby d14_11) rfl (XS.iconst X2.here hx rfl (hb hby d14_12) (XS.iadd X2.here hx rfl (hb hby d14_13) rfl (XS.aloadN X2.here hx rfl (hb hby d14_14) rfl rfl kk))))) ?_
    obtain ⟨cq4, kq4, q4a, q4b, q4c⟩ := isOf hZ e2 E_a0
    obtain ⟨_, _, ⟨T4, L4, k4, n4⟩, -, X4, ⟨Lc4, hQ4, l4, y4, z4⟩, st4⟩ := X2.virtualBack hx (y := mN15) (z := mN15) hown (mvT hZ (ow hw 31 rfl)) (mvT hZ (ow hw 32 rfl)) (notFace_of_selects (args := #[]) (mvT hZ (ow hw 34 rfl))) (mvT hZ (ow hw 34 rfl)) (mvT hZ (ow hw 33 rfl)) (by decide) (backOf (W := 1) (rmLn l Z az hw [] a0 zc fm cs ln h0 n0 Z0 S_C hzc S_F hfm S_A S_H S_L CS hln) hZ (ow hw 35 rfl) (ow hw 8 rfl) (by decide) (by decide)) q4a q4c (g := (mkF m 15 #[vr a0, vi p1] [.ref a0, .int (p1 + (1 : Int32))])) rfl (by rw [hml]; rfl) (Steps.refl _) (argsL := []) (rest := [.int (p1 + (1 : Int32))]) (lenOf pd_5 rfl) rfl (oW rfl rfl) (hb hby d14_15) (fun _ _ => ⟨rfl, e2, (by decide : 0 + 0 ≤ _), (by decide : 0 + 0 ≤ _)⟩)
    dsimp only [Pt.U, Pt.locs, Pt.cells, Pt.slots] at X4 l4 y4 z4 st4 hQ4
    subst l4 y4 z4
    obtain ⟨hv4, N4q, e4⟩ := hQ4
    subst hv4
    have N4 := Fr.app N2 N4q
    refine Go.tr (S' := T4.setTop (mkF m 18 #[vr a0, vi p1] [.int ln, .int (p1 + (1 : Int32))])) st4 ?_
    by_cases hc5 : (p1 + (1 : Int32)) < ln
    · refine Go.st (S' := T4.setTop (mkF m 25 #[vr a0, vi p1] [.int (p1 + (1 : Int32)), .ref a0])) (fun _ kk => XS.icmpNo X4.here hx rfl (hb hby d14_18) rfl (tlt hc5).2.1 (XS.aloadN X4.here hx rfl (hb hby d14_21) rfl rfl (XS.iloadN X4.here hx rfl (hb hby d14_22) rfl (XS.iconst X4.here hx rfl (hb hby d14_23) (XS.iadd X4.here hx rfl (hb hby d14_24) rfl kk))))) ?_
      have hi1 := own_i1 hi hln hc5
      obtain ⟨cq6, kq6, q6a, q6b, q6c⟩ := isOf hZ e4 E_a0
      obtain ⟨_, _, ⟨T6, L6, k6, n6⟩, -, X6, ⟨Lc6, hQ6, l6, y6, z6⟩, st6⟩ := X4.virtualBack hx (y := mN11) (z := mN11) hown (mvT hZ (ow hw 66 rfl)) (mvT hZ (ow hw 67 rfl)) (notFace_of_selects (args := #[]) (mvT hZ (ow hw 69 rfl))) (mvT hZ (ow hw 69 rfl)) (mvT hZ (ow hw 68 rfl)) (by decide) (backOf (W := 0) (rmCa l Z az hw [] a0 (p1 + (1 : Int32)) zc fm cs h0 n0 Z0 S_C hzc S_F hfm S_A S_H S_L CS ⟨hi1.1, hi1.2.1⟩) hZ (ow hw 70 rfl) (ow hw 8 rfl) (by decide) (by decide)) q6a q6c (g := (mkF m 25 #[vr a0, vi p1] [.int (p1 + (1 : Int32)), .ref a0])) rfl (by rw [hml]; rfl) (Steps.refl _) (argsL := [.int (p1 + (1 : Int32))]) (rest := []) (lenOf pd_0 rfl) rfl (oW rfl rfl) (hb hby d14_25) (fun _ _ => ⟨rfl, e4, (by decide : 0 + 0 ≤ _), (by decide : 0 + 0 ≤ _)⟩)
      dsimp only [Pt.U, Pt.locs, Pt.cells, Pt.slots] at X6 l6 y6 z6 st6 hQ6
      subst l6 y6 z6
      obtain ⟨hv6, N6q, e6⟩ := hQ6
      subst hv6
      have N6 := Fr.app N4 N6q
      refine Go.tr (S' := T6.setTop (mkF m 28 #[vr a0, vi p1] [.int (bt cs (p1 + (1 : Int32)))])) st6 ?_
      obtain ⟨_, _, ⟨T7, L7, k7, n7⟩, -, X7, ⟨Lc7, hQ7, l7, y7, z7⟩, st7⟩ := Jvm.LawKit.callS X6 hx (y := mN7) hown (mvT hZ (ow hw 129 rfl)) (mvT hZ (ow hw 130 rfl)) (mvT hZ (ow hw 90 rfl)) (mvT hZ (ow hw 131 rfl)) (by decide) (backOf (W := 0) (rmLS l Z az hw [] (bt cs (p1 + (1 : Int32)))  h0 n0 Z0 ) hZ (ow hw 131 rfl) (ow hw 90 rfl) (by decide) (by decide)) (g := (mkF m 28 #[vr a0, vi p1] [.int (bt cs (p1 + (1 : Int32)))])) rfl (by rw [hml]; rfl) (argsL := [.int (bt cs (p1 + (1 : Int32)))]) (rest := []) (lenOf pd_11 rfl) rfl (oW rfl rfl) (hb hby d14_28) (fun _ _ => ⟨rfl, e6, (by decide : 0 + 0 ≤ _), (by decide : 0 + 0 ≤ _)⟩)
      dsimp only [Pt.U, Pt.locs, Pt.cells, Pt.slots] at X7 l7 y7 z7 st7 hQ7
      subst l7 y7 z7
      obtain ⟨hv7, N7q, e7⟩ := hQ7
      subst hv7
      have N7 := Fr.app N6 N7q
      refine Go.st (S' := T7.setTop (mkF m 31 #[vr a0, vi p1] [.int (fLS (bt cs (p1 + (1 : Int32))))])) st7 ?_
      by_cases hc8 : (fLS (bt cs (p1 + (1 : Int32)))) = (0 : Int32)
      · refine Go.st (S' := T7.setTop (mkF m 39 #[vr a0, vi p1] [.int 0])) (fun _ kk => XS.ifYes X7.here hx rfl (pc0 := 31) (pc' := 38) rfl (hb hby d14_31) rfl ((if0 _ _).trans (teq hc8).1) (by decide) (by decide) (XS.iconst X7.here hx rfl (hb hby d14_38) kk)) ?_
        exact Go.retN X7 hx hlk (t := .boolean) Bd.returns (by simp) (hb hby d14_39) (⟨congrArg (fun q => some (Value.int q)) (Eq.symm (show fPA cs ln p1 = (0 : Int32) from by unfold fPA; rw [if_neg hc3, if_pos hc5, if_pos hc8])), N7, e7⟩) (by decide) (by decide)
      · refine Go.st (S' := T7.setTop (mkF m 39 #[vr a0, vi p1] [.int 1])) (fun _ kk => XS.ifNo X7.here hx rfl (hb hby d14_31) rfl ((if0 _ _).trans (feq hc8).1) (XS.iconst X7.here hx rfl (hb hby d14_34) (XS.goto X7.here hx rfl (pc0 := 35) (pc' := 39) rfl (hb hby d14_35) (by decide) (by decide) kk))) ?_
        exact Go.retN X7 hx hlk (t := .boolean) Bd.returns (by simp) (hb hby d14_39) (⟨congrArg (fun q => some (Value.int q)) (Eq.symm (show fPA cs ln p1 = (1 : Int32) from by unfold fPA; rw [if_neg hc3, if_pos hc5, if_neg hc8])), N7, e7⟩) (by decide) (by decide)
    · refine Go.st (S' := T4.setTop (mkF m 39 #[vr a0, vi p1] [.int 0])) (fun _ kk => XS.icmpYes X4.here hx rfl (pc0 := 18) (pc' := 38) rfl (hb hby d14_18) rfl (flt hc5).2.1 (by decide) (by decide) (XS.iconst X4.here hx rfl (hb hby d14_38) kk)) ?_
      exact Go.retN X4 hx hlk (t := .boolean) Bd.returns (by simp) (hb hby d14_39) (⟨congrArg (fun q => some (Value.int q)) (Eq.symm (show fPA cs ln p1 = (0 : Int32) from by unfold fPA; rw [if_neg hc3, if_neg hc5])), N4, e4⟩) (by decide) (by decide)
def own_enc : List Int32 → Int32
  | [] => 1
  | [c] => if fSu c = 0 then 1 else 0
  | c :: c' :: r => if ¬ fHS c = 0 ∧ ¬ fLS c' = 0 then own_enc r else if fSu c = 0 then own_enc (c' :: r) else 0
theorem own_bti {cs : List Int32} {w : Int32} {i : Nat} (hw : w.toInt = i) (h : i < cs.length) : bt cs w = cs[i] := by
  unfold bt
  rw [show w.toNatClampNeg = i from by simp only [Int32.toNatClampNeg]; omega]
  simp [List.getD_eq_getElem?_getD, List.getElem?_eq_getElem h]
theorem own_ltn {w ln : Int32} {i n : Nat} (hw : w.toInt = i) (hl : ln.toInt = n) (q : ¬ w < ln) : n ≤ i := by
  rw [Int32.lt_iff_toInt_lt] at q; omega
theorem own_lti {w ln : Int32} {i n : Nat} (hw : w.toInt = i) (hl : ln.toInt = n) (q : i < n) : w < ln := by
  rw [Int32.lt_iff_toInt_lt]; omega
section Enc
variable {cs : List Int32} {w ln : Int32} {i : Nat} (hw : w.toInt = i) (hl : ln.toInt = cs.length)
theorem own_e0 (h : cs.length ≤ i) : own_enc (cs.drop i) = 1 := by rw [List.drop_eq_nil_of_le h]; rfl
theorem own_w1 (hw : w.toInt = i) (hl : ln.toInt = cs.length) (h : i < cs.length) : (w + (1 : Int32)).toInt = (i + 1 : Nat) := by
  have q := own_i1' (p := w) (ln := ln) (n := cs.length) (by omega) hl
  omega
/-- what pairAt says, of the list -/
theorem own_pa (hw : w.toInt = i) (hl : ln.toInt = cs.length) (h : i < cs.length) : (¬ fPA cs ln w = 0) ↔ (¬ fHS cs[i] = 0 ∧ ∃ h' : i + 1 < cs.length, ¬ fLS cs[i + 1] = 0) := by
  have e := own_w1 hw hl h
  unfold fPA
  rw [own_bti hw h]
  by_cases h1 : fHS cs[i] = 0
  · rw [if_pos h1]; simp [h1]
  · rw [if_neg h1]
    by_cases h2 : i + 1 < cs.length
    · rw [if_pos (own_lti e hl h2), own_bti e h2]
      by_cases h3 : fLS cs[i + 1] = 0
      · rw [if_pos h3]; simp [h3]
      · rw [if_neg h3]; simp [h1, h2, h3]
    · rw [if_neg (fun q => h2 (by have := (Int32.lt_iff_toInt_lt).mp q; omega))]; simp [h2]
theorem own_e1 (hw : w.toInt = i) (hl : ln.toInt = cs.length) (h : i < cs.length) (q : ¬ fPA cs ln w = 0) : i + 1 < cs.length ∧ own_enc (cs.drop i) = own_enc (cs.drop (i + 1 + 1)) := by
  obtain ⟨h1, h2, h3⟩ := (own_pa hw hl h).mp q
  refine ⟨h2, ?_⟩
  rw [List.drop_eq_getElem_cons h, List.drop_eq_getElem_cons h2]
  show (if _ then _ else _) = _
  rw [if_pos ⟨h1, h3⟩]
theorem own_e2 (hw : w.toInt = i) (hl : ln.toInt = cs.length) (h : i < cs.length) (q : fPA cs ln w = 0) (r : fSu (bt cs w) = 0) : own_enc (cs.drop i) = own_enc (cs.drop (i + 1)) := by
  have n := fun z => ((own_pa hw hl h).mpr z) q
  rw [own_bti hw h] at r
  rw [List.drop_eq_getElem_cons h]
  by_cases h2 : i + 1 < cs.length
  · rw [List.drop_eq_getElem_cons h2]
    show (if _ then _ else _) = _
    rw [if_neg (fun z => n ⟨z.1, h2, z.2⟩), if_pos r]
  · rw [List.drop_eq_nil_of_le (by omega)]
    show (if _ then _ else _) = _
    rw [if_pos r]; rfl
theorem own_e3 (hw : w.toInt = i) (hl : ln.toInt = cs.length) (h : i < cs.length) (q : fPA cs ln w = 0) (r : ¬ fSu (bt cs w) = 0) : own_enc (cs.drop i) = 0 := by
  have n := fun z => ((own_pa hw hl h).mpr z) q
  rw [own_bti hw h] at r
  rw [List.drop_eq_getElem_cons h]
  by_cases h2 : i + 1 < cs.length
  · rw [List.drop_eq_getElem_cons h2]
    show (if _ then _ else _) = _
    rw [if_neg (fun z => n ⟨z.1, h2, z.2⟩), if_neg r]
  · rw [List.drop_eq_nil_of_le (by omega)]
    show (if _ then _ else _) = _
    rw [if_neg r]
end Enc
theorem d5_0 : decode prog_12_method_2_code 0 = .ok (.iconst 0, 1) := by decide +kernel
theorem d5_1 : decode prog_12_method_2_code 1 = .ok (.istore_n 1, 1) := by decide +kernel
theorem d5_2 : decode prog_12_method_2_code 2 = .ok (.iload_n 1, 1) := by decide +kernel
theorem d5_3 : decode prog_12_method_2_code 3 = .ok (.aload_n 0, 1) := by decide +kernel
theorem d5_4 : decode prog_12_method_2_code 4 = .ok (.invokevirtual 7, 3) := by decide +kernel
theorem d5_7 : decode prog_12_method_2_code 7 = .ok (.if_icmp .ge 36, 3) := by decide +kernel
theorem d5_10 : decode prog_12_method_2_code 10 = .ok (.aload_n 0, 1) := by decide +kernel
theorem d5_11 : decode prog_12_method_2_code 11 = .ok (.iload_n 1, 1) := by decide +kernel
theorem d5_12 : decode prog_12_method_2_code 12 = .ok (.invokestatic 13, 3) := by decide +kernel
theorem d5_15 : decode prog_12_method_2_code 15 = .ok (.ifCond .eq 9, 3) := by decide +kernel
theorem d5_18 : decode prog_12_method_2_code 18 = .ok (.iinc 1 1, 3) := by decide +kernel
theorem d5_21 : decode prog_12_method_2_code 21 = .ok (.goto 16, 3) := by decide +kernel
theorem d5_24 : decode prog_12_method_2_code 24 = .ok (.aload_n 0, 1) := by decide +kernel
theorem d5_25 : decode prog_12_method_2_code 25 = .ok (.iload_n 1, 1) := by decide +kernel
theorem d5_26 : decode prog_12_method_2_code 26 = .ok (.invokevirtual 19, 3) := by decide +kernel
theorem d5_29 : decode prog_12_method_2_code 29 = .ok (.invokestatic 23, 3) := by decide +kernel
theorem d5_32 : decode prog_12_method_2_code 32 = .ok (.ifCond .eq 5, 3) := by decide +kernel
theorem d5_35 : decode prog_12_method_2_code 35 = .ok (.iconst 0, 1) := by decide +kernel
theorem d5_36 : decode prog_12_method_2_code 36 = .ok (.ireturn, 1) := by decide +kernel
theorem d5_37 : decode prog_12_method_2_code 37 = .ok (.iinc 1 1, 3) := by decide +kernel
theorem d5_40 : decode prog_12_method_2_code 40 = .ok (.goto (-38), 3) := by decide +kernel
theorem d5_43 : decode prog_12_method_2_code 43 = .ok (.iconst 1, 1) := by decide +kernel
theorem d5_44 : decode prog_12_method_2_code 44 = .ok (.ireturn, 1) := by decide +kernel
theorem loopE {l : Launch} {Z : State} {az : Array Value} (hw : HW az Z) {p : Program} {e : Env} {s : State} {m : MethodId} {args : Array Value} {below : List Frame} {meth : Method} {c : Code} {h0 : Heap} {n0 : Nat} (a0 : Addr) (zc : Int32) (fm : Value) (cs : List Int32) (ln : Int32) (hx : p.tables.exec = Jvm.exec) (hZ : Z.Warmed39 s.vm) (hby : c.code = prog_12_method_2_code) (hml : c.maxLocals = 2) (hown : s.vm.findClass "com/example/winj/winj/storage/Utf8" = some m.cls) (hlk : meth.locks = false) (hret : meth.sig.returnType = some .boolean) (Z0 : n0 ≤ h0.size) (S_C : tS0 Z h0 (.int zc)) (hzc : ¬ zc = 0) (S_F : tS1 Z h0 fm) (hfm : fm.isRef = true) (S_A : tS2 Z h0 (.int 1)) (S_H : tS3 Z h0 (.int 0)) (S_L : tS4 Z h0 (.int 8)) (CS : CSt Z h0 a0 cs) (E_a0 : Exa Z h0 a0 "java/lang/String") (hln : ln.toInt = cs.length) :
    ∀ (k : Nat) (T0 : State) (locs : List Loc) (i : Nat) (wv : Int32), Stand p l e (rO 6 0 0 79) s m args below meth c T0 locs 0 0 → Fr n0 locs → T0.heap = h0 → (cs.length ≤ i + k) → (wv.toInt = i) → (own_enc cs = own_enc (cs.drop i)) →  Go p e below s (PQ (.int (own_enc cs)) n0 h0) 0 0 (T0.setTop (mkF m 2 #[vr a0, vi wv] [])) := by
  intro k
  induction k with
  | zero =>
    intro T0 locs i wv X0 N0 e0 hik hwv hen
    have hq : ¬ wv < ln := fun q => by have := (Int32.lt_iff_toInt_lt).mp q; omega
    refine Go.st (S' := T0.setTop (mkF m 4 #[vr a0, vi wv] [.ref a0, .int wv])) (fun _ kk => XS.iloadN X0.here hx rfl (hb hby d5_2) rfl (XS.aloadN X0.here hx rfl (hb hby d5_3) rfl rfl kk)) ?_
    obtain ⟨cq1, kq1, q1a, q1b, q1c⟩ := isOf hZ e0 E_a0
    obtain ⟨_, _, ⟨T1, L1, k1, n1⟩, -, X1, ⟨Lc1, hQ1, l1, y1, z1⟩, st1⟩ := X0.virtualBack hx (y := mN15) (z := mN15) hown (mvT hZ (ow hw 31 rfl)) (mvT hZ (ow hw 32 rfl)) (notFace_of_selects (args := #[]) (mvT hZ (ow hw 34 rfl))) (mvT hZ (ow hw 34 rfl)) (mvT hZ (ow hw 33 rfl)) (by decide) (backOf (W := 1) (rmLn l Z az hw [] a0 zc fm cs ln h0 n0 Z0 S_C hzc S_F hfm S_A S_H S_L CS hln) hZ (ow hw 35 rfl) (ow hw 8 rfl) (by decide) (by decide)) q1a q1c (g := (mkF m 4 #[vr a0, vi wv] [.ref a0, .int wv])) rfl (by rw [hml]; rfl) (Steps.refl _) (argsL := []) (rest := [.int wv]) (lenOf pd_5 rfl) rfl (oW rfl rfl) (hb hby d5_4) (fun _ _ => ⟨rfl, e0, (by decide : 0 + 0 ≤ _), (by decide : 0 + 0 ≤ _)⟩)
    dsimp only [Pt.U, Pt.locs, Pt.cells, Pt.slots] at X1 l1 y1 z1 st1 hQ1
    subst l1 y1 z1
    obtain ⟨hv1, N1q, e1⟩ := hQ1
    subst hv1
    have N1 := Fr.app N0 N1q
    refine Go.st (S' := T1.setTop (mkF m 44 #[vr a0, vi wv] [.int 1])) (fun _ kk => st1.trans (XS.icmpYes X1.here hx rfl (pc0 := 7) (pc' := 43) rfl (hb hby d5_7) rfl (flt hq).2.1 (by decide) (by decide) (XS.iconst X1.here hx rfl (hb hby d5_43) kk))) ?_
    exact Go.retN X1 hx hlk (t := .boolean) hret (by simp) (hb hby d5_44) (⟨congrArg (fun q => some (Value.int q)) (Eq.symm (show own_enc cs = (1 : Int32) from hen.trans (own_e0 (by omega)))), N1, e1⟩) (by decide) (by decide)
  | succ k ih =>
    intro T0 locs i wv X0 N0 e0 hik hwv hen
    refine Go.st (S' := T0.setTop (mkF m 4 #[vr a0, vi wv] [.ref a0, .int wv])) (fun _ kk => XS.iloadN X0.here hx rfl (hb hby d5_2) rfl (XS.aloadN X0.here hx rfl (hb hby d5_3) rfl rfl kk)) ?_
    obtain ⟨cq1, kq1, q1a, q1b, q1c⟩ := isOf hZ e0 E_a0
    obtain ⟨_, _, ⟨T1, L1, k1, n1⟩, -, X1, ⟨Lc1, hQ1, l1, y1, z1⟩, st1⟩ := X0.virtualBack hx (y := mN15) (z := mN15) hown (mvT hZ (ow hw 31 rfl)) (mvT hZ (ow hw 32 rfl)) (notFace_of_selects (args := #[]) (mvT hZ (ow hw 34 rfl))) (mvT hZ (ow hw 34 rfl)) (mvT hZ (ow hw 33 rfl)) (by decide) (backOf (W := 1) (rmLn l Z az hw [] a0 zc fm cs ln h0 n0 Z0 S_C hzc S_F hfm S_A S_H S_L CS hln) hZ (ow hw 35 rfl) (ow hw 8 rfl) (by decide) (by decide)) q1a q1c (g := (mkF m 4 #[vr a0, vi wv] [.ref a0, .int wv])) rfl (by rw [hml]; rfl) (Steps.refl _) (argsL := []) (rest := [.int wv]) (lenOf pd_5 rfl) rfl (oW rfl rfl) (hb hby d5_4) (fun _ _ => ⟨rfl, e0, (by decide : 0 + 0 ≤ _), (by decide : 0 + 0 ≤ _)⟩)
    dsimp only [Pt.U, Pt.locs, Pt.cells, Pt.slots] at X1 l1 y1 z1 st1 hQ1
    subst l1 y1 z1
    obtain ⟨hv1, N1q, e1⟩ := hQ1
    subst hv1
    have N1 := Fr.app N0 N1q
    refine Go.tr (S' := T1.setTop (mkF m 7 #[vr a0, vi wv] [.int ln, .int wv])) st1 ?_
    by_cases hc2 : wv < ln
    · refine Go.st (S' := T1.setTop (mkF m 10 #[vr a0, vi wv] [])) (fun _ kk => XS.icmpNo X1.here hx rfl (hb hby d5_7) rfl (tlt hc2).2.1 kk) ?_
      have hiw := own_ixw hwv hln hc2
      have hlt : i < cs.length := by omega
      refine Go.st (S' := T1.setTop (mkF m 12 #[vr a0, vi wv] [.int wv, .ref a0])) (fun _ kk => XS.aloadN X1.here hx rfl (hb hby d5_10) rfl rfl (XS.iloadN X1.here hx rfl (hb hby d5_11) rfl kk)) ?_
      obtain ⟨_, _, ⟨T3, L3, k3, n3⟩, -, X3, ⟨Lc3, hQ3, l3, y3, z3⟩, st3⟩ := Jvm.LawKit.callS X1 hx (y := mN1) hown (mvT hZ (ow hw 63 rfl)) (mvT hZ (ow hw 64 rfl)) (mvT hZ (ow hw 29 rfl)) (mvT hZ (ow hw 65 rfl)) (by decide) (backOf (W := 0) (rmPA l Z az hw [] a0 wv zc fm cs ln h0 n0 Z0 S_C hzc S_F hfm S_A S_H S_L CS E_a0 hln hiw) hZ (ow hw 65 rfl) (ow hw 29 rfl) (by decide) (by decide)) (g := (mkF m 12 #[vr a0, vi wv] [.int wv, .ref a0])) rfl (by rw [hml]; rfl) (argsL := [.ref a0, .int wv]) (rest := []) (lenOf pd_12 rfl) rfl (oW rfl rfl) (hb hby d5_12) (fun _ _ => ⟨rfl, e1, (by decide : 0 + 0 ≤ _), (by decide : 0 + 0 ≤ _)⟩)
      dsimp only [Pt.U, Pt.locs, Pt.cells, Pt.slots] at X3 l3 y3 z3 st3 hQ3
      subst l3 y3 z3
      obtain ⟨hv3, N3q, e3⟩ := hQ3
      subst hv3
      have N3 := Fr.app N1 N3q
      refine Go.st (S' := T3.setTop (mkF m 15 #[vr a0, vi wv] [.int (fPA cs ln wv)])) st3 ?_
      by_cases hc4 : (fPA cs ln wv) = (0 : Int32)
      · refine Go.st (S' := T3.setTop (mkF m 26 #[vr a0, vi wv] [.int wv, .ref a0])) (fun _ kk => XS.ifYes X3.here hx rfl (pc0 := 15) (pc' := 24) rfl (hb hby d5_15) rfl ((if0 _ _).trans (teq hc4).1) (by decide) (by decide) (XS.aloadN X3.here hx rfl (hb hby d5_24) rfl rfl (XS.iloadN X3.here hx rfl (hb hby d5_25) rfl kk))) ?_
        obtain ⟨cq5, kq5, q5a, q5b, q5c⟩ := isOf hZ e3 E_a0
        obtain ⟨_, _, ⟨T5, L5, k5, n5⟩, -, X5, ⟨Lc5, hQ5, l5, y5, z5⟩, st5⟩ := X3.virtualBack hx (y := mN11) (z := mN11) hown (mvT hZ (ow hw 66 rfl)) (mvT hZ (ow hw 67 rfl)) (notFace_of_selects (args := #[]) (mvT hZ (ow hw 69 rfl))) (mvT hZ (ow hw 69 rfl)) (mvT hZ (ow hw 68 rfl)) (by decide) (backOf (W := 0) (rmCa l Z az hw [] a0 wv zc fm cs h0 n0 Z0 S_C hzc S_F hfm S_A S_H S_L CS hiw) hZ (ow hw 70 rfl) (ow hw 8 rfl) (by decide) (by decide)) q5a q5c (g := (mkF m 26 #[vr a0, vi wv] [.int wv, .ref a0])) rfl (by rw [hml]; rfl) (Steps.refl _) (argsL := [.int wv]) (rest := []) (lenOf pd_0 rfl) rfl (oW rfl rfl) (hb hby d5_26) (fun _ _ => ⟨rfl, e3, (by decide : 0 + 0 ≤ _), (by decide : 0 + 0 ≤ _)⟩)
        dsimp only [Pt.U, Pt.locs, Pt.cells, Pt.slots] at X5 l5 y5 z5 st5 hQ5
        subst l5 y5 z5
        obtain ⟨hv5, N5q, e5⟩ := hQ5
        subst hv5
        have N5 := Fr.app N3 N5q
        refine Go.tr (S' := T5.setTop (mkF m 29 #[vr a0, vi wv] [.int (bt cs wv)])) st5 ?_
        obtain ⟨_, _, ⟨T6, L6, k6, n6⟩, -, X6, ⟨Lc6, hQ6, l6, y6, z6⟩, st6⟩ := Jvm.LawKit.callS X5 hx (y := mN8) hown (mvT hZ (ow hw 93 rfl)) (mvT hZ (ow hw 94 rfl)) (mvT hZ (ow hw 90 rfl)) (mvT hZ (ow hw 95 rfl)) (by decide) (backOf (W := 0) (rmSu l Z az hw [] (bt cs wv)  h0 n0 Z0 ) hZ (ow hw 95 rfl) (ow hw 90 rfl) (by decide) (by decide)) (g := (mkF m 29 #[vr a0, vi wv] [.int (bt cs wv)])) rfl (by rw [hml]; rfl) (argsL := [.int (bt cs wv)]) (rest := []) (lenOf pd_11 rfl) rfl (oW rfl rfl) (hb hby d5_29) (fun _ _ => ⟨rfl, e5, (by decide : 0 + 0 ≤ _), (by decide : 0 + 0 ≤ _)⟩)
        dsimp only [Pt.U, Pt.locs, Pt.cells, Pt.slots] at X6 l6 y6 z6 st6 hQ6
        subst l6 y6 z6
        obtain ⟨hv6, N6q, e6⟩ := hQ6
        subst hv6
        have N6 := Fr.app N5 N6q
        refine Go.st (S' := T6.setTop (mkF m 32 #[vr a0, vi wv] [.int (fSu (bt cs wv))])) st6 ?_
        by_cases hc7 : (fSu (bt cs wv)) = (0 : Int32)
        · refine Go.st (S' := T6.setTop (mkF m 2 #[vr a0, vi (wv + (1 : Int32))] [])) (fun _ kk => XS.ifYes X6.here hx rfl (pc0 := 32) (pc' := 37) rfl (hb hby d5_32) rfl ((if0 _ _).trans (teq hc7).1) (by decide) (by decide) (XS.iinc X6.here hx rfl (hb hby d5_37) rfl (l' := #[vr a0, vi (wv + (1 : Int32))]) rfl (XS.goto X6.here hx rfl (pc0 := 40) (pc' := 2) rfl (hb hby d5_40) (by decide) (by decide) kk))) ?_
          exact ih T6 _ (i + 1) _ X6 N6 e6 (by omega) (own_w1 hwv hln hlt) (hen.trans (own_e2 hwv hln hlt hc4 hc7))
        · refine Go.st (S' := T6.setTop (mkF m 36 #[vr a0, vi wv] [.int 0])) (fun _ kk => XS.ifNo X6.here hx rfl (hb hby d5_32) rfl ((if0 _ _).trans (feq hc7).1) (XS.iconst X6.here hx rfl (hb hby d5_35) kk)) ?_
          exact Go.retN X6 hx hlk (t := .boolean) hret (by simp) (hb hby d5_36) (⟨congrArg (fun q => some (Value.int q)) (Eq.symm (show own_enc cs = (0 : Int32) from hen.trans (own_e3 hwv hln hlt hc4 hc7))), N6, e6⟩) (by decide) (by decide)
      · refine Go.st (S' := T3.setTop (mkF m 2 #[vr a0, vi ((wv + (1 : Int32)) + (1 : Int32))] [])) (fun _ kk => XS.ifNo X3.here hx rfl (hb hby d5_15) rfl ((if0 _ _).trans (feq hc4).1) (XS.iinc X3.here hx rfl (hb hby d5_18) rfl (l' := #[vr a0, vi (wv + (1 : Int32))]) rfl (XS.goto X3.here hx rfl (pc0 := 21) (pc' := 37) rfl (hb hby d5_21) (by decide) (by decide) (XS.iinc X3.here hx rfl (hb hby d5_37) rfl (l' := #[vr a0, vi ((wv + (1 : Int32)) + (1 : Int32))]) rfl (XS.goto X3.here hx rfl (pc0 := 40) (pc' := 2) rfl (hb hby d5_40) (by decide) (by decide) kk))))) ?_
        exact ih T3 _ (i + 1 + 1) _ X3 N3 e3 (by omega) (own_w1 (own_w1 hwv hln hlt) hln (own_e1 hwv hln hlt hc4).1) (hen.trans (own_e1 hwv hln hlt hc4).2)
    · refine Go.st (S' := T1.setTop (mkF m 44 #[vr a0, vi wv] [.int 1])) (fun _ kk => XS.icmpYes X1.here hx rfl (pc0 := 7) (pc' := 43) rfl (hb hby d5_7) rfl (flt hc2).2.1 (by decide) (by decide) (XS.iconst X1.here hx rfl (hb hby d5_43) kk)) ?_
      exact Go.retN X1 hx hlk (t := .boolean) hret (by simp) (hb hby d5_44) (⟨congrArg (fun q => some (Value.int q)) (Eq.symm (show own_enc cs = (1 : Int32) from hen.trans (own_e0 (own_ltn hwv hln hc2)))), N1, e1⟩) (by decide) (by decide)
theorem ef_5 (m : MethodId) (a0 : Addr) : entryFrame m #[(.ref a0)] 2 = mkF m 0 #[.val (.ref a0), .unset] [] := by first | (simp [entryFrame, mkF, argsToLocals, Value.category]; done) | rfl
theorem rmEn (l : Launch) (Z : State) (az : Array Value) (hw : HW az Z) (ws : List Jvm.Cond) (a0 : Addr) (zc : Int32) (fm : Value) (cs : List Int32) (ln : Int32) (h0 : Heap) (n0 : Nat) (Z0 : n0 ≤ h0.size) (S_C : tS0 Z h0 (.int zc)) (hzc : ¬ zc = 0) (S_F : tS1 Z h0 fm) (hfm : fm.isRef = true) (S_A : tS2 Z h0 (.int 1)) (S_H : tS3 Z h0 (.int 0)) (S_L : tS4 Z h0 (.int 8)) (CS : CSt Z h0 a0 cs) (E_a0 : Exa Z h0 a0 "java/lang/String") (hln : ln.toInt = cs.length) :
    MF l mN0 (Jvm.Cond.code mN0 prog_12_method_2_code 2 (some .boolean) :: ws) (rO 6 0 0 79) #[(.ref a0)] Z h0 (PQ (.int (own_enc cs)) n0 h0) := by
  refine MetFree.of_bodySF (plainFor_of_name pn_6) hisR ?_
  intro p e s m args below meth c s₁ Bd hml0 hP hK
  obtain ⟨rfl, hZ, hh⟩ := hP
  have hx := Bd.exec
  have hby := Bd.bytes
  have hlk : meth.locks = false := Bd.notSynchronized
  have hml : c.maxLocals = 2 := hml0
  have hown : s.vm.findClass "com/example/winj/winj/storage/Utf8" = some m.cls := findClass_of_methodNamed Bd.named
  have X0 : Stand p l e (rO 6 0 0 79) s m #[(.ref a0)] below meth c s₁ [] 0 0 := Stand.of_body Bd
  have e0 : s₁.heap = h0 := by rw [← hh, Bd.state]; rfl
  have N0 := Fr.nil n0
  show Go p e below s ((PQ (.int (own_enc cs)) n0 h0)) (rO 6 0 0 79).cells (rO 6 0 0 79).slots (s₁.setTop (entryFrame m #[(.ref a0)] 2))
  rw [ef_5 m a0]
  refine Go.st (S' := s₁.setTop (mkF m 2 #[vr a0, vi 0] [])) (fun _ kk => XS.iconst X0.here hx rfl (hb hby d5_0) (XS.istoreN X0.here hx rfl (hb hby d5_1) rfl (l' := #[vr a0, vi 0]) rfl kk)) ?_
  exact loopE hw a0 zc fm cs ln hx hZ hby hml hown hlk Bd.returns Z0 S_C hzc S_F hfm S_A S_H S_L CS E_a0 hln cs.length s₁ _ 0 _ X0 N0 e0 (by omega) rfl rfl
def Q_dr (h0 : Heap) (n0 : Nat) (v : Option Value) (h : Heap) (L : List Loc) : Prop := ∃ r : Int32, v = some (.int r) ∧ Fr n0 L ∧ h = h0 ∧ 0 ≤ r.toInt ∧ r.toInt ≤ 65535
theorem own_bdc (x : Int32) : 0 ≤ x.toUInt32.toUInt16.toUInt32.toInt32.toInt ∧ x.toUInt32.toUInt16.toUInt32.toInt32.toInt ≤ 65535 := by
  have := c_i2c x
  omega
theorem d1_0 : decode method_2_code 0 = .ok (.iload_n 0, 1) := by decide +kernel
theorem d1_1 : decode method_2_code 1 = .ok (.bipush 16, 2) := by decide +kernel
theorem d1_3 : decode method_2_code 3 = .ok (.iushr, 1) := by decide +kernel
theorem d1_4 : decode method_2_code 4 = .ok (.iconst 1, 1) := by decide +kernel
theorem d1_5 : decode method_2_code 5 = .ok (.iand, 1) := by decide +kernel
theorem d1_6 : decode method_2_code 6 = .ok (.ifCond .eq 13, 3) := by decide +kernel
theorem d1_9 : decode method_2_code 9 = .ok (.ldc 7, 2) := by decide +kernel
theorem d1_11 : decode method_2_code 11 = .ok (.iload_n 0, 1) := by decide +kernel
theorem d1_12 : decode method_2_code 12 = .ok (.sipush 2047, 3) := by decide +kernel
theorem d1_15 : decode method_2_code 15 = .ok (.iand, 1) := by decide +kernel
theorem d1_16 : decode method_2_code 16 = .ok (.ior, 1) := by decide +kernel
theorem d1_17 : decode method_2_code 17 = .ok (.i2c, 1) := by decide +kernel
theorem d1_18 : decode method_2_code 18 = .ok (.ireturn, 1) := by decide +kernel
theorem d1_19 : decode method_2_code 19 = .ok (.iload_n 0, 1) := by decide +kernel
theorem d1_20 : decode method_2_code 20 = .ok (.i2c, 1) := by decide +kernel
theorem d1_21 : decode method_2_code 21 = .ok (.ireturn, 1) := by decide +kernel
theorem ef_1 (m : MethodId) (p0 : Int32) : entryFrame m #[(.int p0)] 1 = mkF m 0 #[.val (.int p0)] [] := by first | (simp [entryFrame, mkF, argsToLocals, Value.category]; done) | rfl
theorem rmDr (l : Launch) (Z : State) (az : Array Value) (hw : HW az Z) (ws : List Jvm.Cond) (p0 : Int32)  (h0 : Heap) (n0 : Nat) (Z0 : n0 ≤ h0.size)  :
    MF l mN2 (Jvm.Cond.code mN2 method_2_code 1 (some .char) :: ws) (rO 0 0 0 0) #[(.int p0)] Z h0 (Q_dr h0 n0) := by
  refine MetFree.of_bodySF (plainFor_of_name pn_5) hisR ?_
  intro p e s m args below meth c s₁ Bd hml0 hP hK
  obtain ⟨rfl, hZ, hh⟩ := hP
  have hx := Bd.exec
  have hby := Bd.bytes
  have hlk : meth.locks = false := Bd.notSynchronized
  have hml : c.maxLocals = 1 := hml0
  have hown : s.vm.findClass "com/example/winj/winj/storage/Utf8EncodesPinLaw" = some m.cls := findClass_of_methodNamed Bd.named
  have X0 : Stand p l e (rO 0 0 0 0) s m #[(.int p0)] below meth c s₁ [] 0 0 := Stand.of_body Bd
  have e0 : s₁.heap = h0 := by rw [← hh, Bd.state]; rfl
  have N0 := Fr.nil n0
  show Go p e below s ((Q_dr h0 n0)) (rO 0 0 0 0).cells (rO 0 0 0 0).slots (s₁.setTop (entryFrame m #[(.int p0)] 1))
  rw [ef_1 m p0]
  refine Go.st (S' := s₁.setTop (mkF m 6 #[vi p0] [.int (((p0.toUInt32 >>> ((16 : Int32) &&& 31).toUInt32).toInt32) &&& (1 : Int32))])) (fun _ kk => XS.iloadN X0.here hx rfl (hb hby d1_0) rfl (XS.bipush X0.here hx rfl (hb hby d1_1) (XS.iushr X0.here hx rfl (hb hby d1_3) rfl (XS.iconst X0.here hx rfl (hb hby d1_4) (XS.iand X0.here hx rfl (hb hby d1_5) rfl kk))))) ?_
  by_cases hc1 : (((p0.toUInt32 >>> ((16 : Int32) &&& 31).toUInt32).toInt32) &&& (1 : Int32)) = (0 : Int32)
  · refine Go.st (S' := s₁.setTop (mkF m 21 #[vi p0] [.int (p0.toUInt32.toUInt16.toUInt32.toInt32)])) (fun _ kk => XS.ifYes X0.here hx rfl (pc0 := 6) (pc' := 19) rfl (hb hby d1_6) rfl ((if0 _ _).trans (teq hc1).1) (by decide) (by decide) (XS.iloadN X0.here hx rfl (hb hby d1_19) rfl (XS.i2c X0.here hx rfl (hb hby d1_20) rfl kk))) ?_
    exact Go.retN X0 hx hlk (t := .char) Bd.returns (by simp) (hb hby d1_21) (⟨_, rfl, N0, e0, own_bdc _⟩) (by decide) (by decide)
  · refine Go.st (S' := s₁.setTop (mkF m 18 #[vi p0] [.int (((55296 : Int32) ||| (p0 &&& (2047 : Int32))).toUInt32.toUInt16.toUInt32.toInt32)])) (fun _ kk => XS.ifNo X0.here hx rfl (hb hby d1_6) rfl ((if0 _ _).trans (feq hc1).1) (X0.ldcInt hx hown (mvT hZ (ow hw 58 rfl)) (g := (mkF m 9 #[vi p0] [])) rfl (hb hby d1_9) _ (XS.iloadN X0.here hx rfl (hb hby d1_11) rfl (XS.sipush X0.here hx rfl (hb hby d1_12) (XS.iand X0.here hx rfl (hb hby d1_15) rfl (XS.ior X0.here hx rfl (hb hby d1_16) rfl (XS.i2c X0.here hx rfl (hb hby d1_17) rfl kk))))))) ?_
    exact Go.retN X0 hx hlk (t := .char) Bd.returns (by simp) (hb hby d1_18) (⟨_, rfl, N0, e0, own_bdc _⟩) (by decide) (by decide)
theorem own_hs (c : Int32) : fHi c = fHS c := by
  unfold fHi fHS
  simp only [Int32.lt_iff_toInt_lt, Int32.reduceToInt]
  split <;> (try split) <;> (try split) <;> (try rfl) <;> (exfalso; omega)
theorem own_ls (c : Int32) : fLo c = fLS c := by
  unfold fLo fLS
  simp only [Int32.lt_iff_toInt_lt, Int32.reduceToInt]
  split <;> (try split) <;> (try split) <;> (try rfl) <;> (exfalso; omega)
theorem own_cls (c : Int32) : (fHS c = 1 ∧ fLS c = 0 ∧ fSu c = 1) ∨ (fHS c = 0 ∧ fLS c = 1 ∧ fSu c = 1) ∨ (fHS c = 0 ∧ fLS c = 0 ∧ fSu c = 0) := by
  unfold fHS fLS fSu
  simp only [Int32.lt_iff_toInt_lt, Int32.reduceToInt]
  by_cases h1 : c.toInt < 55296
  · simp only [h1, if_true]
    have h2 : c.toInt < 56320 := by omega
    simp [h2]
  · by_cases h2 : c.toInt < 56320
    · simp [h1, h2, show c.toInt < 57344 from by omega]
    · by_cases h3 : c.toInt < 57344
      · simp [h1, h2, h3]
      · simp [h1, h2, h3]
set_option maxHeartbeats 4000000 in
theorem own_fin1 (x0 x1 x2 x3 : Int32) : own_enc [x0] = (if (fU x0 (0 : Int32) x0 x1 (0 : Int32)) = (0 : Int32) then (0 : Int32) else (1 : Int32)) := by
  simp only [fU, own_hs, own_ls, own_enc]
  rcases own_cls x0 with ⟨a0, b0, d0⟩ | ⟨a0, b0, d0⟩ | ⟨a0, b0, d0⟩ <;>
    simp +decide only [a0, b0, d0, if_true, if_false, not_true_eq_false, not_false_eq_true, and_self, and_true, and_false, true_and, false_and]
set_option maxHeartbeats 4000000 in
theorem own_fin2 (x0 x1 x2 x3 : Int32) : own_enc [x0, x1] = (if (fU x0 (0 : Int32) x0 x1 (1 : Int32)) = (0 : Int32) then (0 : Int32) else (if (fU x0 (1 : Int32) x1 x2 (0 : Int32)) = (0 : Int32) then (0 : Int32) else (1 : Int32))) := by
  simp only [fU, own_hs, own_ls, own_enc]
  rcases own_cls x0 with ⟨a0, b0, d0⟩ | ⟨a0, b0, d0⟩ | ⟨a0, b0, d0⟩ <;>
  rcases own_cls x1 with ⟨a1, b1, d1⟩ | ⟨a1, b1, d1⟩ | ⟨a1, b1, d1⟩ <;>
    simp +decide only [a0, b0, d0, a1, b1, d1, if_true, if_false, not_true_eq_false, not_false_eq_true, and_self, and_true, and_false, true_and, false_and]
set_option maxHeartbeats 4000000 in
theorem own_fin3 (x0 x1 x2 x3 : Int32) : own_enc [x0, x1, x2] = (if (fU x0 (0 : Int32) x0 x1 (1 : Int32)) = (0 : Int32) then (0 : Int32) else (if (fU x0 (1 : Int32) x1 x2 (1 : Int32)) = (0 : Int32) then (0 : Int32) else (if (fU x1 (1 : Int32) x2 x3 (0 : Int32)) = (0 : Int32) then (0 : Int32) else (1 : Int32)))) := by
  simp only [fU, own_hs, own_ls, own_enc]
  rcases own_cls x0 with ⟨a0, b0, d0⟩ | ⟨a0, b0, d0⟩ | ⟨a0, b0, d0⟩ <;>
  rcases own_cls x1 with ⟨a1, b1, d1⟩ | ⟨a1, b1, d1⟩ | ⟨a1, b1, d1⟩ <;>
  rcases own_cls x2 with ⟨a2, b2, d2⟩ | ⟨a2, b2, d2⟩ | ⟨a2, b2, d2⟩ <;>
    simp +decide only [a0, b0, d0, a1, b1, d1, a2, b2, d2, if_true, if_false, not_true_eq_false, not_false_eq_true, and_self, and_true, and_false, true_and, false_and]
set_option maxHeartbeats 4000000 in
theorem own_fin4 (x0 x1 x2 x3 : Int32) : own_enc [x0, x1, x2, x3] = (if (fU x0 (0 : Int32) x0 x1 (1 : Int32)) = (0 : Int32) then (0 : Int32) else (if (fU x0 (1 : Int32) x1 x2 (1 : Int32)) = (0 : Int32) then (0 : Int32) else (if (fU x1 (1 : Int32) x2 x3 (1 : Int32)) = (0 : Int32) then (0 : Int32) else (if (fU x2 (1 : Int32) x3 x3 (0 : Int32)) = (0 : Int32) then (0 : Int32) else (1 : Int32))))) := by
  simp only [fU, own_hs, own_ls, own_enc]
  rcases own_cls x0 with ⟨a0, b0, d0⟩ | ⟨a0, b0, d0⟩ | ⟨a0, b0, d0⟩ <;>
  rcases own_cls x1 with ⟨a1, b1, d1⟩ | ⟨a1, b1, d1⟩ | ⟨a1, b1, d1⟩ <;>
  rcases own_cls x2 with ⟨a2, b2, d2⟩ | ⟨a2, b2, d2⟩ | ⟨a2, b2, d2⟩ <;>
  rcases own_cls x3 with ⟨a3, b3, d3⟩ | ⟨a3, b3, d3⟩ | ⟨a3, b3, d3⟩ <;>
    simp +decide only [a0, b0, d0, a1, b1, d1, a2, b2, d2, a3, b3, d3, if_true, if_false, not_true_eq_false, not_false_eq_true, and_self, and_true, and_false, true_and, false_and]
theorem own_mod5 {k nn : Int32} (h : nn = (k &&& (2147483647 : Int32)) % (5 : Int32)) : nn = 0 ∨ nn = 1 ∨ nn = 2 ∨ nn = 3 ∨ nn = 4 := by
  have q := c_mask k 2147483647 31 (by decide) (by decide)
  have e : nn.toInt = (k &&& (2147483647 : Int32)).toInt.tmod 5 := by rw [h]; exact Int32.toInt_mod _ _
  simp only [Nat.reducePow, Int.cast_ofNat_Int] at q
  have h0 : 0 ≤ (k &&& (2147483647 : Int32)).toInt := by omega
  rw [Int.tmod_eq_emod_of_nonneg h0] at e
  have h1 : nn.toInt = 0 ∨ nn.toInt = 1 ∨ nn.toInt = 2 ∨ nn.toInt = 3 ∨ nn.toInt = 4 := by omega
  rcases h1 with z | z | z | z | z
  · exact Or.inl (Int32.toInt_inj.mp z)
  · exact Or.inr (Or.inl (Int32.toInt_inj.mp z))
  · exact Or.inr (Or.inr (Or.inl (Int32.toInt_inj.mp z)))
  · exact Or.inr (Or.inr (Or.inr (Or.inl (Int32.toInt_inj.mp z))))
  · exact Or.inr (Or.inr (Or.inr (Or.inr (Int32.toInt_inj.mp z))))
def PCH (Z : State) (h0 : Heap) (vm : Vm) : Prop := CHv Z consts_1 vm h0
theorem ef_0 (m : MethodId) (p0 : Int32) (p1 : Int32) (p2 : Int32) (p3 : Int32) (p4 : Int32) : entryFrame m #[(.int p0), (.int p1), (.int p2), (.int p3), (.int p4)] maxLocals = mkF m 0 #[.val (.int p0), .val (.int p1), .val (.int p2), .val (.int p3), .val (.int p4), .unset, .unset, .unset, .unset, .unset, .unset, .unset, .unset] [] := by first | (simp [entryFrame, mkF, argsToLocals, Value.category, maxLocals]; done) | rfl
theorem rm0 (l : Launch) (Z : State) (az : Array Value) (hw : HW az Z) (ws : List Jvm.Cond) (p0 : Int32) (p1 : Int32) (p2 : Int32) (p3 : Int32) (p4 : Int32) (zc : Int32) (fm : Value) (h0 : Heap) (n0 : Nat) (Z0 : n0 ≤ h0.size) (S_C : tS0 Z h0 (.int zc)) (hzc : ¬ zc = 0) (S_F : tS1 Z h0 fm) (hfm : fm.isRef = true) (S_A : tS2 Z h0 (.int 1)) (S_H : tS3 Z h0 (.int 0)) (S_L : tS4 Z h0 (.int 8)) :
    MetFree l x (head1 (Jvm.Cond.code x code maxLocals ret :: ws) room_1) (fun a U => a = #[(.int p0), (.int p1), (.int p2), (.int p3), (.int p4)] ∧ Z.Warmed39 U.vm ∧ U.heap = h0 ∧ (PCH Z h0) U.vm) (fun _ _ _ _ _ => True) (fun _ U o U' => ∃ v L, o = .returned v ∧ (LQW n0) v U'.heap U'.vm L ∧ ReturnedEndW U o U' L room_1.cells room_1.slots) := by
  refine MetFree.of_bodySF (plainFor_of_name pn_5) hisR ?_
  intro p e s m args below meth c s₁ Bd hml0 hP hK
  obtain ⟨rfl, hZ, hh, Hc⟩ := hP
  have hx := Bd.exec
  have hby := Bd.bytes
  have hlk : meth.locks = false := Bd.notSynchronized
  have hml : c.maxLocals = 13 := hml0
  have hown : s.vm.findClass "com/example/winj/winj/storage/Utf8EncodesPinLaw" = some m.cls := findClass_of_methodNamed Bd.named
  have X0 : Stand p l e room_1 s m #[(.int p0), (.int p1), (.int p2), (.int p3), (.int p4)] below meth c s₁ [] 0 0 := Stand.of_body Bd
  have X0 : Stand p l e room_1 (s.setVm s.vm) m #[(.int p0), (.int p1), (.int p2), (.int p3), (.int p4)] below meth c s₁ [] 0 0 := X0
  have e0 : s₁.heap = h0 := by rw [← hh, Bd.state]; rfl
  have hS : s.Since s.vm n0 := (State.WarmedH.refl s).since n0
  have hk : n0 ≤ h0.size := Z0
  have N0 := Fr.nil n0
  show GoW p e below s ((LQW n0)) room_1.cells room_1.slots (s₁.setTop (entryFrame m #[(.int p0), (.int p1), (.int p2), (.int p3), (.int p4)] maxLocals))
  rw [ef_0 m p0 p1 p2 p3 p4]
  refine GoW.st (S' := s₁.setTop (mkF m 6 #[vi p0, vi p1, vi p2, vi p3, vi p4, .unset, .unset, .unset, .unset, .unset, .unset, .unset, .unset] [.int ((p0 &&& (2147483647 : Int32)) % (5 : Int32))])) (fun _ kk => XS.iloadN X0.here hx rfl (hb hby at_0) rfl (X0.ldcInt hx hown (mvT hZ (ow hw 0 rfl)) (g := (mkF m 1 #[vi p0, vi p1, vi p2, vi p3, vi p4, .unset, .unset, .unset, .unset, .unset, .unset, .unset, .unset] [.int p0])) rfl (hb hby at_1) _ (XS.iand X0.here hx rfl (hb hby at_3) rfl (XS.iconst X0.here hx rfl (hb hby at_4) (iremM (g := (mkF m 5 #[vi p0, vi p1, vi p2, vi p3, vi p4, .unset, .unset, .unset, .unset, .unset, .unset, .unset, .unset] [.int 5, .int (p0 &&& (2147483647 : Int32))])) X0 hx rfl (hb hby at_5) rfl (by decide) kk))))) ?_
  obtain ⟨nn, h_nn⟩ : ∃ z : Int32, z = ((p0 &&& (2147483647 : Int32)) % (5 : Int32)) := ⟨_, rfl⟩
  rw [← h_nn]
  refine GoW.st (S' := s₁.setTop (mkF m 9 #[vi p0, vi p1, vi p2, vi p3, vi p4, vi nn, .unset, .unset, .unset, .unset, .unset, .unset, .unset] [.int p1])) (fun _ kk => XS.istore X0.here hx rfl (hb hby at_6) rfl (l' := #[vi p0, vi p1, vi p2, vi p3, vi p4, vi nn, .unset, .unset, .unset, .unset, .unset, .unset, .unset]) rfl (XS.iloadN X0.here hx rfl (hb hby at_8) rfl kk)) ?_
  obtain ⟨_, _, ⟨T1, L1, k1, n1⟩, -, X1, ⟨Lc1, hQ1, l1, y1, z1⟩, st1⟩ := Jvm.LawKit.callS X0 hx (y := mN2) hown (mvT hZ (ow hw 1 rfl)) (mvT hZ (ow hw 2 rfl)) (mvT hZ (ow hw 3 rfl)) (mvT hZ (ow hw 4 rfl)) (by decide) (backOf (W := 0) (rmDr l Z az hw [] p1 h0 n0 Z0) hZ (ow hw 4 rfl) (ow hw 3 rfl) (by decide) (by decide)) (g := (mkF m 9 #[vi p0, vi p1, vi p2, vi p3, vi p4, vi nn, .unset, .unset, .unset, .unset, .unset, .unset, .unset] [.int p1])) rfl (by rw [hml]; rfl) (argsL := [.int p1]) (rest := []) (lenOf pd_0 rfl) rfl (oW rfl rfl) (hb hby at_9) (fun _ _ => ⟨rfl, e0, (by decide : 0 + 0 ≤ _), (by decide : 0 + 0 ≤ _)⟩)
  dsimp only [Pt.U, Pt.locs, Pt.cells, Pt.slots] at X1 l1 y1 z1 st1 hQ1
  subst l1 y1 z1
  obtain ⟨x0, hv1, N1q, e1, hb_x0⟩ := hQ1
  subst hv1
  have N1 := Fr.app N0 N1q
  refine GoW.st (S' := T1.setTop (mkF m 15 #[vi p0, vi p1, vi p2, vi p3, vi p4, vi nn, vi x0, .unset, .unset, .unset, .unset, .unset, .unset] [.int p2])) (fun _ kk => st1 _ (XS.istore X1.here hx rfl (hb hby at_12) rfl (l' := #[vi p0, vi p1, vi p2, vi p3, vi p4, vi nn, vi x0, .unset, .unset, .unset, .unset, .unset, .unset]) rfl (XS.iloadN X1.here hx rfl (hb hby at_14) rfl kk))) ?_
  obtain ⟨_, _, ⟨T2, L2, k2, n2⟩, -, X2, ⟨Lc2, hQ2, l2, y2, z2⟩, st2⟩ := Jvm.LawKit.callS X1 hx (y := mN2) hown (mvT hZ (ow hw 1 rfl)) (mvT hZ (ow hw 2 rfl)) (mvT hZ (ow hw 3 rfl)) (mvT hZ (ow hw 4 rfl)) (by decide) (backOf (W := 0) (rmDr l Z az hw [] p2 h0 n0 Z0) hZ (ow hw 4 rfl) (ow hw 3 rfl) (by decide) (by decide)) (g := (mkF m 15 #[vi p0, vi p1, vi p2, vi p3, vi p4, vi nn, vi x0, .unset, .unset, .unset, .unset, .unset, .unset] [.int p2])) rfl (by rw [hml]; rfl) (argsL := [.int p2]) (rest := []) (lenOf pd_0 rfl) rfl (oW rfl rfl) (hb hby at_15) (fun _ _ => ⟨rfl, e1, (by decide : 0 + 0 ≤ _), (by decide : 0 + 0 ≤ _)⟩)
  dsimp only [Pt.U, Pt.locs, Pt.cells, Pt.slots] at X2 l2 y2 z2 st2 hQ2
  subst l2 y2 z2
  obtain ⟨x1, hv2, N2q, e2, hb_x1⟩ := hQ2
  subst hv2
  have N2 := Fr.app N1 N2q
  refine GoW.st (S' := T2.setTop (mkF m 21 #[vi p0, vi p1, vi p2, vi p3, vi p4, vi nn, vi x0, vi x1, .unset, .unset, .unset, .unset, .unset] [.int p3])) (fun _ kk => st2 _ (XS.istore X2.here hx rfl (hb hby at_18) rfl (l' := #[vi p0, vi p1, vi p2, vi p3, vi p4, vi nn, vi x0, vi x1, .unset, .unset, .unset, .unset, .unset]) rfl (XS.iloadN X2.here hx rfl (hb hby at_20) rfl kk))) ?_
  obtain ⟨_, _, ⟨T3, L3, k3, n3⟩, -, X3, ⟨Lc3, hQ3, l3, y3, z3⟩, st3⟩ := Jvm.LawKit.callS X2 hx (y := mN2) hown (mvT hZ (ow hw 1 rfl)) (mvT hZ (ow hw 2 rfl)) (mvT hZ (ow hw 3 rfl)) (mvT hZ (ow hw 4 rfl)) (by decide) (backOf (W := 0) (rmDr l Z az hw [] p3 h0 n0 Z0) hZ (ow hw 4 rfl) (ow hw 3 rfl) (by decide) (by decide)) (g := (mkF m 21 #[vi p0, vi p1, vi p2, vi p3, vi p4, vi nn, vi x0, vi x1, .unset, .unset, .unset, .unset, .unset] [.int p3])) rfl (by rw [hml]; rfl) (argsL := [.int p3]) (rest := []) (lenOf pd_0 rfl) rfl (oW rfl rfl) (hb hby at_21) (fun _ _ => ⟨rfl, e2, (by decide : 0 + 0 ≤ _), (by decide : 0 + 0 ≤ _)⟩)
  dsimp only [Pt.U, Pt.locs, Pt.cells, Pt.slots] at X3 l3 y3 z3 st3 hQ3
  subst l3 y3 z3
  obtain ⟨x2, hv3, N3q, e3, hb_x2⟩ := hQ3
  subst hv3
  have N3 := Fr.app N2 N3q
  refine GoW.st (S' := T3.setTop (mkF m 28 #[vi p0, vi p1, vi p2, vi p3, vi p4, vi nn, vi x0, vi x1, vi x2, .unset, .unset, .unset, .unset] [.int p4])) (fun _ kk => st3 _ (XS.istore X3.here hx rfl (hb hby at_24) rfl (l' := #[vi p0, vi p1, vi p2, vi p3, vi p4, vi nn, vi x0, vi x1, vi x2, .unset, .unset, .unset, .unset]) rfl (XS.iload X3.here hx rfl (hb hby at_26) rfl kk))) ?_
  obtain ⟨_, _, ⟨T4, L4, k4, n4⟩, -, X4, ⟨Lc4, hQ4, l4, y4, z4⟩, st4⟩ := Jvm.LawKit.callS X3 hx (y := mN2) hown (mvT hZ (ow hw 1 rfl)) (mvT hZ (ow hw 2 rfl)) (mvT hZ (ow hw 3 rfl)) (mvT hZ (ow hw 4 rfl)) (by decide) (backOf (W := 0) (rmDr l Z az hw [] p4 h0 n0 Z0) hZ (ow hw 4 rfl) (ow hw 3 rfl) (by decide) (by decide)) (g := (mkF m 28 #[vi p0, vi p1, vi p2, vi p3, vi p4, vi nn, vi x0, vi x1, vi x2, .unset, .unset, .unset, .unset] [.int p4])) rfl (by rw [hml]; rfl) (argsL := [.int p4]) (rest := []) (lenOf pd_0 rfl) rfl (oW rfl rfl) (hb hby at_28) (fun _ _ => ⟨rfl, e3, (by decide : 0 + 0 ≤ _), (by decide : 0 + 0 ≤ _)⟩)
  dsimp only [Pt.U, Pt.locs, Pt.cells, Pt.slots] at X4 l4 y4 z4 st4 hQ4
  subst l4 y4 z4
  obtain ⟨x3, hv4, N4q, e4, hb_x3⟩ := hQ4
  subst hv4
  have N4 := Fr.app N3 N4q
  refine GoW.st (S' := T4.setTop (mkF m 33 #[vi p0, vi p1, vi p2, vi p3, vi p4, vi nn, vi x0, vi x1, vi x2, vi x3, .unset, .unset, .unset] [])) (fun _ kk => st4 _ (XS.istore X4.here hx rfl (hb hby at_31) rfl (l' := #[vi p0, vi p1, vi p2, vi p3, vi p4, vi nn, vi x0, vi x1, vi x2, vi x3, .unset, .unset, .unset]) rfl kk)) ?_
  rcases own_mod5 h_nn with hnn | hnn | hnn | hnn | hnn
  · subst hnn
    refine GoW.st (S' := T4.setTop (mkF m 39 #[vi p0, vi p1, vi p2, vi p3, vi p4, vi 0, vi x0, vi x1, vi x2, vi x3, .unset, .unset, .unset] [.int 0])) (fun _ kk => XS.iload X4.here hx rfl (hb hby at_33) rfl (XS.ifNo X4.here hx rfl (hb hby at_35) rfl ((if0 _ _).trans (teq (by decide : (0 : Int32) = (0 : Int32))).2) (XS.iconst X4.here hx rfl (hb hby at_38) kk))) ?_
    obtain ⟨T5, h5, k5, X5, e5, E5, A5, E_b5, st5⟩ := newPE X4 hx hZ (ow hw 5 rfl) e4 (g := (mkF m 39 #[vi p0, vi p1, vi p2, vi p3, vi p4, vi 0, vi x0, vi x1, vi x2, vi x3, .unset, .unset, .unset] [.int 0])) rfl (hb hby at_39) rfl (by decide) (cap := 0) (by decide) (by decide) (by decide : 0 + 1 ≤ _) (by decide : 0 + 0 ≤ _) (ad := "[C") rfl
    obtain ⟨b5, g5⟩ : ∃ z, z = h0.size := ⟨_, rfl⟩
    rw [← g5] at A5 E_b5 st5
    have g_b5 : n0 ≤ b5 := Nat.le_trans Z0 (Nat.le_of_eq g5.symm)
    have Sf_b5 : Safe Z consts_1 s.vm h0 b5 := Safe.new (Nat.le_of_eq g5.symm)
    have Sf_b5' := Safe.ext E5 Hc Sf_b5
    have Hc := CHv.ext E5 Hc
    have Sf_b5 := Sf_b5'
    have S_C := S_C.ext E5
    have S_F := S_F.ext E5
    have S_A := S_A.ext E5
    have S_H := S_H.ext E5
    have S_L := S_L.ext E5
    have Zs6 := Nat.le_trans Z0 E5.1
    have hk := Nat.le_trans hk E5.1
    have V_b5 : Arv Z h5 b5 k5 .char (0 : Int32) [] (.int 0) := (Arv.new A5 (by decide)).pad (pad_rep [] (.int 0) 0)
    refine GoW.st (S' := T5.setTop (mkF m 143 #[vi p0, vi p1, vi p2, vi p3, vi p4, vi 0, vi x0, vi x1, vi x2, vi x3, vr b5, .unset, .unset] [])) (fun _ kk => st5 _ (XS.astore X5.here hx rfl (hb hby at_41) rfl rfl (l' := #[vi p0, vi p1, vi p2, vi p3, vi p4, vi 0, vi x0, vi x1, vi x2, vi x3, vr b5, .unset, .unset]) rfl (XS.goto X5.here hx rfl (pc0 := 43) (pc' := 143) rfl (hb hby at_43) (by decide) (by decide) kk))) ?_
    obtain ⟨T7, h7, X7, e7, E7, A7, D7, -, st7⟩ := newO X5 hx hZ hown (ow hw 6 rfl) (ow hw 7 rfl) (ow hw 8 rfl) e5 (g := (mkF m 143 #[vi p0, vi p1, vi p2, vi p3, vi p4, vi 0, vi x0, vi x1, vi x2, vi x3, vr b5, .unset, .unset] [])) rfl (hb hby at_143) (by decide : 1 + 1 ≤ _) (by decide : 0 + 4 ≤ _)
    obtain ⟨b7, g7⟩ : ∃ z, z = h5.size := ⟨_, rfl⟩
    rw [← g7] at A7 D7 st7
    have ne_b5_b7 : b5 ≠ b7 := Nat.ne_of_lt (Nat.lt_of_lt_of_le E_b5.lt (Nat.le_of_eq g7.symm))
    have g_b7 : n0 ≤ b7 := Nat.le_trans Zs6 (Nat.le_of_eq g7.symm)
    have Sf_b7 : Safe Z consts_1 s.vm h5 b7 := Safe.new (Nat.le_of_eq g7.symm)
    have Sf_b5' := Safe.ext E7 Hc Sf_b5
    have Sf_b7' := Safe.ext E7 Hc Sf_b7
    have Hc := CHv.ext E7 Hc
    have Sf_b5 := Sf_b5'
    have Sf_b7 := Sf_b7'
    have S_C := S_C.ext E7
    have S_F := S_F.ext E7
    have S_A := S_A.ext E7
    have S_H := S_H.ext E7
    have S_L := S_L.ext E7
    have E_b5 := E_b5.ext E7
    have V_b5 := V_b5.ext E7
    have Zs8 := Nat.le_trans Zs6 E7.1
    have hk := Nat.le_trans hk E7.1
    have E_b7 := A7
    have F_value_b7 : tF1 Z h7 b7 .null := D7 (Or.inr (ow hw 21 rfl)) (ty := (.array .byte)) (by decide)
    have F_coder_b7 : tF0 Z h7 b7 (.int 0) := D7 (Or.inr (ow hw 22 rfl)) (ty := .byte) (by decide)
    refine GoW.st (S' := T7.setTop (mkF m 149 #[vi p0, vi p1, vi p2, vi p3, vi p4, vi 0, vi x0, vi x1, vi x2, vi x3, vr b5, .unset, .unset] [.ref b5, .ref b7, .ref b7])) (fun _ kk => st7 _ (XS.dup X7.here hx rfl (hb hby at_146) rfl rfl (XS.aload X7.here hx rfl (hb hby at_147) rfl rfl kk))) ?_
    obtain ⟨_, _, ⟨T9, L9, k9, n9⟩, -, X9, hS9, hg9, ⟨Lc9, hQ9, l9, y9, z9⟩, st9⟩ := X7.specialBackS hx (y := mN9) rfl hown (mvT hZ (ow hw 9 rfl)) (mvT hZ (ow hw 10 rfl)) (mvT hZ (ow hw 11 rfl)) (by decide) (own_backS (W := 1) (P := PCS Z h7 b7) (rmI1_0 l Z az hw [] b7 b5 k5 h7 n0 Zs8 E_b7 F_coder_b7 F_value_b7 g_b7 (Ne.symm ne_b5_b7) V_b5 ) hZ (ow hw 11 rfl) (ow hw 8 rfl) (by decide) (by decide)) (g := (mkF m 149 #[vi p0, vi p1, vi p2, vi p3, vi p4, vi 0, vi x0, vi x1, vi x2, vi x3, vr b5, .unset, .unset] [.ref b5, .ref b7, .ref b7])) rfl (by rw [hml]; rfl) (Steps.refl _) (a := b7) (argsL := [.ref b5]) (rest := [.ref b7]) (lenOf pd_1 rfl) rfl (oW rfl rfl) (hb hby at_149) (fun vmq hvq => ⟨rfl, e7, ⟨(own_chat hZ hvq (own_EW hw) Hc).1, (own_chat hZ hvq (own_EW hw) Hc).safe E_b7.lt Sf_b7⟩, (by decide : 2 + 2 ≤ _), (by decide : 4 + 4 ≤ _)⟩)
    dsimp only [Pt.U, Pt.locs, Pt.cells, Pt.slots] at X9 l9 y9 z9 st9 hQ9 hS9 hg9
    subst l9 y9 z9
    obtain ⟨X9, hS, hZ, hown⟩ := rebS hS (own_hk e7 hk) X9 hS9 hg9 hZ hown
    obtain ⟨rfl, N9q, K9, Hc9, Ec9, Fc9, d9, kd9, Fv9, V_d9⟩ := hQ9
    have N9 := Fr.app N4 N9q
    have S_C := own_stak K9 (allS (P := fun x => ∀ cell : Cell, (h7)[x]? = some cell → cell.vm.isStatics = false) (Exa.nostat E_b7) all0) S_C
    have S_F := own_stak K9 (allS (P := fun x => ∀ cell : Cell, (h7)[x]? = some cell → cell.vm.isStatics = false) (Exa.nostat E_b7) all0) S_F
    have S_A := own_stak K9 (allS (P := fun x => ∀ cell : Cell, (h7)[x]? = some cell → cell.vm.isStatics = false) (Exa.nostat E_b7) all0) S_A
    have S_H := own_stak K9 (allS (P := fun x => ∀ cell : Cell, (h7)[x]? = some cell → cell.vm.isStatics = false) (Exa.nostat E_b7) all0) S_H
    have S_L := own_stak K9 (allS (P := fun x => ∀ cell : Cell, (h7)[x]? = some cell → cell.vm.isStatics = false) (Exa.nostat E_b7) all0) S_L
    have E_b5 := E_b5.keep K9
    have V_b5 := V_b5.keep K9 (ninS ne_b5_b7 nin0)
    have E_b7 := E_b7.keep K9
    have Zs10 := Nat.le_trans Zs8 K9.1
    have hk := Nat.le_trans hk K9.1
    have Hc := Hc9
    have CS9 : CSt Z T9.heap b7 [] := ⟨Ec9, 0, d9, _, 0, [], Fc9, Fv9, V_d9, Or.inl ⟨rfl, rfl, rfl, fun _ hx => nomatch hx⟩⟩
    have hk : T9.heap.size ≤ (T9.heap).size := Nat.le_of_eq (congrArg Array.size (show T9.heap = T9.heap from rfl))
    refine GoW.st (S' := T9.setTop (mkF m 285 #[vi p0, vi p1, vi p2, vi p3, vi p4, vi 0, vi x0, vi x1, vi x2, vi x3, vr b5, vr b7, vi 1] [.int 0])) (fun _ kk => st9.trans (XS.astore X9.here hx rfl (hb hby at_152) rfl rfl (l' := #[vi p0, vi p1, vi p2, vi p3, vi p4, vi 0, vi x0, vi x1, vi x2, vi x3, vr b5, vr b7, .unset]) rfl (XS.iconst X9.here hx rfl (hb hby at_154) (XS.istore X9.here hx rfl (hb hby at_155) rfl (l' := #[vi p0, vi p1, vi p2, vi p3, vi p4, vi 0, vi x0, vi x1, vi x2, vi x3, vr b5, vr b7, vi 1]) rfl (XS.iload X9.here hx rfl (hb hby at_157) rfl (XS.iconst X9.here hx rfl (hb hby at_159) (XS.icmpYes X9.here hx rfl (pc0 := 160) (pc' := 199) rfl (hb hby at_160) rfl (tlt (by decide : (0 : Int32) < (1 : Int32))).1 (by decide) (by decide) (XS.iload X9.here hx rfl (hb hby at_199) rfl (XS.iconst X9.here hx rfl (hb hby at_201) (XS.icmpYes X9.here hx rfl (pc0 := 202) (pc' := 241) rfl (hb hby at_202) rfl (tlt (by decide : (0 : Int32) < (2 : Int32))).1 (by decide) (by decide) (XS.iload X9.here hx rfl (hb hby at_241) rfl (XS.iconst X9.here hx rfl (hb hby at_243) (XS.icmpYes X9.here hx rfl (pc0 := 244) (pc' := 283) rfl (hb hby at_244) rfl (tlt (by decide : (0 : Int32) < (3 : Int32))).1 (by decide) (by decide) (XS.iload X9.here hx rfl (hb hby at_283) rfl kk)))))))))))))) ?_
    refine GoW.st (S' := T9.setTop (mkF m 317 #[vi p0, vi p1, vi p2, vi p3, vi p4, vi 0, vi x0, vi x1, vi x2, vi x3, vr b5, vr b7, vi 1] [.ref b7])) (fun _ kk => XS.iconst X9.here hx rfl (hb hby at_285) (XS.icmpYes X9.here hx rfl (pc0 := 286) (pc' := 315) rfl (hb hby at_286) rfl (tlt (by decide : (0 : Int32) < (4 : Int32))).1 (by decide) (by decide) (XS.aload X9.here hx rfl (hb hby at_315) rfl rfl kk))) ?_
    obtain ⟨_, _, ⟨T11, L11, k11, n11⟩, -, X11, ⟨Lc11, hQ11, l11, y11, z11⟩, st11⟩ := Jvm.LawKit.callS X9 hx (y := mN0) hown (mvT hZ (ow hw 27 rfl)) (mvT hZ (ow hw 28 rfl)) (mvT hZ (ow hw 29 rfl)) (mvT hZ (ow hw 30 rfl)) (by decide) (backOf (W := 0) (rmEn l Z az hw [] b7 zc fm ([] : List Int32) (0 : Int32) T9.heap n0 Zs10 S_C hzc S_F hfm S_A S_H S_L CS9 Ec9 rfl) hZ (ow hw 30 rfl) (ow hw 29 rfl) (by decide) (by decide)) (g := (mkF m 317 #[vi p0, vi p1, vi p2, vi p3, vi p4, vi 0, vi x0, vi x1, vi x2, vi x3, vr b5, vr b7, vi 1] [.ref b7])) rfl (by rw [hml]; rfl) (argsL := [.ref b7]) (rest := []) (lenOf pd_4 rfl) rfl (oW rfl rfl) (hb hby at_317) (fun _ _ => ⟨rfl, rfl, (by decide : 4 + 0 ≤ _), (by decide : 8 + 0 ≤ _)⟩)
    dsimp only [Pt.U, Pt.locs, Pt.cells, Pt.slots] at X11 l11 y11 z11 st11 hQ11
    subst l11 y11 z11
    obtain ⟨hv11, N11q, e11⟩ := hQ11
    subst hv11
    have N11 := Fr.app N9 N11q
    refine GoW.st (S' := T11.setTop (mkF m 322 #[vi p0, vi p1, vi p2, vi p3, vi p4, vi 0, vi x0, vi x1, vi x2, vi x3, vr b5, vr b7, vi 1] [.int 1, .int (own_enc ([] : List Int32))])) (fun _ kk => st11 _ (XS.iload X11.here hx rfl (hb hby at_320) rfl kk)) ?_
    have hfin : (own_enc ([] : List Int32)) = (1 : Int32) := by rfl
    refine GoW.st (S' := T11.setTop (mkF m 330 #[vi p0, vi p1, vi p2, vi p3, vi p4, vi 0, vi x0, vi x1, vi x2, vi x3, vr b5, vr b7, vi 1] [.int 1])) (fun _ kk => XS.icmpNo X11.here hx rfl (hb hby at_322) rfl (teq hfin).2 (XS.iconst X11.here hx rfl (hb hby at_325) (XS.goto X11.here hx rfl (pc0 := 326) (pc' := 330) rfl (hb hby at_326) (by decide) (by decide) kk))) ?_
    exact GoW.retN X11 hx hlk hS (own_hk e11 hk) (t := .boolean) Bd.returns (by simp) (hb hby at_330) (⟨rfl, N11⟩) (by decide) (by decide)
  · subst hnn
    refine GoW.st (S' := T4.setTop (mkF m 53 #[vi p0, vi p1, vi p2, vi p3, vi p4, vi 1, vi x0, vi x1, vi x2, vi x3, .unset, .unset, .unset] [.int 1])) (fun _ kk => XS.iload X4.here hx rfl (hb hby at_33) rfl (XS.ifYes X4.here hx rfl (pc0 := 35) (pc' := 46) rfl (hb hby at_35) rfl ((if0 _ _).trans (feq (by decide : ¬ ((1 : Int32) = (0 : Int32)))).2) (by decide) (by decide) (XS.iload X4.here hx rfl (hb hby at_46) rfl (XS.iconst X4.here hx rfl (hb hby at_48) (XS.icmpNo X4.here hx rfl (hb hby at_49) rfl (teq (by decide : (1 : Int32) = (1 : Int32))).2 (XS.iconst X4.here hx rfl (hb hby at_52) kk)))))) ?_
    obtain ⟨T12, h12, k12, X12, e12, E12, A12, E_b12, st12⟩ := newPE X4 hx hZ (ow hw 5 rfl) e4 (g := (mkF m 53 #[vi p0, vi p1, vi p2, vi p3, vi p4, vi 1, vi x0, vi x1, vi x2, vi x3, .unset, .unset, .unset] [.int 1])) rfl (hb hby at_53) rfl (by decide) (cap := 1) (by decide) (by decide) (by decide : 0 + 1 ≤ _) (by decide : 0 + 1 ≤ _) (ad := "[C") rfl
    obtain ⟨b12, g12⟩ : ∃ z, z = h0.size := ⟨_, rfl⟩
    rw [← g12] at A12 E_b12 st12
    have g_b12 : n0 ≤ b12 := Nat.le_trans Z0 (Nat.le_of_eq g12.symm)
    have Sf_b12 : Safe Z consts_1 s.vm h0 b12 := Safe.new (Nat.le_of_eq g12.symm)
    have Sf_b12' := Safe.ext E12 Hc Sf_b12
    have Hc := CHv.ext E12 Hc
    have Sf_b12 := Sf_b12'
    have S_C := S_C.ext E12
    have S_F := S_F.ext E12
    have S_A := S_A.ext E12
    have S_H := S_H.ext E12
    have S_L := S_L.ext E12
    have Zs13 := Nat.le_trans Z0 E12.1
    have hk := Nat.le_trans hk E12.1
    have V_b12 : Arv Z h12 b12 k12 .char (1 : Int32) [(.int 0)] (.int 0) := (Arv.new A12 (by decide)).pad (pad_rep [] (.int 0) 1)
    refine GoW.st (S' := T12.setTop (mkF m 59 #[vi p0, vi p1, vi p2, vi p3, vi p4, vi 1, vi x0, vi x1, vi x2, vi x3, .unset, .unset, .unset] [.int x0, .int 0, .ref b12, .ref b12])) (fun _ kk => st12 _ (XS.dup X12.here hx rfl (hb hby at_55) rfl rfl (XS.iconst X12.here hx rfl (hb hby at_56) (XS.iload X12.here hx rfl (hb hby at_57) rfl kk)))) ?_
    obtain ⟨cl14, Ar14, qk14, S14, Ng14, H14, G14⟩ := (id V_b12)
    have hin14 : ¬ ((0 : Int32) < 0 ∨ cl14.slots.size ≤ ((0 : Int32)).toNatClampNeg) := inb_of S14 ⟨by decide, by decide⟩
    obtain ⟨T14, h14, X14, e14, W14, st14⟩ := stC X12 hx hZ e12 Ar14 (j := (0 : Int32)) hin14 (g := (mkF m 59 #[vi p0, vi p1, vi p2, vi p3, vi p4, vi 1, vi x0, vi x1, vi x2, vi x3, .unset, .unset, .unset] [.int x0, .int 0, .ref b12, .ref b12])) rfl rfl (hb hby at_59)
    have V_b12 : Arv Z h14 b12 k12 .char (1 : Int32) [(.int (x0.toUInt32.toUInt16.toUInt32.toInt32))] (.int 0) := Arv.set Ar14 qk14 S14 Ng14 H14 G14 (fits_nar_char _) W14 0 rfl (Nat.le_of_ble_eq_true rfl)
    have N14 := Fr.snoc X14 N4 g_b12
    have Sf_b12' := Safe.wr W14 Sf_b12 Hc Sf_b12
    have Hc := CHv.wr W14 Sf_b12 Hc
    have Sf_b12 := Sf_b12'
    have S_C := S_C.wr W14
    have S_F := S_F.wr W14
    have S_A := S_A.wr W14
    have S_H := S_H.wr W14
    have S_L := S_L.wr W14
    have E_b12 := E_b12.wr W14
    have Zs15 := Nat.le_trans Zs13 (Keep.of_wr W14).1
    have hk := Nat.le_trans hk (Keep.of_wr W14).1
    refine GoW.st (S' := T14.setTop (mkF m 143 #[vi p0, vi p1, vi p2, vi p3, vi p4, vi 1, vi x0, vi x1, vi x2, vi x3, vr b12, .unset, .unset] [])) (fun _ kk => st14 _ (XS.astore X14.here hx rfl (hb hby at_60) rfl rfl (l' := #[vi p0, vi p1, vi p2, vi p3, vi p4, vi 1, vi x0, vi x1, vi x2, vi x3, vr b12, .unset, .unset]) rfl (XS.goto X14.here hx rfl (pc0 := 62) (pc' := 143) rfl (hb hby at_62) (by decide) (by decide) kk))) ?_
    obtain ⟨T16, h16, X16, e16, E16, A16, D16, -, st16⟩ := newO X14 hx hZ hown (ow hw 6 rfl) (ow hw 7 rfl) (ow hw 8 rfl) e14 (g := (mkF m 143 #[vi p0, vi p1, vi p2, vi p3, vi p4, vi 1, vi x0, vi x1, vi x2, vi x3, vr b12, .unset, .unset] [])) rfl (hb hby at_143) (by decide : 1 + 1 ≤ _) (by decide : 1 + 4 ≤ _)
    obtain ⟨b16, g16⟩ : ∃ z, z = h14.size := ⟨_, rfl⟩
    rw [← g16] at A16 D16 st16
    have ne_b12_b16 : b12 ≠ b16 := Nat.ne_of_lt (Nat.lt_of_lt_of_le E_b12.lt (Nat.le_of_eq g16.symm))
    have g_b16 : n0 ≤ b16 := Nat.le_trans Zs15 (Nat.le_of_eq g16.symm)
    have Sf_b16 : Safe Z consts_1 s.vm h14 b16 := Safe.new (Nat.le_of_eq g16.symm)
    have Sf_b12' := Safe.ext E16 Hc Sf_b12
    have Sf_b16' := Safe.ext E16 Hc Sf_b16
    have Hc := CHv.ext E16 Hc
    have Sf_b12 := Sf_b12'
    have Sf_b16 := Sf_b16'
    have S_C := S_C.ext E16
    have S_F := S_F.ext E16
    have S_A := S_A.ext E16
    have S_H := S_H.ext E16
    have S_L := S_L.ext E16
    have E_b12 := E_b12.ext E16
    have V_b12 := V_b12.ext E16
    have Zs17 := Nat.le_trans Zs15 E16.1
    have hk := Nat.le_trans hk E16.1
    have E_b16 := A16
    have F_value_b16 : tF1 Z h16 b16 .null := D16 (Or.inr (ow hw 21 rfl)) (ty := (.array .byte)) (by decide)
    have F_coder_b16 : tF0 Z h16 b16 (.int 0) := D16 (Or.inr (ow hw 22 rfl)) (ty := .byte) (by decide)
    refine GoW.st (S' := T16.setTop (mkF m 149 #[vi p0, vi p1, vi p2, vi p3, vi p4, vi 1, vi x0, vi x1, vi x2, vi x3, vr b12, .unset, .unset] [.ref b12, .ref b16, .ref b16])) (fun _ kk => st16 _ (XS.dup X16.here hx rfl (hb hby at_146) rfl rfl (XS.aload X16.here hx rfl (hb hby at_147) rfl rfl kk))) ?_
    obtain ⟨_, _, ⟨T18, L18, k18, n18⟩, -, X18, ⟨Lc18, hQ18, l18, y18, z18⟩, st18⟩ := X16.specialBack hx (y := mN9) rfl hown (mvT hZ (ow hw 9 rfl)) (mvT hZ (ow hw 10 rfl)) (mvT hZ (ow hw 11 rfl)) (by decide) (backOf (W := 1) (rmI1_1 l Z az hw [] b16 b12 zc fm k12 (x0.toUInt32.toUInt16.toUInt32.toInt32) h16 n0 Zs17 S_C hzc S_F hfm S_A S_H S_L E_b16 F_coder_b16 F_value_b16 g_b16 (Ne.symm ne_b12_b16) V_b12  (own_bdc x0) ) hZ (ow hw 11 rfl) (ow hw 8 rfl) (by decide) (by decide)) (g := (mkF m 149 #[vi p0, vi p1, vi p2, vi p3, vi p4, vi 1, vi x0, vi x1, vi x2, vi x3, vr b12, .unset, .unset] [.ref b12, .ref b16, .ref b16])) rfl (by rw [hml]; rfl) (Steps.refl _) (a := b16) (argsL := [.ref b12]) (rest := [.ref b16]) (lenOf pd_1 rfl) rfl (oW rfl rfl) (hb hby at_149) (fun _ _ => ⟨rfl, e16, (by decide : 2 + 2 ≤ _), (by decide : 5 + 3 ≤ _)⟩)
    dsimp only [Pt.U, Pt.locs, Pt.cells, Pt.slots] at X18 l18 y18 z18 st18 hQ18
    subst l18 y18 z18
    obtain ⟨rfl, N18q, K18, CS18⟩ := hQ18
    have N18 := Fr.app N14 N18q
    have Sf_b12' := Safe.keep K18 (allS (P := Safe Z consts_1 s.vm h16) Sf_b16 all0) Hc Sf_b12
    have Sf_b16' := Safe.keep K18 (allS (P := Safe Z consts_1 s.vm h16) Sf_b16 all0) Hc Sf_b16
    have Hc := CHv.keep K18 (allS (P := Safe Z consts_1 s.vm h16) Sf_b16 all0) Hc
    have Sf_b12 := Sf_b12'
    have Sf_b16 := Sf_b16'
    have S_C := own_stak K18 (allS (P := fun x => ∀ cell : Cell, (h16)[x]? = some cell → cell.vm.isStatics = false) (Exa.nostat E_b16) all0) S_C
    have S_F := own_stak K18 (allS (P := fun x => ∀ cell : Cell, (h16)[x]? = some cell → cell.vm.isStatics = false) (Exa.nostat E_b16) all0) S_F
    have S_A := own_stak K18 (allS (P := fun x => ∀ cell : Cell, (h16)[x]? = some cell → cell.vm.isStatics = false) (Exa.nostat E_b16) all0) S_A
    have S_H := own_stak K18 (allS (P := fun x => ∀ cell : Cell, (h16)[x]? = some cell → cell.vm.isStatics = false) (Exa.nostat E_b16) all0) S_H
    have S_L := own_stak K18 (allS (P := fun x => ∀ cell : Cell, (h16)[x]? = some cell → cell.vm.isStatics = false) (Exa.nostat E_b16) all0) S_L
    have E_b12 := E_b12.keep K18
    have V_b12 := V_b12.keep K18 (ninS ne_b12_b16 nin0)
    have E_b16 := E_b16.keep K18
    have Zs19 := Nat.le_trans Zs17 K18.1
    have hk := Nat.le_trans hk K18.1
    have Ec18 := CS18.1
    refine GoW.st (S' := T18.setTop (mkF m 177 #[vi p0, vi p1, vi p2, vi p3, vi p4, vi 1, vi x0, vi x1, vi x2, vi x3, vr b12, vr b16, vi 1] [.int 1, .int x1, .int x0, .int 0, .int x0])) (fun _ kk => st18.trans (XS.astore X18.here hx rfl (hb hby at_152) rfl rfl (l' := #[vi p0, vi p1, vi p2, vi p3, vi p4, vi 1, vi x0, vi x1, vi x2, vi x3, vr b12, vr b16, .unset]) rfl (XS.iconst X18.here hx rfl (hb hby at_154) (XS.istore X18.here hx rfl (hb hby at_155) rfl (l' := #[vi p0, vi p1, vi p2, vi p3, vi p4, vi 1, vi x0, vi x1, vi x2, vi x3, vr b12, vr b16, vi 1]) rfl (XS.iload X18.here hx rfl (hb hby at_157) rfl (XS.iconst X18.here hx rfl (hb hby at_159) (XS.icmpNo X18.here hx rfl (hb hby at_160) rfl (flt (by decide : ¬ ((1 : Int32) < (1 : Int32)))).1 (XS.iload X18.here hx rfl (hb hby at_163) rfl (XS.ifNo X18.here hx rfl (hb hby at_165) rfl ((if0 _ _).trans (feq (by decide : ¬ ((1 : Int32) = (0 : Int32)))).1) (XS.iload X18.here hx rfl (hb hby at_168) rfl (XS.iconst X18.here hx rfl (hb hby at_170) (XS.iload X18.here hx rfl (hb hby at_171) rfl (XS.iload X18.here hx rfl (hb hby at_173) rfl (XS.iload X18.here hx rfl (hb hby at_175) rfl kk)))))))))))))) ?_
    refine GoW.st (S' := T18.setTop (mkF m 186 #[vi p0, vi p1, vi p2, vi p3, vi p4, vi 1, vi x0, vi x1, vi x2, vi x3, vr b12, vr b16, vi 1] [.int 0, .int x1, .int x0, .int 0, .int x0])) (fun _ kk => XS.iconst X18.here hx rfl (hb hby at_177) (XS.icmpYes X18.here hx rfl (pc0 := 178) (pc' := 185) rfl (hb hby at_178) rfl (flt (by decide : ¬ ((1 : Int32) < (1 : Int32)))).2.2.2 (by decide) (by decide) (XS.iconst X18.here hx rfl (hb hby at_185) kk))) ?_
    obtain ⟨_, _, ⟨T20, L20, k20, n20⟩, -, X20, ⟨Lc20, hQ20, l20, y20, z20⟩, st20⟩ := Jvm.LawKit.callS X18 hx (y := mN5) hown (mvT hZ (ow hw 52 rfl)) (mvT hZ (ow hw 53 rfl)) (mvT hZ (ow hw 3 rfl)) (mvT hZ (ow hw 54 rfl)) (by decide) (backOf (W := 0) (rmU l Z az hw [] x0 (0 : Int32) x0 x1 (0 : Int32)  T18.heap n0 Zs19 ) hZ (ow hw 54 rfl) (ow hw 3 rfl) (by decide) (by decide)) (g := (mkF m 186 #[vi p0, vi p1, vi p2, vi p3, vi p4, vi 1, vi x0, vi x1, vi x2, vi x3, vr b12, vr b16, vi 1] [.int 0, .int x1, .int x0, .int 0, .int x0])) rfl (by rw [hml]; rfl) (argsL := [.int x0, .int 0, .int x0, .int x1, .int 0]) (rest := []) (lenOf pd_10 rfl) rfl (oW rfl rfl) (hb hby at_186) (fun _ _ => ⟨rfl, rfl, (by decide : 4 + 0 ≤ _), (by decide : 8 + 0 ≤ _)⟩)
    dsimp only [Pt.U, Pt.locs, Pt.cells, Pt.slots] at X20 l20 y20 z20 st20 hQ20
    subst l20 y20 z20
    obtain ⟨hv20, N20q, e20⟩ := hQ20
    subst hv20
    have N20 := Fr.app N18 N20q
    refine GoW.st (S' := T20.setTop (mkF m 189 #[vi p0, vi p1, vi p2, vi p3, vi p4, vi 1, vi x0, vi x1, vi x2, vi x3, vr b12, vr b16, vi 1] [.int (fU x0 (0 : Int32) x0 x1 (0 : Int32))])) st20 ?_
    by_cases hc21 : (fU x0 (0 : Int32) x0 x1 (0 : Int32)) = (0 : Int32)
    · refine GoW.st (S' := T20.setTop (mkF m 317 #[vi p0, vi p1, vi p2, vi p3, vi p4, vi 1, vi x0, vi x1, vi x2, vi x3, vr b12, vr b16, vi 0] [.ref b16])) (fun _ kk => XS.ifYes X20.here hx rfl (pc0 := 189) (pc' := 196) rfl (hb hby at_189) rfl ((if0 _ _).trans (teq hc21).1) (by decide) (by decide) (XS.iconst X20.here hx rfl (hb hby at_196) (XS.istore X20.here hx rfl (hb hby at_197) rfl (l' := #[vi p0, vi p1, vi p2, vi p3, vi p4, vi 1, vi x0, vi x1, vi x2, vi x3, vr b12, vr b16, vi 0]) rfl (XS.iload X20.here hx rfl (hb hby at_199) rfl (XS.iconst X20.here hx rfl (hb hby at_201) (XS.icmpYes X20.here hx rfl (pc0 := 202) (pc' := 241) rfl (hb hby at_202) rfl (tlt (by decide : (1 : Int32) < (2 : Int32))).1 (by decide) (by decide) (XS.iload X20.here hx rfl (hb hby at_241) rfl (XS.iconst X20.here hx rfl (hb hby at_243) (XS.icmpYes X20.here hx rfl (pc0 := 244) (pc' := 283) rfl (hb hby at_244) rfl (tlt (by decide : (1 : Int32) < (3 : Int32))).1 (by decide) (by decide) (XS.iload X20.here hx rfl (hb hby at_283) rfl (XS.iconst X20.here hx rfl (hb hby at_285) (XS.icmpYes X20.here hx rfl (pc0 := 286) (pc' := 315) rfl (hb hby at_286) rfl (tlt (by decide : (1 : Int32) < (4 : Int32))).1 (by decide) (by decide) (XS.aload X20.here hx rfl (hb hby at_315) rfl rfl kk))))))))))))) ?_
      obtain ⟨_, _, ⟨T22, L22, k22, n22⟩, -, X22, ⟨Lc22, hQ22, l22, y22, z22⟩, st22⟩ := Jvm.LawKit.callS X20 hx (y := mN0) hown (mvT hZ (ow hw 27 rfl)) (mvT hZ (ow hw 28 rfl)) (mvT hZ (ow hw 29 rfl)) (mvT hZ (ow hw 30 rfl)) (by decide) (backOf (W := 0) (rmEn l Z az hw [] b16 zc fm [(x0.toUInt32.toUInt16.toUInt32.toInt32)] (1 : Int32) T18.heap n0 Zs19 S_C hzc S_F hfm S_A S_H S_L CS18 Ec18 rfl) hZ (ow hw 30 rfl) (ow hw 29 rfl) (by decide) (by decide)) (g := (mkF m 317 #[vi p0, vi p1, vi p2, vi p3, vi p4, vi 1, vi x0, vi x1, vi x2, vi x3, vr b12, vr b16, vi 0] [.ref b16])) rfl (by rw [hml]; rfl) (argsL := [.ref b16]) (rest := []) (lenOf pd_4 rfl) rfl (oW rfl rfl) (hb hby at_317) (fun _ _ => ⟨rfl, e20, (by decide : 4 + 0 ≤ _), (by decide : 8 + 0 ≤ _)⟩)
      dsimp only [Pt.U, Pt.locs, Pt.cells, Pt.slots] at X22 l22 y22 z22 st22 hQ22
      subst l22 y22 z22
      obtain ⟨hv22, N22q, e22⟩ := hQ22
      subst hv22
      have N22 := Fr.app N20 N22q
      refine GoW.st (S' := T22.setTop (mkF m 322 #[vi p0, vi p1, vi p2, vi p3, vi p4, vi 1, vi x0, vi x1, vi x2, vi x3, vr b12, vr b16, vi 0] [.int 0, .int (own_enc [(x0.toUInt32.toUInt16.toUInt32.toInt32)])])) (fun _ kk => st22 _ (XS.iload X22.here hx rfl (hb hby at_320) rfl kk)) ?_
      have hfin : (own_enc [(x0.toUInt32.toUInt16.toUInt32.toInt32)]) = (0 : Int32) := by rw [own_cc16 hb_x0]; exact (own_fin1 x0 x1 x2 x3).trans (by rw [if_pos hc21])
      refine GoW.st (S' := T22.setTop (mkF m 330 #[vi p0, vi p1, vi p2, vi p3, vi p4, vi 1, vi x0, vi x1, vi x2, vi x3, vr b12, vr b16, vi 0] [.int 1])) (fun _ kk => XS.icmpNo X22.here hx rfl (hb hby at_322) rfl (teq hfin).2 (XS.iconst X22.here hx rfl (hb hby at_325) (XS.goto X22.here hx rfl (pc0 := 326) (pc' := 330) rfl (hb hby at_326) (by decide) (by decide) kk))) ?_
      exact GoW.retN X22 hx hlk hS (own_hk e22 hk) (t := .boolean) Bd.returns (by simp) (hb hby at_330) (⟨rfl, N22⟩) (by decide) (by decide)
    · refine GoW.st (S' := T20.setTop (mkF m 317 #[vi p0, vi p1, vi p2, vi p3, vi p4, vi 1, vi x0, vi x1, vi x2, vi x3, vr b12, vr b16, vi 1] [.ref b16])) (fun _ kk => XS.ifNo X20.here hx rfl (hb hby at_189) rfl ((if0 _ _).trans (feq hc21).1) (XS.iconst X20.here hx rfl (hb hby at_192) (XS.goto X20.here hx rfl (pc0 := 193) (pc' := 197) rfl (hb hby at_193) (by decide) (by decide) (XS.istore X20.here hx rfl (hb hby at_197) rfl (l' := #[vi p0, vi p1, vi p2, vi p3, vi p4, vi 1, vi x0, vi x1, vi x2, vi x3, vr b12, vr b16, vi 1]) rfl (XS.iload X20.here hx rfl (hb hby at_199) rfl (XS.iconst X20.here hx rfl (hb hby at_201) (XS.icmpYes X20.here hx rfl (pc0 := 202) (pc' := 241) rfl (hb hby at_202) rfl (tlt (by decide : (1 : Int32) < (2 : Int32))).1 (by decide) (by decide) (XS.iload X20.here hx rfl (hb hby at_241) rfl (XS.iconst X20.here hx rfl (hb hby at_243) (XS.icmpYes X20.here hx rfl (pc0 := 244) (pc' := 283) rfl (hb hby at_244) rfl (tlt (by decide : (1 : Int32) < (3 : Int32))).1 (by decide) (by decide) (XS.iload X20.here hx rfl (hb hby at_283) rfl (XS.iconst X20.here hx rfl (hb hby at_285) (XS.icmpYes X20.here hx rfl (pc0 := 286) (pc' := 315) rfl (hb hby at_286) rfl (tlt (by decide : (1 : Int32) < (4 : Int32))).1 (by decide) (by decide) (XS.aload X20.here hx rfl (hb hby at_315) rfl rfl kk)))))))))))))) ?_
      obtain ⟨_, _, ⟨T23, L23, k23, n23⟩, -, X23, ⟨Lc23, hQ23, l23, y23, z23⟩, st23⟩ := Jvm.LawKit.callS X20 hx (y := mN0) hown (mvT hZ (ow hw 27 rfl)) (mvT hZ (ow hw 28 rfl)) (mvT hZ (ow hw 29 rfl)) (mvT hZ (ow hw 30 rfl)) (by decide) (backOf (W := 0) (rmEn l Z az hw [] b16 zc fm [(x0.toUInt32.toUInt16.toUInt32.toInt32)] (1 : Int32) T18.heap n0 Zs19 S_C hzc S_F hfm S_A S_H S_L CS18 Ec18 rfl) hZ (ow hw 30 rfl) (ow hw 29 rfl) (by decide) (by decide)) (g := (mkF m 317 #[vi p0, vi p1, vi p2, vi p3, vi p4, vi 1, vi x0, vi x1, vi x2, vi x3, vr b12, vr b16, vi 1] [.ref b16])) rfl (by rw [hml]; rfl) (argsL := [.ref b16]) (rest := []) (lenOf pd_4 rfl) rfl (oW rfl rfl) (hb hby at_317) (fun _ _ => ⟨rfl, e20, (by decide : 4 + 0 ≤ _), (by decide : 8 + 0 ≤ _)⟩)
      dsimp only [Pt.U, Pt.locs, Pt.cells, Pt.slots] at X23 l23 y23 z23 st23 hQ23
      subst l23 y23 z23
      obtain ⟨hv23, N23q, e23⟩ := hQ23
      subst hv23
      have N23 := Fr.app N20 N23q
      refine GoW.st (S' := T23.setTop (mkF m 322 #[vi p0, vi p1, vi p2, vi p3, vi p4, vi 1, vi x0, vi x1, vi x2, vi x3, vr b12, vr b16, vi 1] [.int 1, .int (own_enc [(x0.toUInt32.toUInt16.toUInt32.toInt32)])])) (fun _ kk => st23 _ (XS.iload X23.here hx rfl (hb hby at_320) rfl kk)) ?_
      have hfin : (own_enc [(x0.toUInt32.toUInt16.toUInt32.toInt32)]) = (1 : Int32) := by rw [own_cc16 hb_x0]; exact (own_fin1 x0 x1 x2 x3).trans (by rw [if_neg hc21])
      refine GoW.st (S' := T23.setTop (mkF m 330 #[vi p0, vi p1, vi p2, vi p3, vi p4, vi 1, vi x0, vi x1, vi x2, vi x3, vr b12, vr b16, vi 1] [.int 1])) (fun _ kk => XS.icmpNo X23.here hx rfl (hb hby at_322) rfl (teq hfin).2 (XS.iconst X23.here hx rfl (hb hby at_325) (XS.goto X23.here hx rfl (pc0 := 326) (pc' := 330) rfl (hb hby at_326) (by decide) (by decide) kk))) ?_
      exact GoW.retN X23 hx hlk hS (own_hk e23 hk) (t := .boolean) Bd.returns (by simp) (hb hby at_330) (⟨rfl, N23⟩) (by decide) (by decide)
  · subst hnn
    refine GoW.st (S' := T4.setTop (mkF m 72 #[vi p0, vi p1, vi p2, vi p3, vi p4, vi 2, vi x0, vi x1, vi x2, vi x3, .unset, .unset, .unset] [.int 2])) (fun _ kk => XS.iload X4.here hx rfl (hb hby at_33) rfl (XS.ifYes X4.here hx rfl (pc0 := 35) (pc' := 46) rfl (hb hby at_35) rfl ((if0 _ _).trans (feq (by decide : ¬ ((2 : Int32) = (0 : Int32)))).2) (by decide) (by decide) (XS.iload X4.here hx rfl (hb hby at_46) rfl (XS.iconst X4.here hx rfl (hb hby at_48) (XS.icmpYes X4.here hx rfl (pc0 := 49) (pc' := 65) rfl (hb hby at_49) rfl (feq (by decide : ¬ ((2 : Int32) = (1 : Int32)))).2 (by decide) (by decide) (XS.iload X4.here hx rfl (hb hby at_65) rfl (XS.iconst X4.here hx rfl (hb hby at_67) (XS.icmpNo X4.here hx rfl (hb hby at_68) rfl (teq (by decide : (2 : Int32) = (2 : Int32))).2 (XS.iconst X4.here hx rfl (hb hby at_71) kk))))))))) ?_
    obtain ⟨T24, h24, k24, X24, e24, E24, A24, E_b24, st24⟩ := newPE X4 hx hZ (ow hw 5 rfl) e4 (g := (mkF m 72 #[vi p0, vi p1, vi p2, vi p3, vi p4, vi 2, vi x0, vi x1, vi x2, vi x3, .unset, .unset, .unset] [.int 2])) rfl (hb hby at_72) rfl (by decide) (cap := 2) (by decide) (by decide) (by decide : 0 + 1 ≤ _) (by decide : 0 + 2 ≤ _) (ad := "[C") rfl
    obtain ⟨b24, g24⟩ : ∃ z, z = h0.size := ⟨_, rfl⟩
    rw [← g24] at A24 E_b24 st24
    have g_b24 : n0 ≤ b24 := Nat.le_trans Z0 (Nat.le_of_eq g24.symm)
    have Sf_b24 : Safe Z consts_1 s.vm h0 b24 := Safe.new (Nat.le_of_eq g24.symm)
    have Sf_b24' := Safe.ext E24 Hc Sf_b24
    have Hc := CHv.ext E24 Hc
    have Sf_b24 := Sf_b24'
    have S_C := S_C.ext E24
    have S_F := S_F.ext E24
    have S_A := S_A.ext E24
    have S_H := S_H.ext E24
    have S_L := S_L.ext E24
    have Zs25 := Nat.le_trans Z0 E24.1
    have hk := Nat.le_trans hk E24.1
    have V_b24 : Arv Z h24 b24 k24 .char (2 : Int32) [(.int 0), (.int 0)] (.int 0) := (Arv.new A24 (by decide)).pad (pad_rep [] (.int 0) 2)
    refine GoW.st (S' := T24.setTop (mkF m 78 #[vi p0, vi p1, vi p2, vi p3, vi p4, vi 2, vi x0, vi x1, vi x2, vi x3, .unset, .unset, .unset] [.int x0, .int 0, .ref b24, .ref b24])) (fun _ kk => st24 _ (XS.dup X24.here hx rfl (hb hby at_74) rfl rfl (XS.iconst X24.here hx rfl (hb hby at_75) (XS.iload X24.here hx rfl (hb hby at_76) rfl kk)))) ?_
    obtain ⟨cl26, Ar26, qk26, S26, Ng26, H26, G26⟩ := (id V_b24)
    have hin26 : ¬ ((0 : Int32) < 0 ∨ cl26.slots.size ≤ ((0 : Int32)).toNatClampNeg) := inb_of S26 ⟨by decide, by decide⟩
    obtain ⟨T26, h26, X26, e26, W26, st26⟩ := stC X24 hx hZ e24 Ar26 (j := (0 : Int32)) hin26 (g := (mkF m 78 #[vi p0, vi p1, vi p2, vi p3, vi p4, vi 2, vi x0, vi x1, vi x2, vi x3, .unset, .unset, .unset] [.int x0, .int 0, .ref b24, .ref b24])) rfl rfl (hb hby at_78)
    have V_b24 : Arv Z h26 b24 k24 .char (2 : Int32) [(.int (x0.toUInt32.toUInt16.toUInt32.toInt32)), (.int 0)] (.int 0) := Arv.set Ar26 qk26 S26 Ng26 H26 G26 (fits_nar_char _) W26 0 rfl (Nat.le_of_ble_eq_true rfl)
    have N26 := Fr.snoc X26 N4 g_b24
    have Sf_b24' := Safe.wr W26 Sf_b24 Hc Sf_b24
    have Hc := CHv.wr W26 Sf_b24 Hc
    have Sf_b24 := Sf_b24'
    have S_C := S_C.wr W26
    have S_F := S_F.wr W26
    have S_A := S_A.wr W26
    have S_H := S_H.wr W26
    have S_L := S_L.wr W26
    have E_b24 := E_b24.wr W26
    have Zs27 := Nat.le_trans Zs25 (Keep.of_wr W26).1
    have hk := Nat.le_trans hk (Keep.of_wr W26).1
    refine GoW.st (S' := T26.setTop (mkF m 83 #[vi p0, vi p1, vi p2, vi p3, vi p4, vi 2, vi x0, vi x1, vi x2, vi x3, .unset, .unset, .unset] [.int x1, .int 1, .ref b24, .ref b24])) (fun _ kk => st26 _ (XS.dup X26.here hx rfl (hb hby at_79) rfl rfl (XS.iconst X26.here hx rfl (hb hby at_80) (XS.iload X26.here hx rfl (hb hby at_81) rfl kk)))) ?_
    obtain ⟨cl28, Ar28, qk28, S28, Ng28, H28, G28⟩ := (id V_b24)
    have hin28 : ¬ ((1 : Int32) < 0 ∨ cl28.slots.size ≤ ((1 : Int32)).toNatClampNeg) := inb_of S28 ⟨by decide, by decide⟩
    obtain ⟨T28, h28, X28, e28, W28, st28⟩ := stC X26 hx hZ e26 Ar28 (j := (1 : Int32)) hin28 (g := (mkF m 83 #[vi p0, vi p1, vi p2, vi p3, vi p4, vi 2, vi x0, vi x1, vi x2, vi x3, .unset, .unset, .unset] [.int x1, .int 1, .ref b24, .ref b24])) rfl rfl (hb hby at_83)
    have V_b24 : Arv Z h28 b24 k24 .char (2 : Int32) [(.int (x0.toUInt32.toUInt16.toUInt32.toInt32)), (.int (x1.toUInt32.toUInt16.toUInt32.toInt32))] (.int 0) := Arv.set Ar28 qk28 S28 Ng28 H28 G28 (fits_nar_char _) W28 1 rfl (Nat.le_of_ble_eq_true rfl)
    have N28 := Fr.snoc X28 N26 g_b24
    have Sf_b24' := Safe.wr W28 Sf_b24 Hc Sf_b24
    have Hc := CHv.wr W28 Sf_b24 Hc
    have Sf_b24 := Sf_b24'
    have S_C := S_C.wr W28
    have S_F := S_F.wr W28
    have S_A := S_A.wr W28
    have S_H := S_H.wr W28
    have S_L := S_L.wr W28
    have E_b24 := E_b24.wr W28
    have Zs29 := Nat.le_trans Zs27 (Keep.of_wr W28).1
    have hk := Nat.le_trans hk (Keep.of_wr W28).1
    refine GoW.st (S' := T28.setTop (mkF m 143 #[vi p0, vi p1, vi p2, vi p3, vi p4, vi 2, vi x0, vi x1, vi x2, vi x3, vr b24, .unset, .unset] [])) (fun _ kk => st28 _ (XS.astore X28.here hx rfl (hb hby at_84) rfl rfl (l' := #[vi p0, vi p1, vi p2, vi p3, vi p4, vi 2, vi x0, vi x1, vi x2, vi x3, vr b24, .unset, .unset]) rfl (XS.goto X28.here hx rfl (pc0 := 86) (pc' := 143) rfl (hb hby at_86) (by decide) (by decide) kk))) ?_
    obtain ⟨T30, h30, X30, e30, E30, A30, D30, -, st30⟩ := newO X28 hx hZ hown (ow hw 6 rfl) (ow hw 7 rfl) (ow hw 8 rfl) e28 (g := (mkF m 143 #[vi p0, vi p1, vi p2, vi p3, vi p4, vi 2, vi x0, vi x1, vi x2, vi x3, vr b24, .unset, .unset] [])) rfl (hb hby at_143) (by decide : 1 + 1 ≤ _) (by decide : 2 + 4 ≤ _)
    obtain ⟨b30, g30⟩ : ∃ z, z = h28.size := ⟨_, rfl⟩
    rw [← g30] at A30 D30 st30
    have ne_b24_b30 : b24 ≠ b30 := Nat.ne_of_lt (Nat.lt_of_lt_of_le E_b24.lt (Nat.le_of_eq g30.symm))
    have g_b30 : n0 ≤ b30 := Nat.le_trans Zs29 (Nat.le_of_eq g30.symm)
    have Sf_b30 : Safe Z consts_1 s.vm h28 b30 := Safe.new (Nat.le_of_eq g30.symm)
    have Sf_b24' := Safe.ext E30 Hc Sf_b24
    have Sf_b30' := Safe.ext E30 Hc Sf_b30
    have Hc := CHv.ext E30 Hc
    have Sf_b24 := Sf_b24'
    have Sf_b30 := Sf_b30'
    have S_C := S_C.ext E30
    have S_F := S_F.ext E30
    have S_A := S_A.ext E30
    have S_H := S_H.ext E30
    have S_L := S_L.ext E30
    have E_b24 := E_b24.ext E30
    have V_b24 := V_b24.ext E30
    have Zs31 := Nat.le_trans Zs29 E30.1
    have hk := Nat.le_trans hk E30.1
    have E_b30 := A30
    have F_value_b30 : tF1 Z h30 b30 .null := D30 (Or.inr (ow hw 21 rfl)) (ty := (.array .byte)) (by decide)
    have F_coder_b30 : tF0 Z h30 b30 (.int 0) := D30 (Or.inr (ow hw 22 rfl)) (ty := .byte) (by decide)
    refine GoW.st (S' := T30.setTop (mkF m 149 #[vi p0, vi p1, vi p2, vi p3, vi p4, vi 2, vi x0, vi x1, vi x2, vi x3, vr b24, .unset, .unset] [.ref b24, .ref b30, .ref b30])) (fun _ kk => st30 _ (XS.dup X30.here hx rfl (hb hby at_146) rfl rfl (XS.aload X30.here hx rfl (hb hby at_147) rfl rfl kk))) ?_
    obtain ⟨_, _, ⟨T32, L32, k32, n32⟩, -, X32, ⟨Lc32, hQ32, l32, y32, z32⟩, st32⟩ := X30.specialBack hx (y := mN9) rfl hown (mvT hZ (ow hw 9 rfl)) (mvT hZ (ow hw 10 rfl)) (mvT hZ (ow hw 11 rfl)) (by decide) (backOf (W := 1) (rmI1_2 l Z az hw [] b30 b24 zc fm k24 (x0.toUInt32.toUInt16.toUInt32.toInt32) (x1.toUInt32.toUInt16.toUInt32.toInt32) h30 n0 Zs31 S_C hzc S_F hfm S_A S_H S_L E_b30 F_coder_b30 F_value_b30 g_b30 (Ne.symm ne_b24_b30) V_b24  (own_bdc x0) (own_bdc x1) ) hZ (ow hw 11 rfl) (ow hw 8 rfl) (by decide) (by decide)) (g := (mkF m 149 #[vi p0, vi p1, vi p2, vi p3, vi p4, vi 2, vi x0, vi x1, vi x2, vi x3, vr b24, .unset, .unset] [.ref b24, .ref b30, .ref b30])) rfl (by rw [hml]; rfl) (Steps.refl _) (a := b30) (argsL := [.ref b24]) (rest := [.ref b30]) (lenOf pd_1 rfl) rfl (oW rfl rfl) (hb hby at_149) (fun _ _ => ⟨rfl, e30, (by decide : 2 + 2 ≤ _), (by decide : 6 + 6 ≤ _)⟩)
    dsimp only [Pt.U, Pt.locs, Pt.cells, Pt.slots] at X32 l32 y32 z32 st32 hQ32
    subst l32 y32 z32
    obtain ⟨rfl, N32q, K32, CS32⟩ := hQ32
    have N32 := Fr.app N28 N32q
    have Sf_b24' := Safe.keep K32 (allS (P := Safe Z consts_1 s.vm h30) Sf_b30 all0) Hc Sf_b24
    have Sf_b30' := Safe.keep K32 (allS (P := Safe Z consts_1 s.vm h30) Sf_b30 all0) Hc Sf_b30
    have Hc := CHv.keep K32 (allS (P := Safe Z consts_1 s.vm h30) Sf_b30 all0) Hc
    have Sf_b24 := Sf_b24'
    have Sf_b30 := Sf_b30'
    have S_C := own_stak K32 (allS (P := fun x => ∀ cell : Cell, (h30)[x]? = some cell → cell.vm.isStatics = false) (Exa.nostat E_b30) all0) S_C
    have S_F := own_stak K32 (allS (P := fun x => ∀ cell : Cell, (h30)[x]? = some cell → cell.vm.isStatics = false) (Exa.nostat E_b30) all0) S_F
    have S_A := own_stak K32 (allS (P := fun x => ∀ cell : Cell, (h30)[x]? = some cell → cell.vm.isStatics = false) (Exa.nostat E_b30) all0) S_A
    have S_H := own_stak K32 (allS (P := fun x => ∀ cell : Cell, (h30)[x]? = some cell → cell.vm.isStatics = false) (Exa.nostat E_b30) all0) S_H
    have S_L := own_stak K32 (allS (P := fun x => ∀ cell : Cell, (h30)[x]? = some cell → cell.vm.isStatics = false) (Exa.nostat E_b30) all0) S_L
    have E_b24 := E_b24.keep K32
    have V_b24 := V_b24.keep K32 (ninS ne_b24_b30 nin0)
    have E_b30 := E_b30.keep K32
    have Zs33 := Nat.le_trans Zs31 K32.1
    have hk := Nat.le_trans hk K32.1
    have Ec32 := CS32.1
    refine GoW.st (S' := T32.setTop (mkF m 177 #[vi p0, vi p1, vi p2, vi p3, vi p4, vi 2, vi x0, vi x1, vi x2, vi x3, vr b24, vr b30, vi 1] [.int 2, .int x1, .int x0, .int 0, .int x0])) (fun _ kk => st32.trans (XS.astore X32.here hx rfl (hb hby at_152) rfl rfl (l' := #[vi p0, vi p1, vi p2, vi p3, vi p4, vi 2, vi x0, vi x1, vi x2, vi x3, vr b24, vr b30, .unset]) rfl (XS.iconst X32.here hx rfl (hb hby at_154) (XS.istore X32.here hx rfl (hb hby at_155) rfl (l' := #[vi p0, vi p1, vi p2, vi p3, vi p4, vi 2, vi x0, vi x1, vi x2, vi x3, vr b24, vr b30, vi 1]) rfl (XS.iload X32.here hx rfl (hb hby at_157) rfl (XS.iconst X32.here hx rfl (hb hby at_159) (XS.icmpNo X32.here hx rfl (hb hby at_160) rfl (flt (by decide : ¬ ((2 : Int32) < (1 : Int32)))).1 (XS.iload X32.here hx rfl (hb hby at_163) rfl (XS.ifNo X32.here hx rfl (hb hby at_165) rfl ((if0 _ _).trans (feq (by decide : ¬ ((1 : Int32) = (0 : Int32)))).1) (XS.iload X32.here hx rfl (hb hby at_168) rfl (XS.iconst X32.here hx rfl (hb hby at_170) (XS.iload X32.here hx rfl (hb hby at_171) rfl (XS.iload X32.here hx rfl (hb hby at_173) rfl (XS.iload X32.here hx rfl (hb hby at_175) rfl kk)))))))))))))) ?_
    refine GoW.st (S' := T32.setTop (mkF m 186 #[vi p0, vi p1, vi p2, vi p3, vi p4, vi 2, vi x0, vi x1, vi x2, vi x3, vr b24, vr b30, vi 1] [.int 1, .int x1, .int x0, .int 0, .int x0])) (fun _ kk => XS.iconst X32.here hx rfl (hb hby at_177) (XS.icmpNo X32.here hx rfl (hb hby at_178) rfl (tlt (by decide : (1 : Int32) < (2 : Int32))).2.2.2 (XS.iconst X32.here hx rfl (hb hby at_181) (XS.goto X32.here hx rfl (pc0 := 182) (pc' := 186) rfl (hb hby at_182) (by decide) (by decide) kk)))) ?_
    obtain ⟨_, _, ⟨T34, L34, k34, n34⟩, -, X34, ⟨Lc34, hQ34, l34, y34, z34⟩, st34⟩ := Jvm.LawKit.callS X32 hx (y := mN5) hown (mvT hZ (ow hw 52 rfl)) (mvT hZ (ow hw 53 rfl)) (mvT hZ (ow hw 3 rfl)) (mvT hZ (ow hw 54 rfl)) (by decide) (backOf (W := 0) (rmU l Z az hw [] x0 (0 : Int32) x0 x1 (1 : Int32)  T32.heap n0 Zs33 ) hZ (ow hw 54 rfl) (ow hw 3 rfl) (by decide) (by decide)) (g := (mkF m 186 #[vi p0, vi p1, vi p2, vi p3, vi p4, vi 2, vi x0, vi x1, vi x2, vi x3, vr b24, vr b30, vi 1] [.int 1, .int x1, .int x0, .int 0, .int x0])) rfl (by rw [hml]; rfl) (argsL := [.int x0, .int 0, .int x0, .int x1, .int 1]) (rest := []) (lenOf pd_10 rfl) rfl (oW rfl rfl) (hb hby at_186) (fun _ _ => ⟨rfl, rfl, (by decide : 4 + 0 ≤ _), (by decide : 12 + 0 ≤ _)⟩)
    dsimp only [Pt.U, Pt.locs, Pt.cells, Pt.slots] at X34 l34 y34 z34 st34 hQ34
    subst l34 y34 z34
    obtain ⟨hv34, N34q, e34⟩ := hQ34
    subst hv34
    have N34 := Fr.app N32 N34q
    refine GoW.st (S' := T34.setTop (mkF m 189 #[vi p0, vi p1, vi p2, vi p3, vi p4, vi 2, vi x0, vi x1, vi x2, vi x3, vr b24, vr b30, vi 1] [.int (fU x0 (0 : Int32) x0 x1 (1 : Int32))])) st34 ?_
    by_cases hc35 : (fU x0 (0 : Int32) x0 x1 (1 : Int32)) = (0 : Int32)
    · refine GoW.st (S' := T34.setTop (mkF m 285 #[vi p0, vi p1, vi p2, vi p3, vi p4, vi 2, vi x0, vi x1, vi x2, vi x3, vr b24, vr b30, vi 0] [.int 2])) (fun _ kk => XS.ifYes X34.here hx rfl (pc0 := 189) (pc' := 196) rfl (hb hby at_189) rfl ((if0 _ _).trans (teq hc35).1) (by decide) (by decide) (XS.iconst X34.here hx rfl (hb hby at_196) (XS.istore X34.here hx rfl (hb hby at_197) rfl (l' := #[vi p0, vi p1, vi p2, vi p3, vi p4, vi 2, vi x0, vi x1, vi x2, vi x3, vr b24, vr b30, vi 0]) rfl (XS.iload X34.here hx rfl (hb hby at_199) rfl (XS.iconst X34.here hx rfl (hb hby at_201) (XS.icmpNo X34.here hx rfl (hb hby at_202) rfl (flt (by decide : ¬ ((2 : Int32) < (2 : Int32)))).1 (XS.iload X34.here hx rfl (hb hby at_205) rfl (XS.ifYes X34.here hx rfl (pc0 := 207) (pc' := 238) rfl (hb hby at_207) rfl ((if0 _ _).trans (teq (by decide : (0 : Int32) = (0 : Int32))).1) (by decide) (by decide) (XS.iconst X34.here hx rfl (hb hby at_238) (XS.istore X34.here hx rfl (hb hby at_239) rfl (l' := #[vi p0, vi p1, vi p2, vi p3, vi p4, vi 2, vi x0, vi x1, vi x2, vi x3, vr b24, vr b30, vi 0]) rfl (XS.iload X34.here hx rfl (hb hby at_241) rfl (XS.iconst X34.here hx rfl (hb hby at_243) (XS.icmpYes X34.here hx rfl (pc0 := 244) (pc' := 283) rfl (hb hby at_244) rfl (tlt (by decide : (2 : Int32) < (3 : Int32))).1 (by decide) (by decide) (XS.iload X34.here hx rfl (hb hby at_283) rfl kk)))))))))))))) ?_
      refine GoW.st (S' := T34.setTop (mkF m 317 #[vi p0, vi p1, vi p2, vi p3, vi p4, vi 2, vi x0, vi x1, vi x2, vi x3, vr b24, vr b30, vi 0] [.ref b30])) (fun _ kk => XS.iconst X34.here hx rfl (hb hby at_285) (XS.icmpYes X34.here hx rfl (pc0 := 286) (pc' := 315) rfl (hb hby at_286) rfl (tlt (by decide : (2 : Int32) < (4 : Int32))).1 (by decide) (by decide) (XS.aload X34.here hx rfl (hb hby at_315) rfl rfl kk))) ?_
      obtain ⟨_, _, ⟨T36, L36, k36, n36⟩, -, X36, ⟨Lc36, hQ36, l36, y36, z36⟩, st36⟩ := Jvm.LawKit.callS X34 hx (y := mN0) hown (mvT hZ (ow hw 27 rfl)) (mvT hZ (ow hw 28 rfl)) (mvT hZ (ow hw 29 rfl)) (mvT hZ (ow hw 30 rfl)) (by decide) (backOf (W := 0) (rmEn l Z az hw [] b30 zc fm [(x0.toUInt32.toUInt16.toUInt32.toInt32), (x1.toUInt32.toUInt16.toUInt32.toInt32)] (2 : Int32) T32.heap n0 Zs33 S_C hzc S_F hfm S_A S_H S_L CS32 Ec32 rfl) hZ (ow hw 30 rfl) (ow hw 29 rfl) (by decide) (by decide)) (g := (mkF m 317 #[vi p0, vi p1, vi p2, vi p3, vi p4, vi 2, vi x0, vi x1, vi x2, vi x3, vr b24, vr b30, vi 0] [.ref b30])) rfl (by rw [hml]; rfl) (argsL := [.ref b30]) (rest := []) (lenOf pd_4 rfl) rfl (oW rfl rfl) (hb hby at_317) (fun _ _ => ⟨rfl, e34, (by decide : 4 + 0 ≤ _), (by decide : 12 + 0 ≤ _)⟩)
      dsimp only [Pt.U, Pt.locs, Pt.cells, Pt.slots] at X36 l36 y36 z36 st36 hQ36
      subst l36 y36 z36
      obtain ⟨hv36, N36q, e36⟩ := hQ36
      subst hv36
      have N36 := Fr.app N34 N36q
      refine GoW.st (S' := T36.setTop (mkF m 322 #[vi p0, vi p1, vi p2, vi p3, vi p4, vi 2, vi x0, vi x1, vi x2, vi x3, vr b24, vr b30, vi 0] [.int 0, .int (own_enc [(x0.toUInt32.toUInt16.toUInt32.toInt32), (x1.toUInt32.toUInt16.toUInt32.toInt32)])])) (fun _ kk => st36 _ (XS.iload X36.here hx rfl (hb hby at_320) rfl kk)) ?_
      have hfin : (own_enc [(x0.toUInt32.toUInt16.toUInt32.toInt32), (x1.toUInt32.toUInt16.toUInt32.toInt32)]) = (0 : Int32) := by rw [own_cc16 hb_x0, own_cc16 hb_x1]; exact (own_fin2 x0 x1 x2 x3).trans (by rw [if_pos hc35])
      refine GoW.st (S' := T36.setTop (mkF m 330 #[vi p0, vi p1, vi p2, vi p3, vi p4, vi 2, vi x0, vi x1, vi x2, vi x3, vr b24, vr b30, vi 0] [.int 1])) (fun _ kk => XS.icmpNo X36.here hx rfl (hb hby at_322) rfl (teq hfin).2 (XS.iconst X36.here hx rfl (hb hby at_325) (XS.goto X36.here hx rfl (pc0 := 326) (pc' := 330) rfl (hb hby at_326) (by decide) (by decide) kk))) ?_
      exact GoW.retN X36 hx hlk hS (own_hk e36 hk) (t := .boolean) Bd.returns (by simp) (hb hby at_330) (⟨rfl, N36⟩) (by decide) (by decide)
    · refine GoW.st (S' := T34.setTop (mkF m 219 #[vi p0, vi p1, vi p2, vi p3, vi p4, vi 2, vi x0, vi x1, vi x2, vi x3, vr b24, vr b30, vi 1] [.int 2, .int x2, .int x1, .int 1, .int x0])) (fun _ kk => XS.ifNo X34.here hx rfl (hb hby at_189) rfl ((if0 _ _).trans (feq hc35).1) (XS.iconst X34.here hx rfl (hb hby at_192) (XS.goto X34.here hx rfl (pc0 := 193) (pc' := 197) rfl (hb hby at_193) (by decide) (by decide) (XS.istore X34.here hx rfl (hb hby at_197) rfl (l' := #[vi p0, vi p1, vi p2, vi p3, vi p4, vi 2, vi x0, vi x1, vi x2, vi x3, vr b24, vr b30, vi 1]) rfl (XS.iload X34.here hx rfl (hb hby at_199) rfl (XS.iconst X34.here hx rfl (hb hby at_201) (XS.icmpNo X34.here hx rfl (hb hby at_202) rfl (flt (by decide : ¬ ((2 : Int32) < (2 : Int32)))).1 (XS.iload X34.here hx rfl (hb hby at_205) rfl (XS.ifNo X34.here hx rfl (hb hby at_207) rfl ((if0 _ _).trans (feq (by decide : ¬ ((1 : Int32) = (0 : Int32)))).1) (XS.iload X34.here hx rfl (hb hby at_210) rfl (XS.iconst X34.here hx rfl (hb hby at_212) (XS.iload X34.here hx rfl (hb hby at_213) rfl (XS.iload X34.here hx rfl (hb hby at_215) rfl (XS.iload X34.here hx rfl (hb hby at_217) rfl kk)))))))))))))) ?_
      refine GoW.st (S' := T34.setTop (mkF m 228 #[vi p0, vi p1, vi p2, vi p3, vi p4, vi 2, vi x0, vi x1, vi x2, vi x3, vr b24, vr b30, vi 1] [.int 0, .int x2, .int x1, .int 1, .int x0])) (fun _ kk => XS.iconst X34.here hx rfl (hb hby at_219) (XS.icmpYes X34.here hx rfl (pc0 := 220) (pc' := 227) rfl (hb hby at_220) rfl (flt (by decide : ¬ ((2 : Int32) < (2 : Int32)))).2.2.2 (by decide) (by decide) (XS.iconst X34.here hx rfl (hb hby at_227) kk))) ?_
      obtain ⟨_, _, ⟨T37, L37, k37, n37⟩, -, X37, ⟨Lc37, hQ37, l37, y37, z37⟩, st37⟩ := Jvm.LawKit.callS X34 hx (y := mN5) hown (mvT hZ (ow hw 52 rfl)) (mvT hZ (ow hw 53 rfl)) (mvT hZ (ow hw 3 rfl)) (mvT hZ (ow hw 54 rfl)) (by decide) (backOf (W := 0) (rmU l Z az hw [] x0 (1 : Int32) x1 x2 (0 : Int32)  T32.heap n0 Zs33 ) hZ (ow hw 54 rfl) (ow hw 3 rfl) (by decide) (by decide)) (g := (mkF m 228 #[vi p0, vi p1, vi p2, vi p3, vi p4, vi 2, vi x0, vi x1, vi x2, vi x3, vr b24, vr b30, vi 1] [.int 0, .int x2, .int x1, .int 1, .int x0])) rfl (by rw [hml]; rfl) (argsL := [.int x0, .int 1, .int x1, .int x2, .int 0]) (rest := []) (lenOf pd_10 rfl) rfl (oW rfl rfl) (hb hby at_228) (fun _ _ => ⟨rfl, e34, (by decide : 4 + 0 ≤ _), (by decide : 12 + 0 ≤ _)⟩)
      dsimp only [Pt.U, Pt.locs, Pt.cells, Pt.slots] at X37 l37 y37 z37 st37 hQ37
      subst l37 y37 z37
      obtain ⟨hv37, N37q, e37⟩ := hQ37
      subst hv37
      have N37 := Fr.app N34 N37q
      refine GoW.st (S' := T37.setTop (mkF m 231 #[vi p0, vi p1, vi p2, vi p3, vi p4, vi 2, vi x0, vi x1, vi x2, vi x3, vr b24, vr b30, vi 1] [.int (fU x0 (1 : Int32) x1 x2 (0 : Int32))])) st37 ?_
      by_cases hc38 : (fU x0 (1 : Int32) x1 x2 (0 : Int32)) = (0 : Int32)
      · refine GoW.st (S' := T37.setTop (mkF m 317 #[vi p0, vi p1, vi p2, vi p3, vi p4, vi 2, vi x0, vi x1, vi x2, vi x3, vr b24, vr b30, vi 0] [.ref b30])) (fun _ kk => XS.ifYes X37.here hx rfl (pc0 := 231) (pc' := 238) rfl (hb hby at_231) rfl ((if0 _ _).trans (teq hc38).1) (by decide) (by decide) (XS.iconst X37.here hx rfl (hb hby at_238) (XS.istore X37.here hx rfl (hb hby at_239) rfl (l' := #[vi p0, vi p1, vi p2, vi p3, vi p4, vi 2, vi x0, vi x1, vi x2, vi x3, vr b24, vr b30, vi 0]) rfl (XS.iload X37.here hx rfl (hb hby at_241) rfl (XS.iconst X37.here hx rfl (hb hby at_243) (XS.icmpYes X37.here hx rfl (pc0 := 244) (pc' := 283) rfl (hb hby at_244) rfl (tlt (by decide : (2 : Int32) < (3 : Int32))).1 (by decide) (by decide) (XS.iload X37.here hx rfl (hb hby at_283) rfl (XS.iconst X37.here hx rfl (hb hby at_285) (XS.icmpYes X37.here hx rfl (pc0 := 286) (pc' := 315) rfl (hb hby at_286) rfl (tlt (by decide : (2 : Int32) < (4 : Int32))).1 (by decide) (by decide) (XS.aload X37.here hx rfl (hb hby at_315) rfl rfl kk)))))))))) ?_
        obtain ⟨_, _, ⟨T39, L39, k39, n39⟩, -, X39, ⟨Lc39, hQ39, l39, y39, z39⟩, st39⟩ := Jvm.LawKit.callS X37 hx (y := mN0) hown (mvT hZ (ow hw 27 rfl)) (mvT hZ (ow hw 28 rfl)) (mvT hZ (ow hw 29 rfl)) (mvT hZ (ow hw 30 rfl)) (by decide) (backOf (W := 0) (rmEn l Z az hw [] b30 zc fm [(x0.toUInt32.toUInt16.toUInt32.toInt32), (x1.toUInt32.toUInt16.toUInt32.toInt32)] (2 : Int32) T32.heap n0 Zs33 S_C hzc S_F hfm S_A S_H S_L CS32 Ec32 rfl) hZ (ow hw 30 rfl) (ow hw 29 rfl) (by decide) (by decide)) (g := (mkF m 317 #[vi p0, vi p1, vi p2, vi p3, vi p4, vi 2, vi x0, vi x1, vi x2, vi x3, vr b24, vr b30, vi 0] [.ref b30])) rfl (by rw [hml]; rfl) (argsL := [.ref b30]) (rest := []) (lenOf pd_4 rfl) rfl (oW rfl rfl) (hb hby at_317) (fun _ _ => ⟨rfl, e37, (by decide : 4 + 0 ≤ _), (by decide : 12 + 0 ≤ _)⟩)
        dsimp only [Pt.U, Pt.locs, Pt.cells, Pt.slots] at X39 l39 y39 z39 st39 hQ39
        subst l39 y39 z39
        obtain ⟨hv39, N39q, e39⟩ := hQ39
        subst hv39
        have N39 := Fr.app N37 N39q
        refine GoW.st (S' := T39.setTop (mkF m 322 #[vi p0, vi p1, vi p2, vi p3, vi p4, vi 2, vi x0, vi x1, vi x2, vi x3, vr b24, vr b30, vi 0] [.int 0, .int (own_enc [(x0.toUInt32.toUInt16.toUInt32.toInt32), (x1.toUInt32.toUInt16.toUInt32.toInt32)])])) (fun _ kk => st39 _ (XS.iload X39.here hx rfl (hb hby at_320) rfl kk)) ?_
        have hfin : (own_enc [(x0.toUInt32.toUInt16.toUInt32.toInt32), (x1.toUInt32.toUInt16.toUInt32.toInt32)]) = (0 : Int32) := by rw [own_cc16 hb_x0, own_cc16 hb_x1]; exact (own_fin2 x0 x1 x2 x3).trans (by rw [if_neg hc35, if_pos hc38])
        refine GoW.st (S' := T39.setTop (mkF m 330 #[vi p0, vi p1, vi p2, vi p3, vi p4, vi 2, vi x0, vi x1, vi x2, vi x3, vr b24, vr b30, vi 0] [.int 1])) (fun _ kk => XS.icmpNo X39.here hx rfl (hb hby at_322) rfl (teq hfin).2 (XS.iconst X39.here hx rfl (hb hby at_325) (XS.goto X39.here hx rfl (pc0 := 326) (pc' := 330) rfl (hb hby at_326) (by decide) (by decide) kk))) ?_
        exact GoW.retN X39 hx hlk hS (own_hk e39 hk) (t := .boolean) Bd.returns (by simp) (hb hby at_330) (⟨rfl, N39⟩) (by decide) (by decide)
      · refine GoW.st (S' := T37.setTop (mkF m 317 #[vi p0, vi p1, vi p2, vi p3, vi p4, vi 2, vi x0, vi x1, vi x2, vi x3, vr b24, vr b30, vi 1] [.ref b30])) (fun _ kk => XS.ifNo X37.here hx rfl (hb hby at_231) rfl ((if0 _ _).trans (feq hc38).1) (XS.iconst X37.here hx rfl (hb hby at_234) (XS.goto X37.here hx rfl (pc0 := 235) (pc' := 239) rfl (hb hby at_235) (by decide) (by decide) (XS.istore X37.here hx rfl (hb hby at_239) rfl (l' := #[vi p0, vi p1, vi p2, vi p3, vi p4, vi 2, vi x0, vi x1, vi x2, vi x3, vr b24, vr b30, vi 1]) rfl (XS.iload X37.here hx rfl (hb hby at_241) rfl (XS.iconst X37.here hx rfl (hb hby at_243) (XS.icmpYes X37.here hx rfl (pc0 := 244) (pc' := 283) rfl (hb hby at_244) rfl (tlt (by decide : (2 : Int32) < (3 : Int32))).1 (by decide) (by decide) (XS.iload X37.here hx rfl (hb hby at_283) rfl (XS.iconst X37.here hx rfl (hb hby at_285) (XS.icmpYes X37.here hx rfl (pc0 := 286) (pc' := 315) rfl (hb hby at_286) rfl (tlt (by decide : (2 : Int32) < (4 : Int32))).1 (by decide) (by decide) (XS.aload X37.here hx rfl (hb hby at_315) rfl rfl kk))))))))))) ?_
        obtain ⟨_, _, ⟨T40, L40, k40, n40⟩, -, X40, ⟨Lc40, hQ40, l40, y40, z40⟩, st40⟩ := Jvm.LawKit.callS X37 hx (y := mN0) hown (mvT hZ (ow hw 27 rfl)) (mvT hZ (ow hw 28 rfl)) (mvT hZ (ow hw 29 rfl)) (mvT hZ (ow hw 30 rfl)) (by decide) (backOf (W := 0) (rmEn l Z az hw [] b30 zc fm [(x0.toUInt32.toUInt16.toUInt32.toInt32), (x1.toUInt32.toUInt16.toUInt32.toInt32)] (2 : Int32) T32.heap n0 Zs33 S_C hzc S_F hfm S_A S_H S_L CS32 Ec32 rfl) hZ (ow hw 30 rfl) (ow hw 29 rfl) (by decide) (by decide)) (g := (mkF m 317 #[vi p0, vi p1, vi p2, vi p3, vi p4, vi 2, vi x0, vi x1, vi x2, vi x3, vr b24, vr b30, vi 1] [.ref b30])) rfl (by rw [hml]; rfl) (argsL := [.ref b30]) (rest := []) (lenOf pd_4 rfl) rfl (oW rfl rfl) (hb hby at_317) (fun _ _ => ⟨rfl, e37, (by decide : 4 + 0 ≤ _), (by decide : 12 + 0 ≤ _)⟩)
        dsimp only [Pt.U, Pt.locs, Pt.cells, Pt.slots] at X40 l40 y40 z40 st40 hQ40
        subst l40 y40 z40
        obtain ⟨hv40, N40q, e40⟩ := hQ40
        subst hv40
        have N40 := Fr.app N37 N40q
        refine GoW.st (S' := T40.setTop (mkF m 322 #[vi p0, vi p1, vi p2, vi p3, vi p4, vi 2, vi x0, vi x1, vi x2, vi x3, vr b24, vr b30, vi 1] [.int 1, .int (own_enc [(x0.toUInt32.toUInt16.toUInt32.toInt32), (x1.toUInt32.toUInt16.toUInt32.toInt32)])])) (fun _ kk => st40 _ (XS.iload X40.here hx rfl (hb hby at_320) rfl kk)) ?_
        have hfin : (own_enc [(x0.toUInt32.toUInt16.toUInt32.toInt32), (x1.toUInt32.toUInt16.toUInt32.toInt32)]) = (1 : Int32) := by rw [own_cc16 hb_x0, own_cc16 hb_x1]; exact (own_fin2 x0 x1 x2 x3).trans (by rw [if_neg hc35, if_neg hc38])
        refine GoW.st (S' := T40.setTop (mkF m 330 #[vi p0, vi p1, vi p2, vi p3, vi p4, vi 2, vi x0, vi x1, vi x2, vi x3, vr b24, vr b30, vi 1] [.int 1])) (fun _ kk => XS.icmpNo X40.here hx rfl (hb hby at_322) rfl (teq hfin).2 (XS.iconst X40.here hx rfl (hb hby at_325) (XS.goto X40.here hx rfl (pc0 := 326) (pc' := 330) rfl (hb hby at_326) (by decide) (by decide) kk))) ?_
        exact GoW.retN X40 hx hlk hS (own_hk e40 hk) (t := .boolean) Bd.returns (by simp) (hb hby at_330) (⟨rfl, N40⟩) (by decide) (by decide)
  · subst hnn
    refine GoW.st (S' := T4.setTop (mkF m 96 #[vi p0, vi p1, vi p2, vi p3, vi p4, vi 3, vi x0, vi x1, vi x2, vi x3, .unset, .unset, .unset] [.int 3])) (fun _ kk => XS.iload X4.here hx rfl (hb hby at_33) rfl (XS.ifYes X4.here hx rfl (pc0 := 35) (pc' := 46) rfl (hb hby at_35) rfl ((if0 _ _).trans (feq (by decide : ¬ ((3 : Int32) = (0 : Int32)))).2) (by decide) (by decide) (XS.iload X4.here hx rfl (hb hby at_46) rfl (XS.iconst X4.here hx rfl (hb hby at_48) (XS.icmpYes X4.here hx rfl (pc0 := 49) (pc' := 65) rfl (hb hby at_49) rfl (feq (by decide : ¬ ((3 : Int32) = (1 : Int32)))).2 (by decide) (by decide) (XS.iload X4.here hx rfl (hb hby at_65) rfl (XS.iconst X4.here hx rfl (hb hby at_67) (XS.icmpYes X4.here hx rfl (pc0 := 68) (pc' := 89) rfl (hb hby at_68) rfl (feq (by decide : ¬ ((3 : Int32) = (2 : Int32)))).2 (by decide) (by decide) (XS.iload X4.here hx rfl (hb hby at_89) rfl (XS.iconst X4.here hx rfl (hb hby at_91) (XS.icmpNo X4.here hx rfl (hb hby at_92) rfl (teq (by decide : (3 : Int32) = (3 : Int32))).2 (XS.iconst X4.here hx rfl (hb hby at_95) kk)))))))))))) ?_
    obtain ⟨T41, h41, k41, X41, e41, E41, A41, E_b41, st41⟩ := newPE X4 hx hZ (ow hw 5 rfl) e4 (g := (mkF m 96 #[vi p0, vi p1, vi p2, vi p3, vi p4, vi 3, vi x0, vi x1, vi x2, vi x3, .unset, .unset, .unset] [.int 3])) rfl (hb hby at_96) rfl (by decide) (cap := 3) (by decide) (by decide) (by decide : 0 + 1 ≤ _) (by decide : 0 + 3 ≤ _) (ad := "[C") rfl
    obtain ⟨b41, g41⟩ : ∃ z, z = h0.size := ⟨_, rfl⟩
    rw [← g41] at A41 E_b41 st41
    have g_b41 : n0 ≤ b41 := Nat.le_trans Z0 (Nat.le_of_eq g41.symm)
    have Sf_b41 : Safe Z consts_1 s.vm h0 b41 := Safe.new (Nat.le_of_eq g41.symm)
    have Sf_b41' := Safe.ext E41 Hc Sf_b41
    have Hc := CHv.ext E41 Hc
    have Sf_b41 := Sf_b41'
    have S_C := S_C.ext E41
    have S_F := S_F.ext E41
    have S_A := S_A.ext E41
    have S_H := S_H.ext E41
    have S_L := S_L.ext E41
    have Zs42 := Nat.le_trans Z0 E41.1
    have hk := Nat.le_trans hk E41.1
    have V_b41 : Arv Z h41 b41 k41 .char (3 : Int32) [(.int 0), (.int 0), (.int 0)] (.int 0) := (Arv.new A41 (by decide)).pad (pad_rep [] (.int 0) 3)
    refine GoW.st (S' := T41.setTop (mkF m 102 #[vi p0, vi p1, vi p2, vi p3, vi p4, vi 3, vi x0, vi x1, vi x2, vi x3, .unset, .unset, .unset] [.int x0, .int 0, .ref b41, .ref b41])) (fun _ kk => st41 _ (XS.dup X41.here hx rfl (hb hby at_98) rfl rfl (XS.iconst X41.here hx rfl (hb hby at_99) (XS.iload X41.here hx rfl (hb hby at_100) rfl kk)))) ?_
    obtain ⟨cl43, Ar43, qk43, S43, Ng43, H43, G43⟩ := (id V_b41)
    have hin43 : ¬ ((0 : Int32) < 0 ∨ cl43.slots.size ≤ ((0 : Int32)).toNatClampNeg) := inb_of S43 ⟨by decide, by decide⟩
    obtain ⟨T43, h43, X43, e43, W43, st43⟩ := stC X41 hx hZ e41 Ar43 (j := (0 : Int32)) hin43 (g := (mkF m 102 #[vi p0, vi p1, vi p2, vi p3, vi p4, vi 3, vi x0, vi x1, vi x2, vi x3, .unset, .unset, .unset] [.int x0, .int 0, .ref b41, .ref b41])) rfl rfl (hb hby at_102)
    have V_b41 : Arv Z h43 b41 k41 .char (3 : Int32) [(.int (x0.toUInt32.toUInt16.toUInt32.toInt32)), (.int 0), (.int 0)] (.int 0) := Arv.set Ar43 qk43 S43 Ng43 H43 G43 (fits_nar_char _) W43 0 rfl (Nat.le_of_ble_eq_true rfl)
    have N43 := Fr.snoc X43 N4 g_b41
    have Sf_b41' := Safe.wr W43 Sf_b41 Hc Sf_b41
    have Hc := CHv.wr W43 Sf_b41 Hc
    have Sf_b41 := Sf_b41'
    have S_C := S_C.wr W43
    have S_F := S_F.wr W43
    have S_A := S_A.wr W43
    have S_H := S_H.wr W43
    have S_L := S_L.wr W43
    have E_b41 := E_b41.wr W43
    have Zs44 := Nat.le_trans Zs42 (Keep.of_wr W43).1
    have hk := Nat.le_trans hk (Keep.of_wr W43).1
    refine GoW.st (S' := T43.setTop (mkF m 107 #[vi p0, vi p1, vi p2, vi p3, vi p4, vi 3, vi x0, vi x1, vi x2, vi x3, .unset, .unset, .unset] [.int x1, .int 1, .ref b41, .ref b41])) (fun _ kk => st43 _ (XS.dup X43.here hx rfl (hb hby at_103) rfl rfl (XS.iconst X43.here hx rfl (hb hby at_104) (XS.iload X43.here hx rfl (hb hby at_105) rfl kk)))) ?_
    obtain ⟨cl45, Ar45, qk45, S45, Ng45, H45, G45⟩ := (id V_b41)
    have hin45 : ¬ ((1 : Int32) < 0 ∨ cl45.slots.size ≤ ((1 : Int32)).toNatClampNeg) := inb_of S45 ⟨by decide, by decide⟩
    obtain ⟨T45, h45, X45, e45, W45, st45⟩ := stC X43 hx hZ e43 Ar45 (j := (1 : Int32)) hin45 (g := (mkF m 107 #[vi p0, vi p1, vi p2, vi p3, vi p4, vi 3, vi x0, vi x1, vi x2, vi x3, .unset, .unset, .unset] [.int x1, .int 1, .ref b41, .ref b41])) rfl rfl (hb hby at_107)
    have V_b41 : Arv Z h45 b41 k41 .char (3 : Int32) [(.int (x0.toUInt32.toUInt16.toUInt32.toInt32)), (.int (x1.toUInt32.toUInt16.toUInt32.toInt32)), (.int 0)] (.int 0) := Arv.set Ar45 qk45 S45 Ng45 H45 G45 (fits_nar_char _) W45 1 rfl (Nat.le_of_ble_eq_true rfl)
    have N45 := Fr.snoc X45 N43 g_b41
    have Sf_b41' := Safe.wr W45 Sf_b41 Hc Sf_b41
    have Hc := CHv.wr W45 Sf_b41 Hc
    have Sf_b41 := Sf_b41'
    have S_C := S_C.wr W45
    have S_F := S_F.wr W45
    have S_A := S_A.wr W45
    have S_H := S_H.wr W45
    have S_L := S_L.wr W45
    have E_b41 := E_b41.wr W45
    have Zs46 := Nat.le_trans Zs44 (Keep.of_wr W45).1
    have hk := Nat.le_trans hk (Keep.of_wr W45).1
    refine GoW.st (S' := T45.setTop (mkF m 112 #[vi p0, vi p1, vi p2, vi p3, vi p4, vi 3, vi x0, vi x1, vi x2, vi x3, .unset, .unset, .unset] [.int x2, .int 2, .ref b41, .ref b41])) (fun _ kk => st45 _ (XS.dup X45.here hx rfl (hb hby at_108) rfl rfl (XS.iconst X45.here hx rfl (hb hby at_109) (XS.iload X45.here hx rfl (hb hby at_110) rfl kk)))) ?_
    obtain ⟨cl47, Ar47, qk47, S47, Ng47, H47, G47⟩ := (id V_b41)
    have hin47 : ¬ ((2 : Int32) < 0 ∨ cl47.slots.size ≤ ((2 : Int32)).toNatClampNeg) := inb_of S47 ⟨by decide, by decide⟩
    obtain ⟨T47, h47, X47, e47, W47, st47⟩ := stC X45 hx hZ e45 Ar47 (j := (2 : Int32)) hin47 (g := (mkF m 112 #[vi p0, vi p1, vi p2, vi p3, vi p4, vi 3, vi x0, vi x1, vi x2, vi x3, .unset, .unset, .unset] [.int x2, .int 2, .ref b41, .ref b41])) rfl rfl (hb hby at_112)
    have V_b41 : Arv Z h47 b41 k41 .char (3 : Int32) [(.int (x0.toUInt32.toUInt16.toUInt32.toInt32)), (.int (x1.toUInt32.toUInt16.toUInt32.toInt32)), (.int (x2.toUInt32.toUInt16.toUInt32.toInt32))] (.int 0) := Arv.set Ar47 qk47 S47 Ng47 H47 G47 (fits_nar_char _) W47 2 rfl (Nat.le_of_ble_eq_true rfl)
    have N47 := Fr.snoc X47 N45 g_b41
    have Sf_b41' := Safe.wr W47 Sf_b41 Hc Sf_b41
    have Hc := CHv.wr W47 Sf_b41 Hc
    have Sf_b41 := Sf_b41'
    have S_C := S_C.wr W47
    have S_F := S_F.wr W47
    have S_A := S_A.wr W47
    have S_H := S_H.wr W47
    have S_L := S_L.wr W47
    have E_b41 := E_b41.wr W47
    have Zs48 := Nat.le_trans Zs46 (Keep.of_wr W47).1
    have hk := Nat.le_trans hk (Keep.of_wr W47).1
    refine GoW.st (S' := T47.setTop (mkF m 143 #[vi p0, vi p1, vi p2, vi p3, vi p4, vi 3, vi x0, vi x1, vi x2, vi x3, vr b41, .unset, .unset] [])) (fun _ kk => st47 _ (XS.astore X47.here hx rfl (hb hby at_113) rfl rfl (l' := #[vi p0, vi p1, vi p2, vi p3, vi p4, vi 3, vi x0, vi x1, vi x2, vi x3, vr b41, .unset, .unset]) rfl (XS.goto X47.here hx rfl (pc0 := 115) (pc' := 143) rfl (hb hby at_115) (by decide) (by decide) kk))) ?_
    obtain ⟨T49, h49, X49, e49, E49, A49, D49, -, st49⟩ := newO X47 hx hZ hown (ow hw 6 rfl) (ow hw 7 rfl) (ow hw 8 rfl) e47 (g := (mkF m 143 #[vi p0, vi p1, vi p2, vi p3, vi p4, vi 3, vi x0, vi x1, vi x2, vi x3, vr b41, .unset, .unset] [])) rfl (hb hby at_143) (by decide : 1 + 1 ≤ _) (by decide : 3 + 4 ≤ _)
    obtain ⟨b49, g49⟩ : ∃ z, z = h47.size := ⟨_, rfl⟩
    rw [← g49] at A49 D49 st49
    have ne_b41_b49 : b41 ≠ b49 := Nat.ne_of_lt (Nat.lt_of_lt_of_le E_b41.lt (Nat.le_of_eq g49.symm))
    have g_b49 : n0 ≤ b49 := Nat.le_trans Zs48 (Nat.le_of_eq g49.symm)
    have Sf_b49 : Safe Z consts_1 s.vm h47 b49 := Safe.new (Nat.le_of_eq g49.symm)
    have Sf_b41' := Safe.ext E49 Hc Sf_b41
    have Sf_b49' := Safe.ext E49 Hc Sf_b49
    have Hc := CHv.ext E49 Hc
    have Sf_b41 := Sf_b41'
    have Sf_b49 := Sf_b49'
    have S_C := S_C.ext E49
    have S_F := S_F.ext E49
    have S_A := S_A.ext E49
    have S_H := S_H.ext E49
    have S_L := S_L.ext E49
    have E_b41 := E_b41.ext E49
    have V_b41 := V_b41.ext E49
    have Zs50 := Nat.le_trans Zs48 E49.1
    have hk := Nat.le_trans hk E49.1
    have E_b49 := A49
    have F_value_b49 : tF1 Z h49 b49 .null := D49 (Or.inr (ow hw 21 rfl)) (ty := (.array .byte)) (by decide)
    have F_coder_b49 : tF0 Z h49 b49 (.int 0) := D49 (Or.inr (ow hw 22 rfl)) (ty := .byte) (by decide)
    refine GoW.st (S' := T49.setTop (mkF m 149 #[vi p0, vi p1, vi p2, vi p3, vi p4, vi 3, vi x0, vi x1, vi x2, vi x3, vr b41, .unset, .unset] [.ref b41, .ref b49, .ref b49])) (fun _ kk => st49 _ (XS.dup X49.here hx rfl (hb hby at_146) rfl rfl (XS.aload X49.here hx rfl (hb hby at_147) rfl rfl kk))) ?_
    obtain ⟨_, _, ⟨T51, L51, k51, n51⟩, -, X51, ⟨Lc51, hQ51, l51, y51, z51⟩, st51⟩ := X49.specialBack hx (y := mN9) rfl hown (mvT hZ (ow hw 9 rfl)) (mvT hZ (ow hw 10 rfl)) (mvT hZ (ow hw 11 rfl)) (by decide) (backOf (W := 1) (rmI1_3 l Z az hw [] b49 b41 zc fm k41 (x0.toUInt32.toUInt16.toUInt32.toInt32) (x1.toUInt32.toUInt16.toUInt32.toInt32) (x2.toUInt32.toUInt16.toUInt32.toInt32) h49 n0 Zs50 S_C hzc S_F hfm S_A S_H S_L E_b49 F_coder_b49 F_value_b49 g_b49 (Ne.symm ne_b41_b49) V_b41  (own_bdc x0) (own_bdc x1) (own_bdc x2) ) hZ (ow hw 11 rfl) (ow hw 8 rfl) (by decide) (by decide)) (g := (mkF m 149 #[vi p0, vi p1, vi p2, vi p3, vi p4, vi 3, vi x0, vi x1, vi x2, vi x3, vr b41, .unset, .unset] [.ref b41, .ref b49, .ref b49])) rfl (by rw [hml]; rfl) (Steps.refl _) (a := b49) (argsL := [.ref b41]) (rest := [.ref b49]) (lenOf pd_1 rfl) rfl (oW rfl rfl) (hb hby at_149) (fun _ _ => ⟨rfl, e49, (by decide : 2 + 2 ≤ _), (by decide : 7 + 9 ≤ _)⟩)
    dsimp only [Pt.U, Pt.locs, Pt.cells, Pt.slots] at X51 l51 y51 z51 st51 hQ51
    subst l51 y51 z51
    obtain ⟨rfl, N51q, K51, CS51⟩ := hQ51
    have N51 := Fr.app N47 N51q
    have Sf_b41' := Safe.keep K51 (allS (P := Safe Z consts_1 s.vm h49) Sf_b49 all0) Hc Sf_b41
    have Sf_b49' := Safe.keep K51 (allS (P := Safe Z consts_1 s.vm h49) Sf_b49 all0) Hc Sf_b49
    have Hc := CHv.keep K51 (allS (P := Safe Z consts_1 s.vm h49) Sf_b49 all0) Hc
    have Sf_b41 := Sf_b41'
    have Sf_b49 := Sf_b49'
    have S_C := own_stak K51 (allS (P := fun x => ∀ cell : Cell, (h49)[x]? = some cell → cell.vm.isStatics = false) (Exa.nostat E_b49) all0) S_C
    have S_F := own_stak K51 (allS (P := fun x => ∀ cell : Cell, (h49)[x]? = some cell → cell.vm.isStatics = false) (Exa.nostat E_b49) all0) S_F
    have S_A := own_stak K51 (allS (P := fun x => ∀ cell : Cell, (h49)[x]? = some cell → cell.vm.isStatics = false) (Exa.nostat E_b49) all0) S_A
    have S_H := own_stak K51 (allS (P := fun x => ∀ cell : Cell, (h49)[x]? = some cell → cell.vm.isStatics = false) (Exa.nostat E_b49) all0) S_H
    have S_L := own_stak K51 (allS (P := fun x => ∀ cell : Cell, (h49)[x]? = some cell → cell.vm.isStatics = false) (Exa.nostat E_b49) all0) S_L
    have E_b41 := E_b41.keep K51
    have V_b41 := V_b41.keep K51 (ninS ne_b41_b49 nin0)
    have E_b49 := E_b49.keep K51
    have Zs52 := Nat.le_trans Zs50 K51.1
    have hk := Nat.le_trans hk K51.1
    have Ec51 := CS51.1
    refine GoW.st (S' := T51.setTop (mkF m 177 #[vi p0, vi p1, vi p2, vi p3, vi p4, vi 3, vi x0, vi x1, vi x2, vi x3, vr b41, vr b49, vi 1] [.int 3, .int x1, .int x0, .int 0, .int x0])) (fun _ kk => st51.trans (XS.astore X51.here hx rfl (hb hby at_152) rfl rfl (l' := #[vi p0, vi p1, vi p2, vi p3, vi p4, vi 3, vi x0, vi x1, vi x2, vi x3, vr b41, vr b49, .unset]) rfl (XS.iconst X51.here hx rfl (hb hby at_154) (XS.istore X51.here hx rfl (hb hby at_155) rfl (l' := #[vi p0, vi p1, vi p2, vi p3, vi p4, vi 3, vi x0, vi x1, vi x2, vi x3, vr b41, vr b49, vi 1]) rfl (XS.iload X51.here hx rfl (hb hby at_157) rfl (XS.iconst X51.here hx rfl (hb hby at_159) (XS.icmpNo X51.here hx rfl (hb hby at_160) rfl (flt (by decide : ¬ ((3 : Int32) < (1 : Int32)))).1 (XS.iload X51.here hx rfl (hb hby at_163) rfl (XS.ifNo X51.here hx rfl (hb hby at_165) rfl ((if0 _ _).trans (feq (by decide : ¬ ((1 : Int32) = (0 : Int32)))).1) (XS.iload X51.here hx rfl (hb hby at_168) rfl (XS.iconst X51.here hx rfl (hb hby at_170) (XS.iload X51.here hx rfl (hb hby at_171) rfl (XS.iload X51.here hx rfl (hb hby at_173) rfl (XS.iload X51.here hx rfl (hb hby at_175) rfl kk)))))))))))))) ?_
    refine GoW.st (S' := T51.setTop (mkF m 186 #[vi p0, vi p1, vi p2, vi p3, vi p4, vi 3, vi x0, vi x1, vi x2, vi x3, vr b41, vr b49, vi 1] [.int 1, .int x1, .int x0, .int 0, .int x0])) (fun _ kk => XS.iconst X51.here hx rfl (hb hby at_177) (XS.icmpNo X51.here hx rfl (hb hby at_178) rfl (tlt (by decide : (1 : Int32) < (3 : Int32))).2.2.2 (XS.iconst X51.here hx rfl (hb hby at_181) (XS.goto X51.here hx rfl (pc0 := 182) (pc' := 186) rfl (hb hby at_182) (by decide) (by decide) kk)))) ?_
    obtain ⟨_, _, ⟨T53, L53, k53, n53⟩, -, X53, ⟨Lc53, hQ53, l53, y53, z53⟩, st53⟩ := Jvm.LawKit.callS X51 hx (y := mN5) hown (mvT hZ (ow hw 52 rfl)) (mvT hZ (ow hw 53 rfl)) (mvT hZ (ow hw 3 rfl)) (mvT hZ (ow hw 54 rfl)) (by decide) (backOf (W := 0) (rmU l Z az hw [] x0 (0 : Int32) x0 x1 (1 : Int32)  T51.heap n0 Zs52 ) hZ (ow hw 54 rfl) (ow hw 3 rfl) (by decide) (by decide)) (g := (mkF m 186 #[vi p0, vi p1, vi p2, vi p3, vi p4, vi 3, vi x0, vi x1, vi x2, vi x3, vr b41, vr b49, vi 1] [.int 1, .int x1, .int x0, .int 0, .int x0])) rfl (by rw [hml]; rfl) (argsL := [.int x0, .int 0, .int x0, .int x1, .int 1]) (rest := []) (lenOf pd_10 rfl) rfl (oW rfl rfl) (hb hby at_186) (fun _ _ => ⟨rfl, rfl, (by decide : 4 + 0 ≤ _), (by decide : 16 + 0 ≤ _)⟩)
    dsimp only [Pt.U, Pt.locs, Pt.cells, Pt.slots] at X53 l53 y53 z53 st53 hQ53
    subst l53 y53 z53
    obtain ⟨hv53, N53q, e53⟩ := hQ53
    subst hv53
    have N53 := Fr.app N51 N53q
    refine GoW.st (S' := T53.setTop (mkF m 189 #[vi p0, vi p1, vi p2, vi p3, vi p4, vi 3, vi x0, vi x1, vi x2, vi x3, vr b41, vr b49, vi 1] [.int (fU x0 (0 : Int32) x0 x1 (1 : Int32))])) st53 ?_
    by_cases hc54 : (fU x0 (0 : Int32) x0 x1 (1 : Int32)) = (0 : Int32)
    · refine GoW.st (S' := T53.setTop (mkF m 249 #[vi p0, vi p1, vi p2, vi p3, vi p4, vi 3, vi x0, vi x1, vi x2, vi x3, vr b41, vr b49, vi 0] [.int 0])) (fun _ kk => XS.ifYes X53.here hx rfl (pc0 := 189) (pc' := 196) rfl (hb hby at_189) rfl ((if0 _ _).trans (teq hc54).1) (by decide) (by decide) (XS.iconst X53.here hx rfl (hb hby at_196) (XS.istore X53.here hx rfl (hb hby at_197) rfl (l' := #[vi p0, vi p1, vi p2, vi p3, vi p4, vi 3, vi x0, vi x1, vi x2, vi x3, vr b41, vr b49, vi 0]) rfl (XS.iload X53.here hx rfl (hb hby at_199) rfl (XS.iconst X53.here hx rfl (hb hby at_201) (XS.icmpNo X53.here hx rfl (hb hby at_202) rfl (flt (by decide : ¬ ((3 : Int32) < (2 : Int32)))).1 (XS.iload X53.here hx rfl (hb hby at_205) rfl (XS.ifYes X53.here hx rfl (pc0 := 207) (pc' := 238) rfl (hb hby at_207) rfl ((if0 _ _).trans (teq (by decide : (0 : Int32) = (0 : Int32))).1) (by decide) (by decide) (XS.iconst X53.here hx rfl (hb hby at_238) (XS.istore X53.here hx rfl (hb hby at_239) rfl (l' := #[vi p0, vi p1, vi p2, vi p3, vi p4, vi 3, vi x0, vi x1, vi x2, vi x3, vr b41, vr b49, vi 0]) rfl (XS.iload X53.here hx rfl (hb hby at_241) rfl (XS.iconst X53.here hx rfl (hb hby at_243) (XS.icmpNo X53.here hx rfl (hb hby at_244) rfl (flt (by decide : ¬ ((3 : Int32) < (3 : Int32)))).1 (XS.iload X53.here hx rfl (hb hby at_247) rfl kk)))))))))))))) ?_
      refine GoW.st (S' := T53.setTop (mkF m 317 #[vi p0, vi p1, vi p2, vi p3, vi p4, vi 3, vi x0, vi x1, vi x2, vi x3, vr b41, vr b49, vi 0] [.ref b49])) (fun _ kk => XS.ifYes X53.here hx rfl (pc0 := 249) (pc' := 280) rfl (hb hby at_249) rfl ((if0 _ _).trans (teq (by decide : (0 : Int32) = (0 : Int32))).1) (by decide) (by decide) (XS.iconst X53.here hx rfl (hb hby at_280) (XS.istore X53.here hx rfl (hb hby at_281) rfl (l' := #[vi p0, vi p1, vi p2, vi p3, vi p4, vi 3, vi x0, vi x1, vi x2, vi x3, vr b41, vr b49, vi 0]) rfl (XS.iload X53.here hx rfl (hb hby at_283) rfl (XS.iconst X53.here hx rfl (hb hby at_285) (XS.icmpYes X53.here hx rfl (pc0 := 286) (pc' := 315) rfl (hb hby at_286) rfl (tlt (by decide : (3 : Int32) < (4 : Int32))).1 (by decide) (by decide) (XS.aload X53.here hx rfl (hb hby at_315) rfl rfl kk))))))) ?_
      obtain ⟨_, _, ⟨T55, L55, k55, n55⟩, -, X55, ⟨Lc55, hQ55, l55, y55, z55⟩, st55⟩ := Jvm.LawKit.callS X53 hx (y := mN0) hown (mvT hZ (ow hw 27 rfl)) (mvT hZ (ow hw 28 rfl)) (mvT hZ (ow hw 29 rfl)) (mvT hZ (ow hw 30 rfl)) (by decide) (backOf (W := 0) (rmEn l Z az hw [] b49 zc fm [(x0.toUInt32.toUInt16.toUInt32.toInt32), (x1.toUInt32.toUInt16.toUInt32.toInt32), (x2.toUInt32.toUInt16.toUInt32.toInt32)] (3 : Int32) T51.heap n0 Zs52 S_C hzc S_F hfm S_A S_H S_L CS51 Ec51 rfl) hZ (ow hw 30 rfl) (ow hw 29 rfl) (by decide) (by decide)) (g := (mkF m 317 #[vi p0, vi p1, vi p2, vi p3, vi p4, vi 3, vi x0, vi x1, vi x2, vi x3, vr b41, vr b49, vi 0] [.ref b49])) rfl (by rw [hml]; rfl) (argsL := [.ref b49]) (rest := []) (lenOf pd_4 rfl) rfl (oW rfl rfl) (hb hby at_317) (fun _ _ => ⟨rfl, e53, (by decide : 4 + 0 ≤ _), (by decide : 16 + 0 ≤ _)⟩)
      dsimp only [Pt.U, Pt.locs, Pt.cells, Pt.slots] at X55 l55 y55 z55 st55 hQ55
      subst l55 y55 z55
      obtain ⟨hv55, N55q, e55⟩ := hQ55
      subst hv55
      have N55 := Fr.app N53 N55q
      refine GoW.st (S' := T55.setTop (mkF m 322 #[vi p0, vi p1, vi p2, vi p3, vi p4, vi 3, vi x0, vi x1, vi x2, vi x3, vr b41, vr b49, vi 0] [.int 0, .int (own_enc [(x0.toUInt32.toUInt16.toUInt32.toInt32), (x1.toUInt32.toUInt16.toUInt32.toInt32), (x2.toUInt32.toUInt16.toUInt32.toInt32)])])) (fun _ kk => st55 _ (XS.iload X55.here hx rfl (hb hby at_320) rfl kk)) ?_
      have hfin : (own_enc [(x0.toUInt32.toUInt16.toUInt32.toInt32), (x1.toUInt32.toUInt16.toUInt32.toInt32), (x2.toUInt32.toUInt16.toUInt32.toInt32)]) = (0 : Int32) := by rw [own_cc16 hb_x0, own_cc16 hb_x1, own_cc16 hb_x2]; exact (own_fin3 x0 x1 x2 x3).trans (by rw [if_pos hc54])
      refine GoW.st (S' := T55.setTop (mkF m 330 #[vi p0, vi p1, vi p2, vi p3, vi p4, vi 3, vi x0, vi x1, vi x2, vi x3, vr b41, vr b49, vi 0] [.int 1])) (fun _ kk => XS.icmpNo X55.here hx rfl (hb hby at_322) rfl (teq hfin).2 (XS.iconst X55.here hx rfl (hb hby at_325) (XS.goto X55.here hx rfl (pc0 := 326) (pc' := 330) rfl (hb hby at_326) (by decide) (by decide) kk))) ?_
      exact GoW.retN X55 hx hlk hS (own_hk e55 hk) (t := .boolean) Bd.returns (by simp) (hb hby at_330) (⟨rfl, N55⟩) (by decide) (by decide)
    · refine GoW.st (S' := T53.setTop (mkF m 219 #[vi p0, vi p1, vi p2, vi p3, vi p4, vi 3, vi x0, vi x1, vi x2, vi x3, vr b41, vr b49, vi 1] [.int 3, .int x2, .int x1, .int 1, .int x0])) (fun _ kk => XS.ifNo X53.here hx rfl (hb hby at_189) rfl ((if0 _ _).trans (feq hc54).1) (XS.iconst X53.here hx rfl (hb hby at_192) (XS.goto X53.here hx rfl (pc0 := 193) (pc' := 197) rfl (hb hby at_193) (by decide) (by decide) (XS.istore X53.here hx rfl (hb hby at_197) rfl (l' := #[vi p0, vi p1, vi p2, vi p3, vi p4, vi 3, vi x0, vi x1, vi x2, vi x3, vr b41, vr b49, vi 1]) rfl (XS.iload X53.here hx rfl (hb hby at_199) rfl (XS.iconst X53.here hx rfl (hb hby at_201) (XS.icmpNo X53.here hx rfl (hb hby at_202) rfl (flt (by decide : ¬ ((3 : Int32) < (2 : Int32)))).1 (XS.iload X53.here hx rfl (hb hby at_205) rfl (XS.ifNo X53.here hx rfl (hb hby at_207) rfl ((if0 _ _).trans (feq (by decide : ¬ ((1 : Int32) = (0 : Int32)))).1) (XS.iload X53.here hx rfl (hb hby at_210) rfl (XS.iconst X53.here hx rfl (hb hby at_212) (XS.iload X53.here hx rfl (hb hby at_213) rfl (XS.iload X53.here hx rfl (hb hby at_215) rfl (XS.iload X53.here hx rfl (hb hby at_217) rfl kk)))))))))))))) ?_
      refine GoW.st (S' := T53.setTop (mkF m 228 #[vi p0, vi p1, vi p2, vi p3, vi p4, vi 3, vi x0, vi x1, vi x2, vi x3, vr b41, vr b49, vi 1] [.int 1, .int x2, .int x1, .int 1, .int x0])) (fun _ kk => XS.iconst X53.here hx rfl (hb hby at_219) (XS.icmpNo X53.here hx rfl (hb hby at_220) rfl (tlt (by decide : (2 : Int32) < (3 : Int32))).2.2.2 (XS.iconst X53.here hx rfl (hb hby at_223) (XS.goto X53.here hx rfl (pc0 := 224) (pc' := 228) rfl (hb hby at_224) (by decide) (by decide) kk)))) ?_
      obtain ⟨_, _, ⟨T56, L56, k56, n56⟩, -, X56, ⟨Lc56, hQ56, l56, y56, z56⟩, st56⟩ := Jvm.LawKit.callS X53 hx (y := mN5) hown (mvT hZ (ow hw 52 rfl)) (mvT hZ (ow hw 53 rfl)) (mvT hZ (ow hw 3 rfl)) (mvT hZ (ow hw 54 rfl)) (by decide) (backOf (W := 0) (rmU l Z az hw [] x0 (1 : Int32) x1 x2 (1 : Int32)  T51.heap n0 Zs52 ) hZ (ow hw 54 rfl) (ow hw 3 rfl) (by decide) (by decide)) (g := (mkF m 228 #[vi p0, vi p1, vi p2, vi p3, vi p4, vi 3, vi x0, vi x1, vi x2, vi x3, vr b41, vr b49, vi 1] [.int 1, .int x2, .int x1, .int 1, .int x0])) rfl (by rw [hml]; rfl) (argsL := [.int x0, .int 1, .int x1, .int x2, .int 1]) (rest := []) (lenOf pd_10 rfl) rfl (oW rfl rfl) (hb hby at_228) (fun _ _ => ⟨rfl, e53, (by decide : 4 + 0 ≤ _), (by decide : 16 + 0 ≤ _)⟩)
      dsimp only [Pt.U, Pt.locs, Pt.cells, Pt.slots] at X56 l56 y56 z56 st56 hQ56
      subst l56 y56 z56
      obtain ⟨hv56, N56q, e56⟩ := hQ56
      subst hv56
      have N56 := Fr.app N53 N56q
      refine GoW.st (S' := T56.setTop (mkF m 231 #[vi p0, vi p1, vi p2, vi p3, vi p4, vi 3, vi x0, vi x1, vi x2, vi x3, vr b41, vr b49, vi 1] [.int (fU x0 (1 : Int32) x1 x2 (1 : Int32))])) st56 ?_
      by_cases hc57 : (fU x0 (1 : Int32) x1 x2 (1 : Int32)) = (0 : Int32)
      · refine GoW.st (S' := T56.setTop (mkF m 317 #[vi p0, vi p1, vi p2, vi p3, vi p4, vi 3, vi x0, vi x1, vi x2, vi x3, vr b41, vr b49, vi 0] [.ref b49])) (fun _ kk => XS.ifYes X56.here hx rfl (pc0 := 231) (pc' := 238) rfl (hb hby at_231) rfl ((if0 _ _).trans (teq hc57).1) (by decide) (by decide) (XS.iconst X56.here hx rfl (hb hby at_238) (XS.istore X56.here hx rfl (hb hby at_239) rfl (l' := #[vi p0, vi p1, vi p2, vi p3, vi p4, vi 3, vi x0, vi x1, vi x2, vi x3, vr b41, vr b49, vi 0]) rfl (XS.iload X56.here hx rfl (hb hby at_241) rfl (XS.iconst X56.here hx rfl (hb hby at_243) (XS.icmpNo X56.here hx rfl (hb hby at_244) rfl (flt (by decide : ¬ ((3 : Int32) < (3 : Int32)))).1 (XS.iload X56.here hx rfl (hb hby at_247) rfl (XS.ifYes X56.here hx rfl (pc0 := 249) (pc' := 280) rfl (hb hby at_249) rfl ((if0 _ _).trans (teq (by decide : (0 : Int32) = (0 : Int32))).1) (by decide) (by decide) (XS.iconst X56.here hx rfl (hb hby at_280) (XS.istore X56.here hx rfl (hb hby at_281) rfl (l' := #[vi p0, vi p1, vi p2, vi p3, vi p4, vi 3, vi x0, vi x1, vi x2, vi x3, vr b41, vr b49, vi 0]) rfl (XS.iload X56.here hx rfl (hb hby at_283) rfl (XS.iconst X56.here hx rfl (hb hby at_285) (XS.icmpYes X56.here hx rfl (pc0 := 286) (pc' := 315) rfl (hb hby at_286) rfl (tlt (by decide : (3 : Int32) < (4 : Int32))).1 (by decide) (by decide) (XS.aload X56.here hx rfl (hb hby at_315) rfl rfl kk)))))))))))))) ?_
        obtain ⟨_, _, ⟨T58, L58, k58, n58⟩, -, X58, ⟨Lc58, hQ58, l58, y58, z58⟩, st58⟩ := Jvm.LawKit.callS X56 hx (y := mN0) hown (mvT hZ (ow hw 27 rfl)) (mvT hZ (ow hw 28 rfl)) (mvT hZ (ow hw 29 rfl)) (mvT hZ (ow hw 30 rfl)) (by decide) (backOf (W := 0) (rmEn l Z az hw [] b49 zc fm [(x0.toUInt32.toUInt16.toUInt32.toInt32), (x1.toUInt32.toUInt16.toUInt32.toInt32), (x2.toUInt32.toUInt16.toUInt32.toInt32)] (3 : Int32) T51.heap n0 Zs52 S_C hzc S_F hfm S_A S_H S_L CS51 Ec51 rfl) hZ (ow hw 30 rfl) (ow hw 29 rfl) (by decide) (by decide)) (g := (mkF m 317 #[vi p0, vi p1, vi p2, vi p3, vi p4, vi 3, vi x0, vi x1, vi x2, vi x3, vr b41, vr b49, vi 0] [.ref b49])) rfl (by rw [hml]; rfl) (argsL := [.ref b49]) (rest := []) (lenOf pd_4 rfl) rfl (oW rfl rfl) (hb hby at_317) (fun _ _ => ⟨rfl, e56, (by decide : 4 + 0 ≤ _), (by decide : 16 + 0 ≤ _)⟩)
        dsimp only [Pt.U, Pt.locs, Pt.cells, Pt.slots] at X58 l58 y58 z58 st58 hQ58
        subst l58 y58 z58
        obtain ⟨hv58, N58q, e58⟩ := hQ58
        subst hv58
        have N58 := Fr.app N56 N58q
        refine GoW.st (S' := T58.setTop (mkF m 322 #[vi p0, vi p1, vi p2, vi p3, vi p4, vi 3, vi x0, vi x1, vi x2, vi x3, vr b41, vr b49, vi 0] [.int 0, .int (own_enc [(x0.toUInt32.toUInt16.toUInt32.toInt32), (x1.toUInt32.toUInt16.toUInt32.toInt32), (x2.toUInt32.toUInt16.toUInt32.toInt32)])])) (fun _ kk => st58 _ (XS.iload X58.here hx rfl (hb hby at_320) rfl kk)) ?_
        have hfin : (own_enc [(x0.toUInt32.toUInt16.toUInt32.toInt32), (x1.toUInt32.toUInt16.toUInt32.toInt32), (x2.toUInt32.toUInt16.toUInt32.toInt32)]) = (0 : Int32) := by rw [own_cc16 hb_x0, own_cc16 hb_x1, own_cc16 hb_x2]; exact (own_fin3 x0 x1 x2 x3).trans (by rw [if_neg hc54, if_pos hc57])
        refine GoW.st (S' := T58.setTop (mkF m 330 #[vi p0, vi p1, vi p2, vi p3, vi p4, vi 3, vi x0, vi x1, vi x2, vi x3, vr b41, vr b49, vi 0] [.int 1])) (fun _ kk => XS.icmpNo X58.here hx rfl (hb hby at_322) rfl (teq hfin).2 (XS.iconst X58.here hx rfl (hb hby at_325) (XS.goto X58.here hx rfl (pc0 := 326) (pc' := 330) rfl (hb hby at_326) (by decide) (by decide) kk))) ?_
        exact GoW.retN X58 hx hlk hS (own_hk e58 hk) (t := .boolean) Bd.returns (by simp) (hb hby at_330) (⟨rfl, N58⟩) (by decide) (by decide)
      · refine GoW.st (S' := T56.setTop (mkF m 261 #[vi p0, vi p1, vi p2, vi p3, vi p4, vi 3, vi x0, vi x1, vi x2, vi x3, vr b41, vr b49, vi 1] [.int 3, .int x3, .int x2, .int 1, .int x1])) (fun _ kk => XS.ifNo X56.here hx rfl (hb hby at_231) rfl ((if0 _ _).trans (feq hc57).1) (XS.iconst X56.here hx rfl (hb hby at_234) (XS.goto X56.here hx rfl (pc0 := 235) (pc' := 239) rfl (hb hby at_235) (by decide) (by decide) (XS.istore X56.here hx rfl (hb hby at_239) rfl (l' := #[vi p0, vi p1, vi p2, vi p3, vi p4, vi 3, vi x0, vi x1, vi x2, vi x3, vr b41, vr b49, vi 1]) rfl (XS.iload X56.here hx rfl (hb hby at_241) rfl (XS.iconst X56.here hx rfl (hb hby at_243) (XS.icmpNo X56.here hx rfl (hb hby at_244) rfl (flt (by decide : ¬ ((3 : Int32) < (3 : Int32)))).1 (XS.iload X56.here hx rfl (hb hby at_247) rfl (XS.ifNo X56.here hx rfl (hb hby at_249) rfl ((if0 _ _).trans (feq (by decide : ¬ ((1 : Int32) = (0 : Int32)))).1) (XS.iload X56.here hx rfl (hb hby at_252) rfl (XS.iconst X56.here hx rfl (hb hby at_254) (XS.iload X56.here hx rfl (hb hby at_255) rfl (XS.iload X56.here hx rfl (hb hby at_257) rfl (XS.iload X56.here hx rfl (hb hby at_259) rfl kk)))))))))))))) ?_
        refine GoW.st (S' := T56.setTop (mkF m 270 #[vi p0, vi p1, vi p2, vi p3, vi p4, vi 3, vi x0, vi x1, vi x2, vi x3, vr b41, vr b49, vi 1] [.int 0, .int x3, .int x2, .int 1, .int x1])) (fun _ kk => XS.iconst X56.here hx rfl (hb hby at_261) (XS.icmpYes X56.here hx rfl (pc0 := 262) (pc' := 269) rfl (hb hby at_262) rfl (flt (by decide : ¬ ((3 : Int32) < (3 : Int32)))).2.2.2 (by decide) (by decide) (XS.iconst X56.here hx rfl (hb hby at_269) kk))) ?_
        obtain ⟨_, _, ⟨T59, L59, k59, n59⟩, -, X59, ⟨Lc59, hQ59, l59, y59, z59⟩, st59⟩ := Jvm.LawKit.callS X56 hx (y := mN5) hown (mvT hZ (ow hw 52 rfl)) (mvT hZ (ow hw 53 rfl)) (mvT hZ (ow hw 3 rfl)) (mvT hZ (ow hw 54 rfl)) (by decide) (backOf (W := 0) (rmU l Z az hw [] x1 (1 : Int32) x2 x3 (0 : Int32)  T51.heap n0 Zs52 ) hZ (ow hw 54 rfl) (ow hw 3 rfl) (by decide) (by decide)) (g := (mkF m 270 #[vi p0, vi p1, vi p2, vi p3, vi p4, vi 3, vi x0, vi x1, vi x2, vi x3, vr b41, vr b49, vi 1] [.int 0, .int x3, .int x2, .int 1, .int x1])) rfl (by rw [hml]; rfl) (argsL := [.int x1, .int 1, .int x2, .int x3, .int 0]) (rest := []) (lenOf pd_10 rfl) rfl (oW rfl rfl) (hb hby at_270) (fun _ _ => ⟨rfl, e56, (by decide : 4 + 0 ≤ _), (by decide : 16 + 0 ≤ _)⟩)
        dsimp only [Pt.U, Pt.locs, Pt.cells, Pt.slots] at X59 l59 y59 z59 st59 hQ59
        subst l59 y59 z59
        obtain ⟨hv59, N59q, e59⟩ := hQ59
        subst hv59
        have N59 := Fr.app N56 N59q
        refine GoW.st (S' := T59.setTop (mkF m 273 #[vi p0, vi p1, vi p2, vi p3, vi p4, vi 3, vi x0, vi x1, vi x2, vi x3, vr b41, vr b49, vi 1] [.int (fU x1 (1 : Int32) x2 x3 (0 : Int32))])) st59 ?_
        by_cases hc60 : (fU x1 (1 : Int32) x2 x3 (0 : Int32)) = (0 : Int32)
        · refine GoW.st (S' := T59.setTop (mkF m 317 #[vi p0, vi p1, vi p2, vi p3, vi p4, vi 3, vi x0, vi x1, vi x2, vi x3, vr b41, vr b49, vi 0] [.ref b49])) (fun _ kk => XS.ifYes X59.here hx rfl (pc0 := 273) (pc' := 280) rfl (hb hby at_273) rfl ((if0 _ _).trans (teq hc60).1) (by decide) (by decide) (XS.iconst X59.here hx rfl (hb hby at_280) (XS.istore X59.here hx rfl (hb hby at_281) rfl (l' := #[vi p0, vi p1, vi p2, vi p3, vi p4, vi 3, vi x0, vi x1, vi x2, vi x3, vr b41, vr b49, vi 0]) rfl (XS.iload X59.here hx rfl (hb hby at_283) rfl (XS.iconst X59.here hx rfl (hb hby at_285) (XS.icmpYes X59.here hx rfl (pc0 := 286) (pc' := 315) rfl (hb hby at_286) rfl (tlt (by decide : (3 : Int32) < (4 : Int32))).1 (by decide) (by decide) (XS.aload X59.here hx rfl (hb hby at_315) rfl rfl kk))))))) ?_
          obtain ⟨_, _, ⟨T61, L61, k61, n61⟩, -, X61, ⟨Lc61, hQ61, l61, y61, z61⟩, st61⟩ := Jvm.LawKit.callS X59 hx (y := mN0) hown (mvT hZ (ow hw 27 rfl)) (mvT hZ (ow hw 28 rfl)) (mvT hZ (ow hw 29 rfl)) (mvT hZ (ow hw 30 rfl)) (by decide) (backOf (W := 0) (rmEn l Z az hw [] b49 zc fm [(x0.toUInt32.toUInt16.toUInt32.toInt32), (x1.toUInt32.toUInt16.toUInt32.toInt32), (x2.toUInt32.toUInt16.toUInt32.toInt32)] (3 : Int32) T51.heap n0 Zs52 S_C hzc S_F hfm S_A S_H S_L CS51 Ec51 rfl) hZ (ow hw 30 rfl) (ow hw 29 rfl) (by decide) (by decide)) (g := (mkF m 317 #[vi p0, vi p1, vi p2, vi p3, vi p4, vi 3, vi x0, vi x1, vi x2, vi x3, vr b41, vr b49, vi 0] [.ref b49])) rfl (by rw [hml]; rfl) (argsL := [.ref b49]) (rest := []) (lenOf pd_4 rfl) rfl (oW rfl rfl) (hb hby at_317) (fun _ _ => ⟨rfl, e59, (by decide : 4 + 0 ≤ _), (by decide : 16 + 0 ≤ _)⟩)
          dsimp only [Pt.U, Pt.locs, Pt.cells, Pt.slots] at X61 l61 y61 z61 st61 hQ61
          subst l61 y61 z61
          obtain ⟨hv61, N61q, e61⟩ := hQ61
          subst hv61
          have N61 := Fr.app N59 N61q
          refine GoW.st (S' := T61.setTop (mkF m 322 #[vi p0, vi p1, vi p2, vi p3, vi p4, vi 3, vi x0, vi x1, vi x2, vi x3, vr b41, vr b49, vi 0] [.int 0, .int (own_enc [(x0.toUInt32.toUInt16.toUInt32.toInt32), (x1.toUInt32.toUInt16.toUInt32.toInt32), (x2.toUInt32.toUInt16.toUInt32.toInt32)])])) (fun _ kk => st61 _ (XS.iload X61.here hx rfl (hb hby at_320) rfl kk)) ?_
          have hfin : (own_enc [(x0.toUInt32.toUInt16.toUInt32.toInt32), (x1.toUInt32.toUInt16.toUInt32.toInt32), (x2.toUInt32.toUInt16.toUInt32.toInt32)]) = (0 : Int32) := by rw [own_cc16 hb_x0, own_cc16 hb_x1, own_cc16 hb_x2]; exact (own_fin3 x0 x1 x2 x3).trans (by rw [if_neg hc54, if_neg hc57, if_pos hc60])
          refine GoW.st (S' := T61.setTop (mkF m 330 #[vi p0, vi p1, vi p2, vi p3, vi p4, vi 3, vi x0, vi x1, vi x2, vi x3, vr b41, vr b49, vi 0] [.int 1])) (fun _ kk => XS.icmpNo X61.here hx rfl (hb hby at_322) rfl (teq hfin).2 (XS.iconst X61.here hx rfl (hb hby at_325) (XS.goto X61.here hx rfl (pc0 := 326) (pc' := 330) rfl (hb hby at_326) (by decide) (by decide) kk))) ?_
          exact GoW.retN X61 hx hlk hS (own_hk e61 hk) (t := .boolean) Bd.returns (by simp) (hb hby at_330) (⟨rfl, N61⟩) (by decide) (by decide)
        · refine GoW.st (S' := T59.setTop (mkF m 317 #[vi p0, vi p1, vi p2, vi p3, vi p4, vi 3, vi x0, vi x1, vi x2, vi x3, vr b41, vr b49, vi 1] [.ref b49])) (fun _ kk => XS.ifNo X59.here hx rfl (hb hby at_273) rfl ((if0 _ _).trans (feq hc60).1) (XS.iconst X59.here hx rfl (hb hby at_276) (XS.goto X59.here hx rfl (pc0 := 277) (pc' := 281) rfl (hb hby at_277) (by decide) (by decide) (XS.istore X59.here hx rfl (hb hby at_281) rfl (l' := #[vi p0, vi p1, vi p2, vi p3, vi p4, vi 3, vi x0, vi x1, vi x2, vi x3, vr b41, vr b49, vi 1]) rfl (XS.iload X59.here hx rfl (hb hby at_283) rfl (XS.iconst X59.here hx rfl (hb hby at_285) (XS.icmpYes X59.here hx rfl (pc0 := 286) (pc' := 315) rfl (hb hby at_286) rfl (tlt (by decide : (3 : Int32) < (4 : Int32))).1 (by decide) (by decide) (XS.aload X59.here hx rfl (hb hby at_315) rfl rfl kk)))))))) ?_
          obtain ⟨_, _, ⟨T62, L62, k62, n62⟩, -, X62, ⟨Lc62, hQ62, l62, y62, z62⟩, st62⟩ := Jvm.LawKit.callS X59 hx (y := mN0) hown (mvT hZ (ow hw 27 rfl)) (mvT hZ (ow hw 28 rfl)) (mvT hZ (ow hw 29 rfl)) (mvT hZ (ow hw 30 rfl)) (by decide) (backOf (W := 0) (rmEn l Z az hw [] b49 zc fm [(x0.toUInt32.toUInt16.toUInt32.toInt32), (x1.toUInt32.toUInt16.toUInt32.toInt32), (x2.toUInt32.toUInt16.toUInt32.toInt32)] (3 : Int32) T51.heap n0 Zs52 S_C hzc S_F hfm S_A S_H S_L CS51 Ec51 rfl) hZ (ow hw 30 rfl) (ow hw 29 rfl) (by decide) (by decide)) (g := (mkF m 317 #[vi p0, vi p1, vi p2, vi p3, vi p4, vi 3, vi x0, vi x1, vi x2, vi x3, vr b41, vr b49, vi 1] [.ref b49])) rfl (by rw [hml]; rfl) (argsL := [.ref b49]) (rest := []) (lenOf pd_4 rfl) rfl (oW rfl rfl) (hb hby at_317) (fun _ _ => ⟨rfl, e59, (by decide : 4 + 0 ≤ _), (by decide : 16 + 0 ≤ _)⟩)
          dsimp only [Pt.U, Pt.locs, Pt.cells, Pt.slots] at X62 l62 y62 z62 st62 hQ62
          subst l62 y62 z62
          obtain ⟨hv62, N62q, e62⟩ := hQ62
          subst hv62
          have N62 := Fr.app N59 N62q
          refine GoW.st (S' := T62.setTop (mkF m 322 #[vi p0, vi p1, vi p2, vi p3, vi p4, vi 3, vi x0, vi x1, vi x2, vi x3, vr b41, vr b49, vi 1] [.int 1, .int (own_enc [(x0.toUInt32.toUInt16.toUInt32.toInt32), (x1.toUInt32.toUInt16.toUInt32.toInt32), (x2.toUInt32.toUInt16.toUInt32.toInt32)])])) (fun _ kk => st62 _ (XS.iload X62.here hx rfl (hb hby at_320) rfl kk)) ?_
          have hfin : (own_enc [(x0.toUInt32.toUInt16.toUInt32.toInt32), (x1.toUInt32.toUInt16.toUInt32.toInt32), (x2.toUInt32.toUInt16.toUInt32.toInt32)]) = (1 : Int32) := by rw [own_cc16 hb_x0, own_cc16 hb_x1, own_cc16 hb_x2]; exact (own_fin3 x0 x1 x2 x3).trans (by rw [if_neg hc54, if_neg hc57, if_neg hc60])
          refine GoW.st (S' := T62.setTop (mkF m 330 #[vi p0, vi p1, vi p2, vi p3, vi p4, vi 3, vi x0, vi x1, vi x2, vi x3, vr b41, vr b49, vi 1] [.int 1])) (fun _ kk => XS.icmpNo X62.here hx rfl (hb hby at_322) rfl (teq hfin).2 (XS.iconst X62.here hx rfl (hb hby at_325) (XS.goto X62.here hx rfl (pc0 := 326) (pc' := 330) rfl (hb hby at_326) (by decide) (by decide) kk))) ?_
          exact GoW.retN X62 hx hlk hS (own_hk e62 hk) (t := .boolean) Bd.returns (by simp) (hb hby at_330) (⟨rfl, N62⟩) (by decide) (by decide)
  · subst hnn
    refine GoW.st (S' := T4.setTop (mkF m 119 #[vi p0, vi p1, vi p2, vi p3, vi p4, vi 4, vi x0, vi x1, vi x2, vi x3, .unset, .unset, .unset] [.int 4])) (fun _ kk => XS.iload X4.here hx rfl (hb hby at_33) rfl (XS.ifYes X4.here hx rfl (pc0 := 35) (pc' := 46) rfl (hb hby at_35) rfl ((if0 _ _).trans (feq (by decide : ¬ ((4 : Int32) = (0 : Int32)))).2) (by decide) (by decide) (XS.iload X4.here hx rfl (hb hby at_46) rfl (XS.iconst X4.here hx rfl (hb hby at_48) (XS.icmpYes X4.here hx rfl (pc0 := 49) (pc' := 65) rfl (hb hby at_49) rfl (feq (by decide : ¬ ((4 : Int32) = (1 : Int32)))).2 (by decide) (by decide) (XS.iload X4.here hx rfl (hb hby at_65) rfl (XS.iconst X4.here hx rfl (hb hby at_67) (XS.icmpYes X4.here hx rfl (pc0 := 68) (pc' := 89) rfl (hb hby at_68) rfl (feq (by decide : ¬ ((4 : Int32) = (2 : Int32)))).2 (by decide) (by decide) (XS.iload X4.here hx rfl (hb hby at_89) rfl (XS.iconst X4.here hx rfl (hb hby at_91) (XS.icmpYes X4.here hx rfl (pc0 := 92) (pc' := 118) rfl (hb hby at_92) rfl (feq (by decide : ¬ ((4 : Int32) = (3 : Int32)))).2 (by decide) (by decide) (XS.iconst X4.here hx rfl (hb hby at_118) kk)))))))))))) ?_
    obtain ⟨T63, h63, k63, X63, e63, E63, A63, E_b63, st63⟩ := newPE X4 hx hZ (ow hw 5 rfl) e4 (g := (mkF m 119 #[vi p0, vi p1, vi p2, vi p3, vi p4, vi 4, vi x0, vi x1, vi x2, vi x3, .unset, .unset, .unset] [.int 4])) rfl (hb hby at_119) rfl (by decide) (cap := 4) (by decide) (by decide) (by decide : 0 + 1 ≤ _) (by decide : 0 + 4 ≤ _) (ad := "[C") rfl
    obtain ⟨b63, g63⟩ : ∃ z, z = h0.size := ⟨_, rfl⟩
    rw [← g63] at A63 E_b63 st63
    have g_b63 : n0 ≤ b63 := Nat.le_trans Z0 (Nat.le_of_eq g63.symm)
    have Sf_b63 : Safe Z consts_1 s.vm h0 b63 := Safe.new (Nat.le_of_eq g63.symm)
    have Sf_b63' := Safe.ext E63 Hc Sf_b63
    have Hc := CHv.ext E63 Hc
    have Sf_b63 := Sf_b63'
    have S_C := S_C.ext E63
    have S_F := S_F.ext E63
    have S_A := S_A.ext E63
    have S_H := S_H.ext E63
    have S_L := S_L.ext E63
    have Zs64 := Nat.le_trans Z0 E63.1
    have hk := Nat.le_trans hk E63.1
    have V_b63 : Arv Z h63 b63 k63 .char (4 : Int32) [(.int 0), (.int 0), (.int 0), (.int 0)] (.int 0) := (Arv.new A63 (by decide)).pad (pad_rep [] (.int 0) 4)
    refine GoW.st (S' := T63.setTop (mkF m 125 #[vi p0, vi p1, vi p2, vi p3, vi p4, vi 4, vi x0, vi x1, vi x2, vi x3, .unset, .unset, .unset] [.int x0, .int 0, .ref b63, .ref b63])) (fun _ kk => st63 _ (XS.dup X63.here hx rfl (hb hby at_121) rfl rfl (XS.iconst X63.here hx rfl (hb hby at_122) (XS.iload X63.here hx rfl (hb hby at_123) rfl kk)))) ?_
    obtain ⟨cl65, Ar65, qk65, S65, Ng65, H65, G65⟩ := (id V_b63)
    have hin65 : ¬ ((0 : Int32) < 0 ∨ cl65.slots.size ≤ ((0 : Int32)).toNatClampNeg) := inb_of S65 ⟨by decide, by decide⟩
    obtain ⟨T65, h65, X65, e65, W65, st65⟩ := stC X63 hx hZ e63 Ar65 (j := (0 : Int32)) hin65 (g := (mkF m 125 #[vi p0, vi p1, vi p2, vi p3, vi p4, vi 4, vi x0, vi x1, vi x2, vi x3, .unset, .unset, .unset] [.int x0, .int 0, .ref b63, .ref b63])) rfl rfl (hb hby at_125)
    have V_b63 : Arv Z h65 b63 k63 .char (4 : Int32) [(.int (x0.toUInt32.toUInt16.toUInt32.toInt32)), (.int 0), (.int 0), (.int 0)] (.int 0) := Arv.set Ar65 qk65 S65 Ng65 H65 G65 (fits_nar_char _) W65 0 rfl (Nat.le_of_ble_eq_true rfl)
    have N65 := Fr.snoc X65 N4 g_b63
    have Sf_b63' := Safe.wr W65 Sf_b63 Hc Sf_b63
    have Hc := CHv.wr W65 Sf_b63 Hc
    have Sf_b63 := Sf_b63'
    have S_C := S_C.wr W65
    have S_F := S_F.wr W65
    have S_A := S_A.wr W65
    have S_H := S_H.wr W65
    have S_L := S_L.wr W65
    have E_b63 := E_b63.wr W65
    have Zs66 := Nat.le_trans Zs64 (Keep.of_wr W65).1
    have hk := Nat.le_trans hk (Keep.of_wr W65).1
    refine GoW.st (S' := T65.setTop (mkF m 130 #[vi p0, vi p1, vi p2, vi p3, vi p4, vi 4, vi x0, vi x1, vi x2, vi x3, .unset, .unset, .unset] [.int x1, .int 1, .ref b63, .ref b63])) (fun _ kk => st65 _ (XS.dup X65.here hx rfl (hb hby at_126) rfl rfl (XS.iconst X65.here hx rfl (hb hby at_127) (XS.iload X65.here hx rfl (hb hby at_128) rfl kk)))) ?_
    obtain ⟨cl67, Ar67, qk67, S67, Ng67, H67, G67⟩ := (id V_b63)
    have hin67 : ¬ ((1 : Int32) < 0 ∨ cl67.slots.size ≤ ((1 : Int32)).toNatClampNeg) := inb_of S67 ⟨by decide, by decide⟩
    obtain ⟨T67, h67, X67, e67, W67, st67⟩ := stC X65 hx hZ e65 Ar67 (j := (1 : Int32)) hin67 (g := (mkF m 130 #[vi p0, vi p1, vi p2, vi p3, vi p4, vi 4, vi x0, vi x1, vi x2, vi x3, .unset, .unset, .unset] [.int x1, .int 1, .ref b63, .ref b63])) rfl rfl (hb hby at_130)
    have V_b63 : Arv Z h67 b63 k63 .char (4 : Int32) [(.int (x0.toUInt32.toUInt16.toUInt32.toInt32)), (.int (x1.toUInt32.toUInt16.toUInt32.toInt32)), (.int 0), (.int 0)] (.int 0) := Arv.set Ar67 qk67 S67 Ng67 H67 G67 (fits_nar_char _) W67 1 rfl (Nat.le_of_ble_eq_true rfl)
    have N67 := Fr.snoc X67 N65 g_b63
    have Sf_b63' := Safe.wr W67 Sf_b63 Hc Sf_b63
    have Hc := CHv.wr W67 Sf_b63 Hc
    have Sf_b63 := Sf_b63'
    have S_C := S_C.wr W67
    have S_F := S_F.wr W67
    have S_A := S_A.wr W67
    have S_H := S_H.wr W67
    have S_L := S_L.wr W67
    have E_b63 := E_b63.wr W67
    have Zs68 := Nat.le_trans Zs66 (Keep.of_wr W67).1
    have hk := Nat.le_trans hk (Keep.of_wr W67).1
    refine GoW.st (S' := T67.setTop (mkF m 135 #[vi p0, vi p1, vi p2, vi p3, vi p4, vi 4, vi x0, vi x1, vi x2, vi x3, .unset, .unset, .unset] [.int x2, .int 2, .ref b63, .ref b63])) (fun _ kk => st67 _ (XS.dup X67.here hx rfl (hb hby at_131) rfl rfl (XS.iconst X67.here hx rfl (hb hby at_132) (XS.iload X67.here hx rfl (hb hby at_133) rfl kk)))) ?_
    obtain ⟨cl69, Ar69, qk69, S69, Ng69, H69, G69⟩ := (id V_b63)
    have hin69 : ¬ ((2 : Int32) < 0 ∨ cl69.slots.size ≤ ((2 : Int32)).toNatClampNeg) := inb_of S69 ⟨by decide, by decide⟩
    obtain ⟨T69, h69, X69, e69, W69, st69⟩ := stC X67 hx hZ e67 Ar69 (j := (2 : Int32)) hin69 (g := (mkF m 135 #[vi p0, vi p1, vi p2, vi p3, vi p4, vi 4, vi x0, vi x1, vi x2, vi x3, .unset, .unset, .unset] [.int x2, .int 2, .ref b63, .ref b63])) rfl rfl (hb hby at_135)
    have V_b63 : Arv Z h69 b63 k63 .char (4 : Int32) [(.int (x0.toUInt32.toUInt16.toUInt32.toInt32)), (.int (x1.toUInt32.toUInt16.toUInt32.toInt32)), (.int (x2.toUInt32.toUInt16.toUInt32.toInt32)), (.int 0)] (.int 0) := Arv.set Ar69 qk69 S69 Ng69 H69 G69 (fits_nar_char _) W69 2 rfl (Nat.le_of_ble_eq_true rfl)
    have N69 := Fr.snoc X69 N67 g_b63
    have Sf_b63' := Safe.wr W69 Sf_b63 Hc Sf_b63
    have Hc := CHv.wr W69 Sf_b63 Hc
    have Sf_b63 := Sf_b63'
    have S_C := S_C.wr W69
    have S_F := S_F.wr W69
    have S_A := S_A.wr W69
    have S_H := S_H.wr W69
    have S_L := S_L.wr W69
    have E_b63 := E_b63.wr W69
    have Zs70 := Nat.le_trans Zs68 (Keep.of_wr W69).1
    have hk := Nat.le_trans hk (Keep.of_wr W69).1
    refine GoW.st (S' := T69.setTop (mkF m 140 #[vi p0, vi p1, vi p2, vi p3, vi p4, vi 4, vi x0, vi x1, vi x2, vi x3, .unset, .unset, .unset] [.int x3, .int 3, .ref b63, .ref b63])) (fun _ kk => st69 _ (XS.dup X69.here hx rfl (hb hby at_136) rfl rfl (XS.iconst X69.here hx rfl (hb hby at_137) (XS.iload X69.here hx rfl (hb hby at_138) rfl kk)))) ?_
    obtain ⟨cl71, Ar71, qk71, S71, Ng71, H71, G71⟩ := (id V_b63)
    have hin71 : ¬ ((3 : Int32) < 0 ∨ cl71.slots.size ≤ ((3 : Int32)).toNatClampNeg) := inb_of S71 ⟨by decide, by decide⟩
    obtain ⟨T71, h71, X71, e71, W71, st71⟩ := stC X69 hx hZ e69 Ar71 (j := (3 : Int32)) hin71 (g := (mkF m 140 #[vi p0, vi p1, vi p2, vi p3, vi p4, vi 4, vi x0, vi x1, vi x2, vi x3, .unset, .unset, .unset] [.int x3, .int 3, .ref b63, .ref b63])) rfl rfl (hb hby at_140)
    have V_b63 : Arv Z h71 b63 k63 .char (4 : Int32) [(.int (x0.toUInt32.toUInt16.toUInt32.toInt32)), (.int (x1.toUInt32.toUInt16.toUInt32.toInt32)), (.int (x2.toUInt32.toUInt16.toUInt32.toInt32)), (.int (x3.toUInt32.toUInt16.toUInt32.toInt32))] (.int 0) := Arv.set Ar71 qk71 S71 Ng71 H71 G71 (fits_nar_char _) W71 3 rfl (Nat.le_of_ble_eq_true rfl)
    have N71 := Fr.snoc X71 N69 g_b63
    have Sf_b63' := Safe.wr W71 Sf_b63 Hc Sf_b63
    have Hc := CHv.wr W71 Sf_b63 Hc
    have Sf_b63 := Sf_b63'
    have S_C := S_C.wr W71
    have S_F := S_F.wr W71
    have S_A := S_A.wr W71
    have S_H := S_H.wr W71
    have S_L := S_L.wr W71
    have E_b63 := E_b63.wr W71
    have Zs72 := Nat.le_trans Zs70 (Keep.of_wr W71).1
    have hk := Nat.le_trans hk (Keep.of_wr W71).1
    refine GoW.st (S' := T71.setTop (mkF m 143 #[vi p0, vi p1, vi p2, vi p3, vi p4, vi 4, vi x0, vi x1, vi x2, vi x3, vr b63, .unset, .unset] [])) (fun _ kk => st71 _ (XS.astore X71.here hx rfl (hb hby at_141) rfl rfl (l' := #[vi p0, vi p1, vi p2, vi p3, vi p4, vi 4, vi x0, vi x1, vi x2, vi x3, vr b63, .unset, .unset]) rfl kk)) ?_
    obtain ⟨T73, h73, X73, e73, E73, A73, D73, -, st73⟩ := newO X71 hx hZ hown (ow hw 6 rfl) (ow hw 7 rfl) (ow hw 8 rfl) e71 (g := (mkF m 143 #[vi p0, vi p1, vi p2, vi p3, vi p4, vi 4, vi x0, vi x1, vi x2, vi x3, vr b63, .unset, .unset] [])) rfl (hb hby at_143) (by decide : 1 + 1 ≤ _) (by decide : 4 + 4 ≤ _)
    obtain ⟨b73, g73⟩ : ∃ z, z = h71.size := ⟨_, rfl⟩
    rw [← g73] at A73 D73 st73
    have ne_b63_b73 : b63 ≠ b73 := Nat.ne_of_lt (Nat.lt_of_lt_of_le E_b63.lt (Nat.le_of_eq g73.symm))
    have g_b73 : n0 ≤ b73 := Nat.le_trans Zs72 (Nat.le_of_eq g73.symm)
    have Sf_b73 : Safe Z consts_1 s.vm h71 b73 := Safe.new (Nat.le_of_eq g73.symm)
    have Sf_b63' := Safe.ext E73 Hc Sf_b63
    have Sf_b73' := Safe.ext E73 Hc Sf_b73
    have Hc := CHv.ext E73 Hc
    have Sf_b63 := Sf_b63'
    have Sf_b73 := Sf_b73'
    have S_C := S_C.ext E73
    have S_F := S_F.ext E73
    have S_A := S_A.ext E73
    have S_H := S_H.ext E73
    have S_L := S_L.ext E73
    have E_b63 := E_b63.ext E73
    have V_b63 := V_b63.ext E73
    have Zs74 := Nat.le_trans Zs72 E73.1
    have hk := Nat.le_trans hk E73.1
    have E_b73 := A73
    have F_value_b73 : tF1 Z h73 b73 .null := D73 (Or.inr (ow hw 21 rfl)) (ty := (.array .byte)) (by decide)
    have F_coder_b73 : tF0 Z h73 b73 (.int 0) := D73 (Or.inr (ow hw 22 rfl)) (ty := .byte) (by decide)
    refine GoW.st (S' := T73.setTop (mkF m 149 #[vi p0, vi p1, vi p2, vi p3, vi p4, vi 4, vi x0, vi x1, vi x2, vi x3, vr b63, .unset, .unset] [.ref b63, .ref b73, .ref b73])) (fun _ kk => st73 _ (XS.dup X73.here hx rfl (hb hby at_146) rfl rfl (XS.aload X73.here hx rfl (hb hby at_147) rfl rfl kk))) ?_
    obtain ⟨_, _, ⟨T75, L75, k75, n75⟩, -, X75, ⟨Lc75, hQ75, l75, y75, z75⟩, st75⟩ := X73.specialBack hx (y := mN9) rfl hown (mvT hZ (ow hw 9 rfl)) (mvT hZ (ow hw 10 rfl)) (mvT hZ (ow hw 11 rfl)) (by decide) (backOf (W := 1) (rmI1_4 l Z az hw [] b73 b63 zc fm k63 (x0.toUInt32.toUInt16.toUInt32.toInt32) (x1.toUInt32.toUInt16.toUInt32.toInt32) (x2.toUInt32.toUInt16.toUInt32.toInt32) (x3.toUInt32.toUInt16.toUInt32.toInt32) h73 n0 Zs74 S_C hzc S_F hfm S_A S_H S_L E_b73 F_coder_b73 F_value_b73 g_b73 (Ne.symm ne_b63_b73) V_b63  (own_bdc x0) (own_bdc x1) (own_bdc x2) (own_bdc x3) ) hZ (ow hw 11 rfl) (ow hw 8 rfl) (by decide) (by decide)) (g := (mkF m 149 #[vi p0, vi p1, vi p2, vi p3, vi p4, vi 4, vi x0, vi x1, vi x2, vi x3, vr b63, .unset, .unset] [.ref b63, .ref b73, .ref b73])) rfl (by rw [hml]; rfl) (Steps.refl _) (a := b73) (argsL := [.ref b63]) (rest := [.ref b73]) (lenOf pd_1 rfl) rfl (oW rfl rfl) (hb hby at_149) (fun _ _ => ⟨rfl, e73, (by decide : 2 + 2 ≤ _), (by decide : 8 + 12 ≤ _)⟩)
    dsimp only [Pt.U, Pt.locs, Pt.cells, Pt.slots] at X75 l75 y75 z75 st75 hQ75
    subst l75 y75 z75
    obtain ⟨rfl, N75q, K75, CS75⟩ := hQ75
    have N75 := Fr.app N71 N75q
    have Sf_b63' := Safe.keep K75 (allS (P := Safe Z consts_1 s.vm h73) Sf_b73 all0) Hc Sf_b63
    have Sf_b73' := Safe.keep K75 (allS (P := Safe Z consts_1 s.vm h73) Sf_b73 all0) Hc Sf_b73
    have Hc := CHv.keep K75 (allS (P := Safe Z consts_1 s.vm h73) Sf_b73 all0) Hc
    have Sf_b63 := Sf_b63'
    have Sf_b73 := Sf_b73'
    have S_C := own_stak K75 (allS (P := fun x => ∀ cell : Cell, (h73)[x]? = some cell → cell.vm.isStatics = false) (Exa.nostat E_b73) all0) S_C
    have S_F := own_stak K75 (allS (P := fun x => ∀ cell : Cell, (h73)[x]? = some cell → cell.vm.isStatics = false) (Exa.nostat E_b73) all0) S_F
    have S_A := own_stak K75 (allS (P := fun x => ∀ cell : Cell, (h73)[x]? = some cell → cell.vm.isStatics = false) (Exa.nostat E_b73) all0) S_A
    have S_H := own_stak K75 (allS (P := fun x => ∀ cell : Cell, (h73)[x]? = some cell → cell.vm.isStatics = false) (Exa.nostat E_b73) all0) S_H
    have S_L := own_stak K75 (allS (P := fun x => ∀ cell : Cell, (h73)[x]? = some cell → cell.vm.isStatics = false) (Exa.nostat E_b73) all0) S_L
    have E_b63 := E_b63.keep K75
    have V_b63 := V_b63.keep K75 (ninS ne_b63_b73 nin0)
    have E_b73 := E_b73.keep K75
    have Zs76 := Nat.le_trans Zs74 K75.1
    have hk := Nat.le_trans hk K75.1
    have Ec75 := CS75.1
    refine GoW.st (S' := T75.setTop (mkF m 177 #[vi p0, vi p1, vi p2, vi p3, vi p4, vi 4, vi x0, vi x1, vi x2, vi x3, vr b63, vr b73, vi 1] [.int 4, .int x1, .int x0, .int 0, .int x0])) (fun _ kk => st75.trans (XS.astore X75.here hx rfl (hb hby at_152) rfl rfl (l' := #[vi p0, vi p1, vi p2, vi p3, vi p4, vi 4, vi x0, vi x1, vi x2, vi x3, vr b63, vr b73, .unset]) rfl (XS.iconst X75.here hx rfl (hb hby at_154) (XS.istore X75.here hx rfl (hb hby at_155) rfl (l' := #[vi p0, vi p1, vi p2, vi p3, vi p4, vi 4, vi x0, vi x1, vi x2, vi x3, vr b63, vr b73, vi 1]) rfl (XS.iload X75.here hx rfl (hb hby at_157) rfl (XS.iconst X75.here hx rfl (hb hby at_159) (XS.icmpNo X75.here hx rfl (hb hby at_160) rfl (flt (by decide : ¬ ((4 : Int32) < (1 : Int32)))).1 (XS.iload X75.here hx rfl (hb hby at_163) rfl (XS.ifNo X75.here hx rfl (hb hby at_165) rfl ((if0 _ _).trans (feq (by decide : ¬ ((1 : Int32) = (0 : Int32)))).1) (XS.iload X75.here hx rfl (hb hby at_168) rfl (XS.iconst X75.here hx rfl (hb hby at_170) (XS.iload X75.here hx rfl (hb hby at_171) rfl (XS.iload X75.here hx rfl (hb hby at_173) rfl (XS.iload X75.here hx rfl (hb hby at_175) rfl kk)))))))))))))) ?_
    refine GoW.st (S' := T75.setTop (mkF m 186 #[vi p0, vi p1, vi p2, vi p3, vi p4, vi 4, vi x0, vi x1, vi x2, vi x3, vr b63, vr b73, vi 1] [.int 1, .int x1, .int x0, .int 0, .int x0])) (fun _ kk => XS.iconst X75.here hx rfl (hb hby at_177) (XS.icmpNo X75.here hx rfl (hb hby at_178) rfl (tlt (by decide : (1 : Int32) < (4 : Int32))).2.2.2 (XS.iconst X75.here hx rfl (hb hby at_181) (XS.goto X75.here hx rfl (pc0 := 182) (pc' := 186) rfl (hb hby at_182) (by decide) (by decide) kk)))) ?_
    obtain ⟨_, _, ⟨T77, L77, k77, n77⟩, -, X77, ⟨Lc77, hQ77, l77, y77, z77⟩, st77⟩ := Jvm.LawKit.callS X75 hx (y := mN5) hown (mvT hZ (ow hw 52 rfl)) (mvT hZ (ow hw 53 rfl)) (mvT hZ (ow hw 3 rfl)) (mvT hZ (ow hw 54 rfl)) (by decide) (backOf (W := 0) (rmU l Z az hw [] x0 (0 : Int32) x0 x1 (1 : Int32)  T75.heap n0 Zs76 ) hZ (ow hw 54 rfl) (ow hw 3 rfl) (by decide) (by decide)) (g := (mkF m 186 #[vi p0, vi p1, vi p2, vi p3, vi p4, vi 4, vi x0, vi x1, vi x2, vi x3, vr b63, vr b73, vi 1] [.int 1, .int x1, .int x0, .int 0, .int x0])) rfl (by rw [hml]; rfl) (argsL := [.int x0, .int 0, .int x0, .int x1, .int 1]) (rest := []) (lenOf pd_10 rfl) rfl (oW rfl rfl) (hb hby at_186) (fun _ _ => ⟨rfl, rfl, (by decide : 4 + 0 ≤ _), (by decide : 20 + 0 ≤ _)⟩)
    dsimp only [Pt.U, Pt.locs, Pt.cells, Pt.slots] at X77 l77 y77 z77 st77 hQ77
    subst l77 y77 z77
    obtain ⟨hv77, N77q, e77⟩ := hQ77
    subst hv77
    have N77 := Fr.app N75 N77q
    refine GoW.st (S' := T77.setTop (mkF m 189 #[vi p0, vi p1, vi p2, vi p3, vi p4, vi 4, vi x0, vi x1, vi x2, vi x3, vr b63, vr b73, vi 1] [.int (fU x0 (0 : Int32) x0 x1 (1 : Int32))])) st77 ?_
    by_cases hc78 : (fU x0 (0 : Int32) x0 x1 (1 : Int32)) = (0 : Int32)
    · refine GoW.st (S' := T77.setTop (mkF m 249 #[vi p0, vi p1, vi p2, vi p3, vi p4, vi 4, vi x0, vi x1, vi x2, vi x3, vr b63, vr b73, vi 0] [.int 0])) (fun _ kk => XS.ifYes X77.here hx rfl (pc0 := 189) (pc' := 196) rfl (hb hby at_189) rfl ((if0 _ _).trans (teq hc78).1) (by decide) (by decide) (XS.iconst X77.here hx rfl (hb hby at_196) (XS.istore X77.here hx rfl (hb hby at_197) rfl (l' := #[vi p0, vi p1, vi p2, vi p3, vi p4, vi 4, vi x0, vi x1, vi x2, vi x3, vr b63, vr b73, vi 0]) rfl (XS.iload X77.here hx rfl (hb hby at_199) rfl (XS.iconst X77.here hx rfl (hb hby at_201) (XS.icmpNo X77.here hx rfl (hb hby at_202) rfl (flt (by decide : ¬ ((4 : Int32) < (2 : Int32)))).1 (XS.iload X77.here hx rfl (hb hby at_205) rfl (XS.ifYes X77.here hx rfl (pc0 := 207) (pc' := 238) rfl (hb hby at_207) rfl ((if0 _ _).trans (teq (by decide : (0 : Int32) = (0 : Int32))).1) (by decide) (by decide) (XS.iconst X77.here hx rfl (hb hby at_238) (XS.istore X77.here hx rfl (hb hby at_239) rfl (l' := #[vi p0, vi p1, vi p2, vi p3, vi p4, vi 4, vi x0, vi x1, vi x2, vi x3, vr b63, vr b73, vi 0]) rfl (XS.iload X77.here hx rfl (hb hby at_241) rfl (XS.iconst X77.here hx rfl (hb hby at_243) (XS.icmpNo X77.here hx rfl (hb hby at_244) rfl (flt (by decide : ¬ ((4 : Int32) < (3 : Int32)))).1 (XS.iload X77.here hx rfl (hb hby at_247) rfl kk)))))))))))))) ?_
      refine GoW.st (S' := T77.setTop (mkF m 317 #[vi p0, vi p1, vi p2, vi p3, vi p4, vi 4, vi x0, vi x1, vi x2, vi x3, vr b63, vr b73, vi 0] [.ref b73])) (fun _ kk => XS.ifYes X77.here hx rfl (pc0 := 249) (pc' := 280) rfl (hb hby at_249) rfl ((if0 _ _).trans (teq (by decide : (0 : Int32) = (0 : Int32))).1) (by decide) (by decide) (XS.iconst X77.here hx rfl (hb hby at_280) (XS.istore X77.here hx rfl (hb hby at_281) rfl (l' := #[vi p0, vi p1, vi p2, vi p3, vi p4, vi 4, vi x0, vi x1, vi x2, vi x3, vr b63, vr b73, vi 0]) rfl (XS.iload X77.here hx rfl (hb hby at_283) rfl (XS.iconst X77.here hx rfl (hb hby at_285) (XS.icmpNo X77.here hx rfl (hb hby at_286) rfl (flt (by decide : ¬ ((4 : Int32) < (4 : Int32)))).1 (XS.iload X77.here hx rfl (hb hby at_289) rfl (XS.ifYes X77.here hx rfl (pc0 := 291) (pc' := 312) rfl (hb hby at_291) rfl ((if0 _ _).trans (teq (by decide : (0 : Int32) = (0 : Int32))).1) (by decide) (by decide) (XS.iconst X77.here hx rfl (hb hby at_312) (XS.istore X77.here hx rfl (hb hby at_313) rfl (l' := #[vi p0, vi p1, vi p2, vi p3, vi p4, vi 4, vi x0, vi x1, vi x2, vi x3, vr b63, vr b73, vi 0]) rfl (XS.aload X77.here hx rfl (hb hby at_315) rfl rfl kk))))))))))) ?_
      obtain ⟨_, _, ⟨T79, L79, k79, n79⟩, -, X79, ⟨Lc79, hQ79, l79, y79, z79⟩, st79⟩ := Jvm.LawKit.callS X77 hx (y := mN0) hown (mvT hZ (ow hw 27 rfl)) (mvT hZ (ow hw 28 rfl)) (mvT hZ (ow hw 29 rfl)) (mvT hZ (ow hw 30 rfl)) (by decide) (backOf (W := 0) (rmEn l Z az hw [] b73 zc fm [(x0.toUInt32.toUInt16.toUInt32.toInt32), (x1.toUInt32.toUInt16.toUInt32.toInt32), (x2.toUInt32.toUInt16.toUInt32.toInt32), (x3.toUInt32.toUInt16.toUInt32.toInt32)] (4 : Int32) T75.heap n0 Zs76 S_C hzc S_F hfm S_A S_H S_L CS75 Ec75 rfl) hZ (ow hw 30 rfl) (ow hw 29 rfl) (by decide) (by decide)) (g := (mkF m 317 #[vi p0, vi p1, vi p2, vi p3, vi p4, vi 4, vi x0, vi x1, vi x2, vi x3, vr b63, vr b73, vi 0] [.ref b73])) rfl (by rw [hml]; rfl) (argsL := [.ref b73]) (rest := []) (lenOf pd_4 rfl) rfl (oW rfl rfl) (hb hby at_317) (fun _ _ => ⟨rfl, e77, (by decide : 4 + 0 ≤ _), (by decide : 20 + 0 ≤ _)⟩)
      dsimp only [Pt.U, Pt.locs, Pt.cells, Pt.slots] at X79 l79 y79 z79 st79 hQ79
      subst l79 y79 z79
      obtain ⟨hv79, N79q, e79⟩ := hQ79
      subst hv79
      have N79 := Fr.app N77 N79q
      refine GoW.st (S' := T79.setTop (mkF m 322 #[vi p0, vi p1, vi p2, vi p3, vi p4, vi 4, vi x0, vi x1, vi x2, vi x3, vr b63, vr b73, vi 0] [.int 0, .int (own_enc [(x0.toUInt32.toUInt16.toUInt32.toInt32), (x1.toUInt32.toUInt16.toUInt32.toInt32), (x2.toUInt32.toUInt16.toUInt32.toInt32), (x3.toUInt32.toUInt16.toUInt32.toInt32)])])) (fun _ kk => st79 _ (XS.iload X79.here hx rfl (hb hby at_320) rfl kk)) ?_
      have hfin : (own_enc [(x0.toUInt32.toUInt16.toUInt32.toInt32), (x1.toUInt32.toUInt16.toUInt32.toInt32), (x2.toUInt32.toUInt16.toUInt32.toInt32), (x3.toUInt32.toUInt16.toUInt32.toInt32)]) = (0 : Int32) := by rw [own_cc16 hb_x0, own_cc16 hb_x1, own_cc16 hb_x2, own_cc16 hb_x3]; exact (own_fin4 x0 x1 x2 x3).trans (by rw [if_pos hc78])
      refine GoW.st (S' := T79.setTop (mkF m 330 #[vi p0, vi p1, vi p2, vi p3, vi p4, vi 4, vi x0, vi x1, vi x2, vi x3, vr b63, vr b73, vi 0] [.int 1])) (fun _ kk => XS.icmpNo X79.here hx rfl (hb hby at_322) rfl (teq hfin).2 (XS.iconst X79.here hx rfl (hb hby at_325) (XS.goto X79.here hx rfl (pc0 := 326) (pc' := 330) rfl (hb hby at_326) (by decide) (by decide) kk))) ?_
      exact GoW.retN X79 hx hlk hS (own_hk e79 hk) (t := .boolean) Bd.returns (by simp) (hb hby at_330) (⟨rfl, N79⟩) (by decide) (by decide)
    · refine GoW.st (S' := T77.setTop (mkF m 219 #[vi p0, vi p1, vi p2, vi p3, vi p4, vi 4, vi x0, vi x1, vi x2, vi x3, vr b63, vr b73, vi 1] [.int 4, .int x2, .int x1, .int 1, .int x0])) (fun _ kk => XS.ifNo X77.here hx rfl (hb hby at_189) rfl ((if0 _ _).trans (feq hc78).1) (XS.iconst X77.here hx rfl (hb hby at_192) (XS.goto X77.here hx rfl (pc0 := 193) (pc' := 197) rfl (hb hby at_193) (by decide) (by decide) (XS.istore X77.here hx rfl (hb hby at_197) rfl (l' := #[vi p0, vi p1, vi p2, vi p3, vi p4, vi 4, vi x0, vi x1, vi x2, vi x3, vr b63, vr b73, vi 1]) rfl (XS.iload X77.here hx rfl (hb hby at_199) rfl (XS.iconst X77.here hx rfl (hb hby at_201) (XS.icmpNo X77.here hx rfl (hb hby at_202) rfl (flt (by decide : ¬ ((4 : Int32) < (2 : Int32)))).1 (XS.iload X77.here hx rfl (hb hby at_205) rfl (XS.ifNo X77.here hx rfl (hb hby at_207) rfl ((if0 _ _).trans (feq (by decide : ¬ ((1 : Int32) = (0 : Int32)))).1) (XS.iload X77.here hx rfl (hb hby at_210) rfl (XS.iconst X77.here hx rfl (hb hby at_212) (XS.iload X77.here hx rfl (hb hby at_213) rfl (XS.iload X77.here hx rfl (hb hby at_215) rfl (XS.iload X77.here hx rfl (hb hby at_217) rfl kk)))))))))))))) ?_
      refine GoW.st (S' := T77.setTop (mkF m 228 #[vi p0, vi p1, vi p2, vi p3, vi p4, vi 4, vi x0, vi x1, vi x2, vi x3, vr b63, vr b73, vi 1] [.int 1, .int x2, .int x1, .int 1, .int x0])) (fun _ kk => XS.iconst X77.here hx rfl (hb hby at_219) (XS.icmpNo X77.here hx rfl (hb hby at_220) rfl (tlt (by decide : (2 : Int32) < (4 : Int32))).2.2.2 (XS.iconst X77.here hx rfl (hb hby at_223) (XS.goto X77.here hx rfl (pc0 := 224) (pc' := 228) rfl (hb hby at_224) (by decide) (by decide) kk)))) ?_
      obtain ⟨_, _, ⟨T80, L80, k80, n80⟩, -, X80, ⟨Lc80, hQ80, l80, y80, z80⟩, st80⟩ := Jvm.LawKit.callS X77 hx (y := mN5) hown (mvT hZ (ow hw 52 rfl)) (mvT hZ (ow hw 53 rfl)) (mvT hZ (ow hw 3 rfl)) (mvT hZ (ow hw 54 rfl)) (by decide) (backOf (W := 0) (rmU l Z az hw [] x0 (1 : Int32) x1 x2 (1 : Int32)  T75.heap n0 Zs76 ) hZ (ow hw 54 rfl) (ow hw 3 rfl) (by decide) (by decide)) (g := (mkF m 228 #[vi p0, vi p1, vi p2, vi p3, vi p4, vi 4, vi x0, vi x1, vi x2, vi x3, vr b63, vr b73, vi 1] [.int 1, .int x2, .int x1, .int 1, .int x0])) rfl (by rw [hml]; rfl) (argsL := [.int x0, .int 1, .int x1, .int x2, .int 1]) (rest := []) (lenOf pd_10 rfl) rfl (oW rfl rfl) (hb hby at_228) (fun _ _ => ⟨rfl, e77, (by decide : 4 + 0 ≤ _), (by decide : 20 + 0 ≤ _)⟩)
      dsimp only [Pt.U, Pt.locs, Pt.cells, Pt.slots] at X80 l80 y80 z80 st80 hQ80
      subst l80 y80 z80
      obtain ⟨hv80, N80q, e80⟩ := hQ80
      subst hv80
      have N80 := Fr.app N77 N80q
      refine GoW.st (S' := T80.setTop (mkF m 231 #[vi p0, vi p1, vi p2, vi p3, vi p4, vi 4, vi x0, vi x1, vi x2, vi x3, vr b63, vr b73, vi 1] [.int (fU x0 (1 : Int32) x1 x2 (1 : Int32))])) st80 ?_
      by_cases hc81 : (fU x0 (1 : Int32) x1 x2 (1 : Int32)) = (0 : Int32)
      · refine GoW.st (S' := T80.setTop (mkF m 291 #[vi p0, vi p1, vi p2, vi p3, vi p4, vi 4, vi x0, vi x1, vi x2, vi x3, vr b63, vr b73, vi 0] [.int 0])) (fun _ kk => XS.ifYes X80.here hx rfl (pc0 := 231) (pc' := 238) rfl (hb hby at_231) rfl ((if0 _ _).trans (teq hc81).1) (by decide) (by decide) (XS.iconst X80.here hx rfl (hb hby at_238) (XS.istore X80.here hx rfl (hb hby at_239) rfl (l' := #[vi p0, vi p1, vi p2, vi p3, vi p4, vi 4, vi x0, vi x1, vi x2, vi x3, vr b63, vr b73, vi 0]) rfl (XS.iload X80.here hx rfl (hb hby at_241) rfl (XS.iconst X80.here hx rfl (hb hby at_243) (XS.icmpNo X80.here hx rfl (hb hby at_244) rfl (flt (by decide : ¬ ((4 : Int32) < (3 : Int32)))).1 (XS.iload X80.here hx rfl (hb hby at_247) rfl (XS.ifYes X80.here hx rfl (pc0 := 249) (pc' := 280) rfl (hb hby at_249) rfl ((if0 _ _).trans (teq (by decide : (0 : Int32) = (0 : Int32))).1) (by decide) (by decide) (XS.iconst X80.here hx rfl (hb hby at_280) (XS.istore X80.here hx rfl (hb hby at_281) rfl (l' := #[vi p0, vi p1, vi p2, vi p3, vi p4, vi 4, vi x0, vi x1, vi x2, vi x3, vr b63, vr b73, vi 0]) rfl (XS.iload X80.here hx rfl (hb hby at_283) rfl (XS.iconst X80.here hx rfl (hb hby at_285) (XS.icmpNo X80.here hx rfl (hb hby at_286) rfl (flt (by decide : ¬ ((4 : Int32) < (4 : Int32)))).1 (XS.iload X80.here hx rfl (hb hby at_289) rfl kk)))))))))))))) ?_
        refine GoW.st (S' := T80.setTop (mkF m 317 #[vi p0, vi p1, vi p2, vi p3, vi p4, vi 4, vi x0, vi x1, vi x2, vi x3, vr b63, vr b73, vi 0] [.ref b73])) (fun _ kk => XS.ifYes X80.here hx rfl (pc0 := 291) (pc' := 312) rfl (hb hby at_291) rfl ((if0 _ _).trans (teq (by decide : (0 : Int32) = (0 : Int32))).1) (by decide) (by decide) (XS.iconst X80.here hx rfl (hb hby at_312) (XS.istore X80.here hx rfl (hb hby at_313) rfl (l' := #[vi p0, vi p1, vi p2, vi p3, vi p4, vi 4, vi x0, vi x1, vi x2, vi x3, vr b63, vr b73, vi 0]) rfl (XS.aload X80.here hx rfl (hb hby at_315) rfl rfl kk)))) ?_
        obtain ⟨_, _, ⟨T82, L82, k82, n82⟩, -, X82, ⟨Lc82, hQ82, l82, y82, z82⟩, st82⟩ := Jvm.LawKit.callS X80 hx (y := mN0) hown (mvT hZ (ow hw 27 rfl)) (mvT hZ (ow hw 28 rfl)) (mvT hZ (ow hw 29 rfl)) (mvT hZ (ow hw 30 rfl)) (by decide) (backOf (W := 0) (rmEn l Z az hw [] b73 zc fm [(x0.toUInt32.toUInt16.toUInt32.toInt32), (x1.toUInt32.toUInt16.toUInt32.toInt32), (x2.toUInt32.toUInt16.toUInt32.toInt32), (x3.toUInt32.toUInt16.toUInt32.toInt32)] (4 : Int32) T75.heap n0 Zs76 S_C hzc S_F hfm S_A S_H S_L CS75 Ec75 rfl) hZ (ow hw 30 rfl) (ow hw 29 rfl) (by decide) (by decide)) (g := (mkF m 317 #[vi p0, vi p1, vi p2, vi p3, vi p4, vi 4, vi x0, vi x1, vi x2, vi x3, vr b63, vr b73, vi 0] [.ref b73])) rfl (by rw [hml]; rfl) (argsL := [.ref b73]) (rest := []) (lenOf pd_4 rfl) rfl (oW rfl rfl) (hb hby at_317) (fun _ _ => ⟨rfl, e80, (by decide : 4 + 0 ≤ _), (by decide : 20 + 0 ≤ _)⟩)
        dsimp only [Pt.U, Pt.locs, Pt.cells, Pt.slots] at X82 l82 y82 z82 st82 hQ82
        subst l82 y82 z82
        obtain ⟨hv82, N82q, e82⟩ := hQ82
        subst hv82
        have N82 := Fr.app N80 N82q
        refine GoW.st (S' := T82.setTop (mkF m 322 #[vi p0, vi p1, vi p2, vi p3, vi p4, vi 4, vi x0, vi x1, vi x2, vi x3, vr b63, vr b73, vi 0] [.int 0, .int (own_enc [(x0.toUInt32.toUInt16.toUInt32.toInt32), (x1.toUInt32.toUInt16.toUInt32.toInt32), (x2.toUInt32.toUInt16.toUInt32.toInt32), (x3.toUInt32.toUInt16.toUInt32.toInt32)])])) (fun _ kk => st82 _ (XS.iload X82.here hx rfl (hb hby at_320) rfl kk)) ?_
        have hfin : (own_enc [(x0.toUInt32.toUInt16.toUInt32.toInt32), (x1.toUInt32.toUInt16.toUInt32.toInt32), (x2.toUInt32.toUInt16.toUInt32.toInt32), (x3.toUInt32.toUInt16.toUInt32.toInt32)]) = (0 : Int32) := by rw [own_cc16 hb_x0, own_cc16 hb_x1, own_cc16 hb_x2, own_cc16 hb_x3]; exact (own_fin4 x0 x1 x2 x3).trans (by rw [if_neg hc78, if_pos hc81])
        refine GoW.st (S' := T82.setTop (mkF m 330 #[vi p0, vi p1, vi p2, vi p3, vi p4, vi 4, vi x0, vi x1, vi x2, vi x3, vr b63, vr b73, vi 0] [.int 1])) (fun _ kk => XS.icmpNo X82.here hx rfl (hb hby at_322) rfl (teq hfin).2 (XS.iconst X82.here hx rfl (hb hby at_325) (XS.goto X82.here hx rfl (pc0 := 326) (pc' := 330) rfl (hb hby at_326) (by decide) (by decide) kk))) ?_
        exact GoW.retN X82 hx hlk hS (own_hk e82 hk) (t := .boolean) Bd.returns (by simp) (hb hby at_330) (⟨rfl, N82⟩) (by decide) (by decide)
      · refine GoW.st (S' := T80.setTop (mkF m 261 #[vi p0, vi p1, vi p2, vi p3, vi p4, vi 4, vi x0, vi x1, vi x2, vi x3, vr b63, vr b73, vi 1] [.int 4, .int x3, .int x2, .int 1, .int x1])) (fun _ kk => XS.ifNo X80.here hx rfl (hb hby at_231) rfl ((if0 _ _).trans (feq hc81).1) (XS.iconst X80.here hx rfl (hb hby at_234) (XS.goto X80.here hx rfl (pc0 := 235) (pc' := 239) rfl (hb hby at_235) (by decide) (by decide) (XS.istore X80.here hx rfl (hb hby at_239) rfl (l' := #[vi p0, vi p1, vi p2, vi p3, vi p4, vi 4, vi x0, vi x1, vi x2, vi x3, vr b63, vr b73, vi 1]) rfl (XS.iload X80.here hx rfl (hb hby at_241) rfl (XS.iconst X80.here hx rfl (hb hby at_243) (XS.icmpNo X80.here hx rfl (hb hby at_244) rfl (flt (by decide : ¬ ((4 : Int32) < (3 : Int32)))).1 (XS.iload X80.here hx rfl (hb hby at_247) rfl (XS.ifNo X80.here hx rfl (hb hby at_249) rfl ((if0 _ _).trans (feq (by decide : ¬ ((1 : Int32) = (0 : Int32)))).1) (XS.iload X80.here hx rfl (hb hby at_252) rfl (XS.iconst X80.here hx rfl (hb hby at_254) (XS.iload X80.here hx rfl (hb hby at_255) rfl (XS.iload X80.here hx rfl (hb hby at_257) rfl (XS.iload X80.here hx rfl (hb hby at_259) rfl kk)))))))))))))) ?_
        refine GoW.st (S' := T80.setTop (mkF m 270 #[vi p0, vi p1, vi p2, vi p3, vi p4, vi 4, vi x0, vi x1, vi x2, vi x3, vr b63, vr b73, vi 1] [.int 1, .int x3, .int x2, .int 1, .int x1])) (fun _ kk => XS.iconst X80.here hx rfl (hb hby at_261) (XS.icmpNo X80.here hx rfl (hb hby at_262) rfl (tlt (by decide : (3 : Int32) < (4 : Int32))).2.2.2 (XS.iconst X80.here hx rfl (hb hby at_265) (XS.goto X80.here hx rfl (pc0 := 266) (pc' := 270) rfl (hb hby at_266) (by decide) (by decide) kk)))) ?_
        obtain ⟨_, _, ⟨T83, L83, k83, n83⟩, -, X83, ⟨Lc83, hQ83, l83, y83, z83⟩, st83⟩ := Jvm.LawKit.callS X80 hx (y := mN5) hown (mvT hZ (ow hw 52 rfl)) (mvT hZ (ow hw 53 rfl)) (mvT hZ (ow hw 3 rfl)) (mvT hZ (ow hw 54 rfl)) (by decide) (backOf (W := 0) (rmU l Z az hw [] x1 (1 : Int32) x2 x3 (1 : Int32)  T75.heap n0 Zs76 ) hZ (ow hw 54 rfl) (ow hw 3 rfl) (by decide) (by decide)) (g := (mkF m 270 #[vi p0, vi p1, vi p2, vi p3, vi p4, vi 4, vi x0, vi x1, vi x2, vi x3, vr b63, vr b73, vi 1] [.int 1, .int x3, .int x2, .int 1, .int x1])) rfl (by rw [hml]; rfl) (argsL := [.int x1, .int 1, .int x2, .int x3, .int 1]) (rest := []) (lenOf pd_10 rfl) rfl (oW rfl rfl) (hb hby at_270) (fun _ _ => ⟨rfl, e80, (by decide : 4 + 0 ≤ _), (by decide : 20 + 0 ≤ _)⟩)
        dsimp only [Pt.U, Pt.locs, Pt.cells, Pt.slots] at X83 l83 y83 z83 st83 hQ83
        subst l83 y83 z83
        obtain ⟨hv83, N83q, e83⟩ := hQ83
        subst hv83
        have N83 := Fr.app N80 N83q
        refine GoW.st (S' := T83.setTop (mkF m 273 #[vi p0, vi p1, vi p2, vi p3, vi p4, vi 4, vi x0, vi x1, vi x2, vi x3, vr b63, vr b73, vi 1] [.int (fU x1 (1 : Int32) x2 x3 (1 : Int32))])) st83 ?_
        by_cases hc84 : (fU x1 (1 : Int32) x2 x3 (1 : Int32)) = (0 : Int32)
        · refine GoW.st (S' := T83.setTop (mkF m 317 #[vi p0, vi p1, vi p2, vi p3, vi p4, vi 4, vi x0, vi x1, vi x2, vi x3, vr b63, vr b73, vi 0] [.ref b73])) (fun _ kk => XS.ifYes X83.here hx rfl (pc0 := 273) (pc' := 280) rfl (hb hby at_273) rfl ((if0 _ _).trans (teq hc84).1) (by decide) (by decide) (XS.iconst X83.here hx rfl (hb hby at_280) (XS.istore X83.here hx rfl (hb hby at_281) rfl (l' := #[vi p0, vi p1, vi p2, vi p3, vi p4, vi 4, vi x0, vi x1, vi x2, vi x3, vr b63, vr b73, vi 0]) rfl (XS.iload X83.here hx rfl (hb hby at_283) rfl (XS.iconst X83.here hx rfl (hb hby at_285) (XS.icmpNo X83.here hx rfl (hb hby at_286) rfl (flt (by decide : ¬ ((4 : Int32) < (4 : Int32)))).1 (XS.iload X83.here hx rfl (hb hby at_289) rfl (XS.ifYes X83.here hx rfl (pc0 := 291) (pc' := 312) rfl (hb hby at_291) rfl ((if0 _ _).trans (teq (by decide : (0 : Int32) = (0 : Int32))).1) (by decide) (by decide) (XS.iconst X83.here hx rfl (hb hby at_312) (XS.istore X83.here hx rfl (hb hby at_313) rfl (l' := #[vi p0, vi p1, vi p2, vi p3, vi p4, vi 4, vi x0, vi x1, vi x2, vi x3, vr b63, vr b73, vi 0]) rfl (XS.aload X83.here hx rfl (hb hby at_315) rfl rfl kk))))))))))) ?_
          obtain ⟨_, _, ⟨T85, L85, k85, n85⟩, -, X85, ⟨Lc85, hQ85, l85, y85, z85⟩, st85⟩ := Jvm.LawKit.callS X83 hx (y := mN0) hown (mvT hZ (ow hw 27 rfl)) (mvT hZ (ow hw 28 rfl)) (mvT hZ (ow hw 29 rfl)) (mvT hZ (ow hw 30 rfl)) (by decide) (backOf (W := 0) (rmEn l Z az hw [] b73 zc fm [(x0.toUInt32.toUInt16.toUInt32.toInt32), (x1.toUInt32.toUInt16.toUInt32.toInt32), (x2.toUInt32.toUInt16.toUInt32.toInt32), (x3.toUInt32.toUInt16.toUInt32.toInt32)] (4 : Int32) T75.heap n0 Zs76 S_C hzc S_F hfm S_A S_H S_L CS75 Ec75 rfl) hZ (ow hw 30 rfl) (ow hw 29 rfl) (by decide) (by decide)) (g := (mkF m 317 #[vi p0, vi p1, vi p2, vi p3, vi p4, vi 4, vi x0, vi x1, vi x2, vi x3, vr b63, vr b73, vi 0] [.ref b73])) rfl (by rw [hml]; rfl) (argsL := [.ref b73]) (rest := []) (lenOf pd_4 rfl) rfl (oW rfl rfl) (hb hby at_317) (fun _ _ => ⟨rfl, e83, (by decide : 4 + 0 ≤ _), (by decide : 20 + 0 ≤ _)⟩)
          dsimp only [Pt.U, Pt.locs, Pt.cells, Pt.slots] at X85 l85 y85 z85 st85 hQ85
          subst l85 y85 z85
          obtain ⟨hv85, N85q, e85⟩ := hQ85
          subst hv85
          have N85 := Fr.app N83 N85q
          refine GoW.st (S' := T85.setTop (mkF m 322 #[vi p0, vi p1, vi p2, vi p3, vi p4, vi 4, vi x0, vi x1, vi x2, vi x3, vr b63, vr b73, vi 0] [.int 0, .int (own_enc [(x0.toUInt32.toUInt16.toUInt32.toInt32), (x1.toUInt32.toUInt16.toUInt32.toInt32), (x2.toUInt32.toUInt16.toUInt32.toInt32), (x3.toUInt32.toUInt16.toUInt32.toInt32)])])) (fun _ kk => st85 _ (XS.iload X85.here hx rfl (hb hby at_320) rfl kk)) ?_
          have hfin : (own_enc [(x0.toUInt32.toUInt16.toUInt32.toInt32), (x1.toUInt32.toUInt16.toUInt32.toInt32), (x2.toUInt32.toUInt16.toUInt32.toInt32), (x3.toUInt32.toUInt16.toUInt32.toInt32)]) = (0 : Int32) := by rw [own_cc16 hb_x0, own_cc16 hb_x1, own_cc16 hb_x2, own_cc16 hb_x3]; exact (own_fin4 x0 x1 x2 x3).trans (by rw [if_neg hc78, if_neg hc81, if_pos hc84])
          refine GoW.st (S' := T85.setTop (mkF m 330 #[vi p0, vi p1, vi p2, vi p3, vi p4, vi 4, vi x0, vi x1, vi x2, vi x3, vr b63, vr b73, vi 0] [.int 1])) (fun _ kk => XS.icmpNo X85.here hx rfl (hb hby at_322) rfl (teq hfin).2 (XS.iconst X85.here hx rfl (hb hby at_325) (XS.goto X85.here hx rfl (pc0 := 326) (pc' := 330) rfl (hb hby at_326) (by decide) (by decide) kk))) ?_
          exact GoW.retN X85 hx hlk hS (own_hk e85 hk) (t := .boolean) Bd.returns (by simp) (hb hby at_330) (⟨rfl, N85⟩) (by decide) (by decide)
        · refine GoW.st (S' := T83.setTop (mkF m 302 #[vi p0, vi p1, vi p2, vi p3, vi p4, vi 4, vi x0, vi x1, vi x2, vi x3, vr b63, vr b73, vi 1] [.int 0, .int x3, .int x3, .int 1, .int x2])) (fun _ kk => XS.ifNo X83.here hx rfl (hb hby at_273) rfl ((if0 _ _).trans (feq hc84).1) (XS.iconst X83.here hx rfl (hb hby at_276) (XS.goto X83.here hx rfl (pc0 := 277) (pc' := 281) rfl (hb hby at_277) (by decide) (by decide) (XS.istore X83.here hx rfl (hb hby at_281) rfl (l' := #[vi p0, vi p1, vi p2, vi p3, vi p4, vi 4, vi x0, vi x1, vi x2, vi x3, vr b63, vr b73, vi 1]) rfl (XS.iload X83.here hx rfl (hb hby at_283) rfl (XS.iconst X83.here hx rfl (hb hby at_285) (XS.icmpNo X83.here hx rfl (hb hby at_286) rfl (flt (by decide : ¬ ((4 : Int32) < (4 : Int32)))).1 (XS.iload X83.here hx rfl (hb hby at_289) rfl (XS.ifNo X83.here hx rfl (hb hby at_291) rfl ((if0 _ _).trans (feq (by decide : ¬ ((1 : Int32) = (0 : Int32)))).1) (XS.iload X83.here hx rfl (hb hby at_294) rfl (XS.iconst X83.here hx rfl (hb hby at_296) (XS.iload X83.here hx rfl (hb hby at_297) rfl (XS.iload X83.here hx rfl (hb hby at_299) rfl (XS.iconst X83.here hx rfl (hb hby at_301) kk)))))))))))))) ?_
          obtain ⟨_, _, ⟨T86, L86, k86, n86⟩, -, X86, ⟨Lc86, hQ86, l86, y86, z86⟩, st86⟩ := Jvm.LawKit.callS X83 hx (y := mN5) hown (mvT hZ (ow hw 52 rfl)) (mvT hZ (ow hw 53 rfl)) (mvT hZ (ow hw 3 rfl)) (mvT hZ (ow hw 54 rfl)) (by decide) (backOf (W := 0) (rmU l Z az hw [] x2 (1 : Int32) x3 x3 (0 : Int32)  T75.heap n0 Zs76 ) hZ (ow hw 54 rfl) (ow hw 3 rfl) (by decide) (by decide)) (g := (mkF m 302 #[vi p0, vi p1, vi p2, vi p3, vi p4, vi 4, vi x0, vi x1, vi x2, vi x3, vr b63, vr b73, vi 1] [.int 0, .int x3, .int x3, .int 1, .int x2])) rfl (by rw [hml]; rfl) (argsL := [.int x2, .int 1, .int x3, .int x3, .int 0]) (rest := []) (lenOf pd_10 rfl) rfl (oW rfl rfl) (hb hby at_302) (fun _ _ => ⟨rfl, e83, (by decide : 4 + 0 ≤ _), (by decide : 20 + 0 ≤ _)⟩)
          dsimp only [Pt.U, Pt.locs, Pt.cells, Pt.slots] at X86 l86 y86 z86 st86 hQ86
          subst l86 y86 z86
          obtain ⟨hv86, N86q, e86⟩ := hQ86
          subst hv86
          have N86 := Fr.app N83 N86q
          refine GoW.st (S' := T86.setTop (mkF m 305 #[vi p0, vi p1, vi p2, vi p3, vi p4, vi 4, vi x0, vi x1, vi x2, vi x3, vr b63, vr b73, vi 1] [.int (fU x2 (1 : Int32) x3 x3 (0 : Int32))])) st86 ?_
          by_cases hc87 : (fU x2 (1 : Int32) x3 x3 (0 : Int32)) = (0 : Int32)
          · refine GoW.st (S' := T86.setTop (mkF m 317 #[vi p0, vi p1, vi p2, vi p3, vi p4, vi 4, vi x0, vi x1, vi x2, vi x3, vr b63, vr b73, vi 0] [.ref b73])) (fun _ kk => XS.ifYes X86.here hx rfl (pc0 := 305) (pc' := 312) rfl (hb hby at_305) rfl ((if0 _ _).trans (teq hc87).1) (by decide) (by decide) (XS.iconst X86.here hx rfl (hb hby at_312) (XS.istore X86.here hx rfl (hb hby at_313) rfl (l' := #[vi p0, vi p1, vi p2, vi p3, vi p4, vi 4, vi x0, vi x1, vi x2, vi x3, vr b63, vr b73, vi 0]) rfl (XS.aload X86.here hx rfl (hb hby at_315) rfl rfl kk)))) ?_
            obtain ⟨_, _, ⟨T88, L88, k88, n88⟩, -, X88, ⟨Lc88, hQ88, l88, y88, z88⟩, st88⟩ := Jvm.LawKit.callS X86 hx (y := mN0) hown (mvT hZ (ow hw 27 rfl)) (mvT hZ (ow hw 28 rfl)) (mvT hZ (ow hw 29 rfl)) (mvT hZ (ow hw 30 rfl)) (by decide) (backOf (W := 0) (rmEn l Z az hw [] b73 zc fm [(x0.toUInt32.toUInt16.toUInt32.toInt32), (x1.toUInt32.toUInt16.toUInt32.toInt32), (x2.toUInt32.toUInt16.toUInt32.toInt32), (x3.toUInt32.toUInt16.toUInt32.toInt32)] (4 : Int32) T75.heap n0 Zs76 S_C hzc S_F hfm S_A S_H S_L CS75 Ec75 rfl) hZ (ow hw 30 rfl) (ow hw 29 rfl) (by decide) (by decide)) (g := (mkF m 317 #[vi p0, vi p1, vi p2, vi p3, vi p4, vi 4, vi x0, vi x1, vi x2, vi x3, vr b63, vr b73, vi 0] [.ref b73])) rfl (by rw [hml]; rfl) (argsL := [.ref b73]) (rest := []) (lenOf pd_4 rfl) rfl (oW rfl rfl) (hb hby at_317) (fun _ _ => ⟨rfl, e86, (by decide : 4 + 0 ≤ _), (by decide : 20 + 0 ≤ _)⟩)
            dsimp only [Pt.U, Pt.locs, Pt.cells, Pt.slots] at X88 l88 y88 z88 st88 hQ88
            subst l88 y88 z88
            obtain ⟨hv88, N88q, e88⟩ := hQ88
            subst hv88
            have N88 := Fr.app N86 N88q
            refine GoW.st (S' := T88.setTop (mkF m 322 #[vi p0, vi p1, vi p2, vi p3, vi p4, vi 4, vi x0, vi x1, vi x2, vi x3, vr b63, vr b73, vi 0] [.int 0, .int (own_enc [(x0.toUInt32.toUInt16.toUInt32.toInt32), (x1.toUInt32.toUInt16.toUInt32.toInt32), (x2.toUInt32.toUInt16.toUInt32.toInt32), (x3.toUInt32.toUInt16.toUInt32.toInt32)])])) (fun _ kk => st88 _ (XS.iload X88.here hx rfl (hb hby at_320) rfl kk)) ?_
            have hfin : (own_enc [(x0.toUInt32.toUInt16.toUInt32.toInt32), (x1.toUInt32.toUInt16.toUInt32.toInt32), (x2.toUInt32.toUInt16.toUInt32.toInt32), (x3.toUInt32.toUInt16.toUInt32.toInt32)]) = (0 : Int32) := by rw [own_cc16 hb_x0, own_cc16 hb_x1, own_cc16 hb_x2, own_cc16 hb_x3]; exact (own_fin4 x0 x1 x2 x3).trans (by rw [if_neg hc78, if_neg hc81, if_neg hc84, if_pos hc87])
            refine GoW.st (S' := T88.setTop (mkF m 330 #[vi p0, vi p1, vi p2, vi p3, vi p4, vi 4, vi x0, vi x1, vi x2, vi x3, vr b63, vr b73, vi 0] [.int 1])) (fun _ kk => XS.icmpNo X88.here hx rfl (hb hby at_322) rfl (teq hfin).2 (XS.iconst X88.here hx rfl (hb hby at_325) (XS.goto X88.here hx rfl (pc0 := 326) (pc' := 330) rfl (hb hby at_326) (by decide) (by decide) kk))) ?_
            exact GoW.retN X88 hx hlk hS (own_hk e88 hk) (t := .boolean) Bd.returns (by simp) (hb hby at_330) (⟨rfl, N88⟩) (by decide) (by decide)
          · refine GoW.st (S' := T86.setTop (mkF m 317 #[vi p0, vi p1, vi p2, vi p3, vi p4, vi 4, vi x0, vi x1, vi x2, vi x3, vr b63, vr b73, vi 1] [.ref b73])) (fun _ kk => XS.ifNo X86.here hx rfl (hb hby at_305) rfl ((if0 _ _).trans (feq hc87).1) (XS.iconst X86.here hx rfl (hb hby at_308) (XS.goto X86.here hx rfl (pc0 := 309) (pc' := 313) rfl (hb hby at_309) (by decide) (by decide) (XS.istore X86.here hx rfl (hb hby at_313) rfl (l' := #[vi p0, vi p1, vi p2, vi p3, vi p4, vi 4, vi x0, vi x1, vi x2, vi x3, vr b63, vr b73, vi 1]) rfl (XS.aload X86.here hx rfl (hb hby at_315) rfl rfl kk))))) ?_
            obtain ⟨_, _, ⟨T89, L89, k89, n89⟩, -, X89, ⟨Lc89, hQ89, l89, y89, z89⟩, st89⟩ := Jvm.LawKit.callS X86 hx (y := mN0) hown (mvT hZ (ow hw 27 rfl)) (mvT hZ (ow hw 28 rfl)) (mvT hZ (ow hw 29 rfl)) (mvT hZ (ow hw 30 rfl)) (by decide) (backOf (W := 0) (rmEn l Z az hw [] b73 zc fm [(x0.toUInt32.toUInt16.toUInt32.toInt32), (x1.toUInt32.toUInt16.toUInt32.toInt32), (x2.toUInt32.toUInt16.toUInt32.toInt32), (x3.toUInt32.toUInt16.toUInt32.toInt32)] (4 : Int32) T75.heap n0 Zs76 S_C hzc S_F hfm S_A S_H S_L CS75 Ec75 rfl) hZ (ow hw 30 rfl) (ow hw 29 rfl) (by decide) (by decide)) (g := (mkF m 317 #[vi p0, vi p1, vi p2, vi p3, vi p4, vi 4, vi x0, vi x1, vi x2, vi x3, vr b63, vr b73, vi 1] [.ref b73])) rfl (by rw [hml]; rfl) (argsL := [.ref b73]) (rest := []) (lenOf pd_4 rfl) rfl (oW rfl rfl) (hb hby at_317) (fun _ _ => ⟨rfl, e86, (by decide : 4 + 0 ≤ _), (by decide : 20 + 0 ≤ _)⟩)
            dsimp only [Pt.U, Pt.locs, Pt.cells, Pt.slots] at X89 l89 y89 z89 st89 hQ89
            subst l89 y89 z89
            obtain ⟨hv89, N89q, e89⟩ := hQ89
            subst hv89
            have N89 := Fr.app N86 N89q
            refine GoW.st (S' := T89.setTop (mkF m 322 #[vi p0, vi p1, vi p2, vi p3, vi p4, vi 4, vi x0, vi x1, vi x2, vi x3, vr b63, vr b73, vi 1] [.int 1, .int (own_enc [(x0.toUInt32.toUInt16.toUInt32.toInt32), (x1.toUInt32.toUInt16.toUInt32.toInt32), (x2.toUInt32.toUInt16.toUInt32.toInt32), (x3.toUInt32.toUInt16.toUInt32.toInt32)])])) (fun _ kk => st89 _ (XS.iload X89.here hx rfl (hb hby at_320) rfl kk)) ?_
            have hfin : (own_enc [(x0.toUInt32.toUInt16.toUInt32.toInt32), (x1.toUInt32.toUInt16.toUInt32.toInt32), (x2.toUInt32.toUInt16.toUInt32.toInt32), (x3.toUInt32.toUInt16.toUInt32.toInt32)]) = (1 : Int32) := by rw [own_cc16 hb_x0, own_cc16 hb_x1, own_cc16 hb_x2, own_cc16 hb_x3]; exact (own_fin4 x0 x1 x2 x3).trans (by rw [if_neg hc78, if_neg hc81, if_neg hc84, if_neg hc87])
            refine GoW.st (S' := T89.setTop (mkF m 330 #[vi p0, vi p1, vi p2, vi p3, vi p4, vi 4, vi x0, vi x1, vi x2, vi x3, vr b63, vr b73, vi 1] [.int 1])) (fun _ kk => XS.icmpNo X89.here hx rfl (hb hby at_322) rfl (teq hfin).2 (XS.iconst X89.here hx rfl (hb hby at_325) (XS.goto X89.here hx rfl (pc0 := 326) (pc' := 330) rfl (hb hby at_326) (by decide) (by decide) kk))) ?_
            exact GoW.retN X89 hx hlk hS (own_hk e89 hk) (t := .boolean) Bd.returns (by simp) (hb hby at_330) (⟨rfl, N89⟩) (by decide) (by decide)
theorem own_fld {args : Array Value} {s : State} {t : Term} {a : Addr} {C n d : String} {k : Int32} (ev : t.eval args s none [] s = some (.ref a)) (h : (Cond.eq (.field t C n d) (.int k)).value args s none s [] = some true) : Fld s s.heap a C n d (.int k) := by
  obtain ⟨x, y, e1, e2, k1, k2⟩ := cmp_v (Or.inl h)
  cases Option.some.inj ((Term.int_eval k).symm.trans e2)
  obtain ⟨z, rfl⟩ := k2
  have q : (Cond.eq (.field t C n d) (.int k)).value args s none s [] = some (decide (z = k)) := by simp [Cond.value, e1, e2]
  cases gotT q h
  exact Fld.start ((fld_at ev).symm.trans e1)
theorem own_not {args : Array Value} {s : State} {t : Term} {z : Int32} (ev : t.eval args s none [] s = some (.int z)) (h : (Cond.not (.eq t (.int 0))).value args s none s [] = some true) : ¬ z = 0 := fun q => by
  subst q
  have e : (Cond.eq t (.int 0)).value args s none s [] = some true := eq_i ev (Term.int_eval 0) rfl
  simp [Cond.value] at h e
  rw [e] at h
  simp at h
theorem own_evi {args : Array Value} {s : State} {t : Term} {k : Int32} (h : (Cond.eq t (.int k)).value args s none s [] = some true) : t.eval args s none [] s = some (.int k) := by
  obtain ⟨x, y, e1, e2, k1, k2⟩ := cmp_v (Or.inl h)
  cases Option.some.inj ((Term.int_eval k).symm.trans e2)
  obtain ⟨z, rfl⟩ := k2
  have q : (Cond.eq t (.int k)).value args s none s [] = some (decide (z = k)) := by simp [Cond.value, e1, e2]
  cases gotT q h
  exact e1
theorem comes_1 {Post : Tables → Env → Array Value → State → Outcome → State → Prop} (hpost : ∀ tb e args s v u, (limb_1_1.after args s (.returned v) u = true ∧ limb_1_2.after args s (.returned v) u = true ∧ True) → Jvm.D.FramedW s (.returned v) u (Jvm.fieldLocs frame_1_writes args s ++ Jvm.arrayLocs frame_1_arrays args s ++ Jvm.staticLocs frame_1_statics s) 24 1152 → Post tb e args s (.returned v) u) :
    ArmFor flags0 classFile x code maxLocals ret World_1 tables_1 room_1 Calls_1 rest_1 Pre_1 Post := by
  intro l hfl _ _ p e ha hc hk s m args below hf hA hF happ hP
  obtain ⟨hcalls, hrest, hpre⟩ := hP
  obtain ⟨-, -, -, hnamed, -, -, -, hat⟩ := (Spec.applies_iff hf).mp happ
  obtain ⟨hg, hn⟩ := and_e (Cond.before_iff.mp (show (Jvm.Cond.and given_1 narrow_1).before args s = true from hpre))
  obtain ⟨g0, gr0⟩ := and_e hg
  obtain ⟨ga0, gr1⟩ := and_e gr0
  obtain ⟨ga1, gr2⟩ := and_e gr1
  obtain ⟨ga2, gr3⟩ := and_e gr2
  obtain ⟨ga3, gr4⟩ := and_e gr3
  have ga4 := gr4
  obtain ⟨w0, w1, w2, w3, w4, rfl⟩ : ∃ w0 w1 w2 w3 w4 : Value, args = #[w0, w1, w2, w3, w4] := by
    have hs : args.size = 5 := by simpa [Cond.value, given_1] using g0
    obtain ⟨L⟩ := args
    match L, hs with
    | [w0, w1, w2, w3, w4], _ => exact ⟨w0, w1, w2, w3, w4, rfl⟩
  have hw := fun d (hd : d ∈ tables_1) => atoms_spec (ws := Jvm.Cond.code x code maxLocals ret :: tables_1) hat d (List.mem_cons_of_mem _ hd)
  have hfit : Fit s := fun {y c} hc i hi => by
    obtain ⟨ha, rfl⟩ := Array.getElem?_eq_some_iff.mp hc
    have q := List.all_eq_true.mp ((Array.all_eq_true_iff_forall_mem.mp hF) _ (Array.getElem_mem ha)) i (List.mem_range.mpr hi)
    simpa [Array.getElem?_eq_getElem hi] using q
  obtain ⟨i0, ei0⟩ := is_v ga0
  obtain rfl : w0 = (.int i0) := Option.some.inj ei0
  obtain ⟨i1, ei1⟩ := is_v ga1
  obtain rfl : w1 = (.int i1) := Option.some.inj ei1
  obtain ⟨i2, ei2⟩ := is_v ga2
  obtain rfl : w2 = (.int i2) := Option.some.inj ei2
  obtain ⟨i3, ei3⟩ := is_v ga3
  obtain rfl : w3 = (.int i3) := Option.some.inj ei3
  obtain ⟨i4, ei4⟩ := is_v ga4
  obtain rfl : w4 = (.int i4) := Option.some.inj ei4
  have hsets := (atoms_of jdkStatics_1 (show (jdkStatics_1.foldr Jvm.Cond.and restOwn_1).before _ s = true from by rw [← rest_1_c_eq]; exact hrest)).1
  obtain ⟨zc, ezc⟩ := is_v (Cond.before_iff.mp (hsets _ (List.mem_of_getElem? (i := 1) rfl)))
  have S_C : Sta s s.heap "java/lang/String" "COMPACT_STRINGS" "Z" (.int zc) := Sta.start ezc (Or.inl (hsets _ (List.mem_of_getElem? (i := 0) rfl)))
  have hcw := (hsets _ (List.mem_of_getElem? (i := 2) rfl))
  have hzc : ¬ zc = 0 := own_not ezc (Cond.before_iff.mp hcw)
  obtain ⟨hC, -⟩ := hcalls
  have Hc : CHv s consts_1 s.vm s.heap := CHv.start (own_EW hw) hC hcw (ow hw 20 rfl) (ow hw 7 rfl)
  obtain ⟨fm, efm, hfm⟩ := isR_v (Cond.before_iff.mp (hsets _ (List.mem_of_getElem? (i := 8) rfl)))
  have S_F := Sta.start efm (Or.inl (hsets _ (List.mem_of_getElem? (i := 7) rfl)))
  have S_A := Sta.start (own_evi (Cond.before_iff.mp (hsets _ (List.mem_of_getElem? (i := 12) rfl)))) (Or.inl (hsets _ (List.mem_of_getElem? (i := 11) rfl)))
  have S_H := Sta.start (own_evi (Cond.before_iff.mp (hsets _ (List.mem_of_getElem? (i := 15) rfl)))) (Or.inl (hsets _ (List.mem_of_getElem? (i := 14) rfl)))
  have S_L := Sta.start (own_evi (Cond.before_iff.mp (hsets _ (List.mem_of_getElem? (i := 18) rfl)))) (Or.inl (hsets _ (List.mem_of_getElem? (i := 17) rfl)))
  obtain ⟨n, o, h1, h2, h3, _, L, rfl, ⟨rfl, N⟩, hq⟩ := rm0 l s _ hw tables_1 i0 i1 i2 i3 i4 zc fm s.heap s.heap.size (Nat.le_refl _) S_C hzc S_F hfm S_A S_H S_L p e ha hc hk s m _ below hf ((Spec.applies_iff_loose hf).mp happ).1 ⟨rfl, State.Warmed39.refl s, rfl, Hc⟩ trivial
  refine ⟨n, _, h1, h2, h3, hpost _ _ _ _ _ _ ⟨Cond.after_iff.mpr rfl, Cond.after_iff.mpr (eq_i res_at (Term.int_eval (1)) rfl), trivial⟩ ⟨hq.1, hq.2.1, hq.2.2.1, (hq.2.2.2.sift fun y hy => Or.inr (N y hy)).mono (by decide) (by decide)⟩⟩
theorem main_1_1 : Claimed_1_1 := comes_1 fun _ _ _ _ _ _ h hF => ⟨h.1, hF⟩
theorem main_1_2 : Claimed_1_2 := comes_1 fun _ _ _ _ _ _ h hF => ⟨h.2.1, hF⟩
end Jvm.Pilot.@@N@@
namespace Jvm.Pilot.@@N@@
open Jvm Jvm.ClassFile Sem Op Lib Jvm.Free Jvm.Stand Jvm.Pilot.@@N@@.Jvm.D
/-! MADE BY PROGRAM (witnessworld.py) out of the Statement's table words and the real class files: 21 classes; the members and pool entries that the words name. The judged class is class 1, her method 5. -/
namespace start1
open Jvm.ClassFile
def u (s : String) : CpInfo := .utf8 (stringToUtf16 s)
/-- a pool by its gaps: so many unusable entries, then the entry; so many at the end -/
def gap : Nat → List CpInfo → List CpInfo
  | 0, r => r
  | n + 1, r => .unusable :: gap n r
def poolList (es : List (Nat × CpInfo)) (last : Nat) : List CpInfo := es.foldr (fun e r => gap e.1 (e.2 :: r)) (gap last [])
def pool (es : List (Nat × CpInfo)) (last : Nat) : Array CpInfo := ⟨poolList es last⟩
def fileOf (pool : Array CpInfo) (this : Nat) (attrs : Array Attribute := #[]) (ms : Array MethodInfo := #[]) (fl : Nat := 33) (sup : Nat := 0) (ifs : Array Nat := #[]) (fds : Array FieldInfo := #[]) : ClassFile where
  minorVersion := 0
  majorVersion := 65
  constantPool := pool
  accessFlags := fl
  thisClass := this
  superClass := sup
  interfaces := ifs
  fields := fds
  methods := ms
  attributes := attrs
def plain (name : String) (sup : Option ClassId) : Class where
  name := name
  kind := .ordinary
  loader := none
  accessFlags := 33
  super := sup
  interfaces := #[]
  cf := none
  fields := #[]
  methods := #[]
  instanceTypes := #[]
  staticTypes := #[]
  resolved := #[]
  callSites := []
  init := .initialized
  statics := none
  mirror := none

def pool0 : Array CpInfo := pool [(5, u "<init>"), (0, u "()V"), (1, .class_ 10), (1, u "java/lang/Object")] 113

def k0c0 : Code := { maxStack := 0, maxLocals := 1, code := object_method_1_code, exceptionTable := #[], attributes := #[] }
def k0m0 : Method := { name := "<init>", desc := "()V", sig := { parameters := [], returnType := none }, accessFlags := 1, code := some k0c0 }
/-- java/lang/Object -/
def k0 : Class := { plain "java/lang/Object" none with
  accessFlags := 33
  interfaces := #[]
  cf := some (fileOf pool0 8 #[] #[{ accessFlags := 1, nameIndex := 5, descriptorIndex := 6, attributes := #[] }] 33 0 #[] #[])
  fields := #[]
  methods := #[k0m0]
  instanceTypes := #[]
  staticTypes := #[]
  resolved := Array.replicate 124 none
  statics := none }

def pool1 : Array CpInfo := pool [(2, .class_ 4), (1, u "java/lang/Object"), (0, u "<init>"), (0, u "()V"), (0, .integer 55296), (0, .integer 56319), (0, .integer 56320), (0, .integer 57343), (0, .methodref 12 13), (0, .class_ 14), (0, .nameAndType 15 16), (0, u "com/example/winj/winj/storage/Utf8EncodesPinLaw"), (0, u "hi"), (0, u "(C)Z"), (0, .methodref 12 18), (0, .nameAndType 19 16), (0, u "lo"), (0, .integer 2147483647), (0, .methodref 12 22), (0, .nameAndType 23 24), (0, u "draw"), (0, u "(I)C"), (0, .class_ 26), (0, u "java/lang/String"), (0, .methodref 25 28), (0, .nameAndType 5 29), (0, u "([C)V"), (0, .methodref 12 31), (0, .nameAndType 32 33), (0, u "unitOk"), (0, u "(CZCCZ)Z"), (0, .methodref 35 36), (0, .class_ 37), (0, .nameAndType 38 39), (0, u "com/example/winj/winj/storage/Utf8"), (0, u "encodes"), (0, u "(Ljava/lang/String;)Z"), (3, u "law"), (0, u "(IIIII)Z")] 4

def k1m0 : Method := { name := "<init>", desc := "()V", sig := { parameters := [], returnType := none }, accessFlags := 2, code := none }
def k1c1 : Code := { maxStack := 3, maxLocals := 1, code := method_2_code, exceptionTable := #[], attributes := #[] }
def k1m1 : Method := { name := "draw", desc := "(I)C", sig := { parameters := [.int], returnType := some .char }, accessFlags := 10, code := some k1c1 }
def k1c2 : Code := { maxStack := 2, maxLocals := 1, code := method_3_code, exceptionTable := #[], attributes := #[] }
def k1m2 : Method := { name := "hi", desc := "(C)Z", sig := { parameters := [.char], returnType := some .boolean }, accessFlags := 10, code := some k1c2 }
def k1c3 : Code := { maxStack := 2, maxLocals := 1, code := method_4_code, exceptionTable := #[], attributes := #[] }
def k1m3 : Method := { name := "lo", desc := "(C)Z", sig := { parameters := [.char], returnType := some .boolean }, accessFlags := 10, code := some k1c3 }
def k1c4 : Code := { maxStack := 1, maxLocals := 5, code := method_5_code, exceptionTable := #[], attributes := #[] }
def k1m4 : Method := { name := "unitOk", desc := "(CZCCZ)Z", sig := { parameters := [.char, .boolean, .char, .char, .boolean], returnType := some .boolean }, accessFlags := 10, code := some k1c4 }
def k1c5 : Code := { maxStack := 6, maxLocals := 13, code := code, exceptionTable := #[], attributes := #[] }
def k1m5 : Method := { name := "law", desc := "(IIIII)Z", sig := { parameters := [.int, .int, .int, .int, .int], returnType := some .boolean }, accessFlags := 9, code := some k1c5 }
/-- com/example/winj/winj/storage/Utf8EncodesPinLaw -/
def k1 : Class := { plain "com/example/winj/winj/storage/Utf8EncodesPinLaw" (some 0) with
  accessFlags := 49
  interfaces := #[]
  cf := some (fileOf pool1 12 #[] #[{ accessFlags := 2, nameIndex := 5, descriptorIndex := 6, attributes := #[] }, { accessFlags := 10, nameIndex := 23, descriptorIndex := 24, attributes := #[] }, { accessFlags := 10, nameIndex := 15, descriptorIndex := 16, attributes := #[] }, { accessFlags := 10, nameIndex := 19, descriptorIndex := 16, attributes := #[] }, { accessFlags := 10, nameIndex := 32, descriptorIndex := 33, attributes := #[] }, { accessFlags := 9, nameIndex := 43, descriptorIndex := 44, attributes := #[] }] 49 2 #[] #[])
  fields := #[]
  methods := #[k1m0, k1m1, k1m2, k1m3, k1m4, k1m5]
  instanceTypes := #[]
  staticTypes := #[]
  resolved := Array.replicate 49 none
  statics := none }

def pool2 : Array CpInfo := pool [(1, .class_ 2), (0, u "java/io/Serializable"), (0, .class_ 4), (0, u "java/lang/Object")] 2

/-- java/io/Serializable -/
def k2 : Class := { plain "java/io/Serializable" (some 0) with
  accessFlags := 1537
  interfaces := #[]
  cf := some (fileOf pool2 1 #[] #[] 1537 3 #[] #[])
  fields := #[]
  methods := #[]
  instanceTypes := #[]
  staticTypes := #[]
  resolved := Array.replicate 7 none
  statics := none }

def pool3 : Array CpInfo := pool [(1, .class_ 2), (0, u "java/lang/Comparable"), (0, .class_ 4), (0, u "java/lang/Object")] 7

/-- java/lang/Comparable -/
def k3 : Class := { plain "java/lang/Comparable" (some 0) with
  accessFlags := 1537
  interfaces := #[]
  cf := some (fileOf pool3 1 #[] #[] 1537 3 #[] #[])
  fields := #[]
  methods := #[]
  instanceTypes := #[]
  staticTypes := #[]
  resolved := Array.replicate 12 none
  statics := none }

def pool4 : Array CpInfo := pool [(2, .class_ 4), (1, u "java/lang/CharSequence"), (42, .class_ 48), (0, u "java/lang/CharSequence$1CodePointIterator"), (10, .class_ 60), (0, u "java/lang/CharSequence$1CharIterator"), (5, .class_ 67), (0, u "java/lang/Object")] 63

/-- java/lang/CharSequence -/
def k4 : Class := { plain "java/lang/CharSequence" (some 0) with
  accessFlags := 1537
  interfaces := #[]
  cf := some (fileOf pool4 2 #[.nestMembers #[47, 59]] #[] 1537 66 #[] #[])
  fields := #[]
  methods := #[]
  instanceTypes := #[]
  staticTypes := #[]
  resolved := Array.replicate 131 none
  statics := none }

def pool5 : Array CpInfo := pool [(1, .class_ 2), (0, u "java/lang/constant/Constable"), (0, .class_ 4), (0, u "java/lang/Object")] 6

/-- java/lang/constant/Constable -/
def k5 : Class := { plain "java/lang/constant/Constable" (some 0) with
  accessFlags := 1537
  interfaces := #[]
  cf := some (fileOf pool5 1 #[] #[] 1537 3 #[] #[])
  fields := #[]
  methods := #[]
  instanceTypes := #[]
  staticTypes := #[]
  resolved := Array.replicate 11 none
  statics := none }

def pool6 : Array CpInfo := pool [(1, .class_ 2), (0, u "java/lang/constant/ConstantDesc"), (0, .class_ 4), (0, u "java/lang/Object")] 32

/-- java/lang/constant/ConstantDesc -/
def k6 : Class := { plain "java/lang/constant/ConstantDesc" (some 0) with
  accessFlags := 1537
  interfaces := #[]
  cf := some (fileOf pool6 1 #[] #[] 1537 3 #[] #[])
  fields := #[]
  methods := #[]
  instanceTypes := #[]
  staticTypes := #[]
  resolved := Array.replicate 37 none
  statics := none }

def pool7 : Array CpInfo := pool [(1, .methodref 2 3), (0, .class_ 4), (0, .nameAndType 5 6), (0, u "java/lang/Object"), (0, u "<init>"), (0, u "()V"), (0, .string 8), (0, u ""), (0, .fieldref 10 11), (0, .class_ 12), (0, .nameAndType 13 14), (0, u "java/lang/String"), (0, u "value"), (0, u "[B"), (0, .fieldref 10 16), (0, .nameAndType 17 18), (0, u "coder"), (0, u "B"), (2, u "hash"), (0, u "I"), (2, u "hashIsZero"), (0, u "Z"), (0, .methodref 10 28), (0, .nameAndType 5 29), (0, u "([CIILjava/lang/Void;)V"), (8, .fieldref 10 39), (0, .nameAndType 40 26), (0, u "COMPACT_STRINGS"), (1, .class_ 44), (1, u "java/lang/StringUTF16"), (0, u "compress"), (1, .methodref 42 48), (0, .nameAndType 49 50), (0, u "coderFromArrayLen"), (0, u "([BI)B"), (56, .class_ 109), (1, u "java/lang/StringLatin1"), (32, u "()Z"), (34, .methodref 42 178), (0, .nameAndType 45 179), (0, u "([CII)[B"), (154, u "()I"), (0, .methodref 10 336), (0, .nameAndType 17 337), (0, u "()B"), (25, u "([BI)C"), (27, u "(II)V"), (35, u "(I)C"), (64, .methodref 10 493), (0, .nameAndType 494 142), (0, u "isLatin1"), (0, .methodref 107 496), (0, .nameAndType 497 363), (0, u "charAt"), (0, .methodref 42 496), (2, u "checkIndex"), (5, u "length"), (67, .class_ 576), (0, u "java/lang/CharSequence"), (22, u "CASE_INSENSITIVE_ORDER"), (0, u "Ljava/util/Comparator;"), (409, u "([C)V"), (42, .fieldref 1054 1055), (0, .class_ 1056), (0, .nameAndType 1057 1058), (0, u "jdk/internal/util/Preconditions"), (0, u "SIOOBE_FORMATTER"), (0, u "Ljava/util/function/BiFunction;"), (0, .methodref 1054 1060), (0, .nameAndType 501 1061), (0, u "(IILjava/util/function/BiFunction;)I"), (39, u "serialPersistentFields"), (0, u "[Ljava/io/ObjectStreamField;"), (0, .class_ 1104), (0, u "java/lang/String$CaseInsensitiveComparator"), (1, .class_ 1107), (0, u "java/io/Serializable"), (0, .class_ 1109), (0, u "java/lang/Comparable"), (0, .class_ 1111), (0, u "java/lang/constant/Constable"), (0, .class_ 1113), (0, u "java/lang/constant/ConstantDesc"), (2, u "serialVersionUID"), (0, u "J"), (3, u "REPL"), (0, u "C"), (2, u "LATIN1"), (1, u "UTF16")] 323

def k7m0 : Method := { name := "<init>", desc := "()V", sig := { parameters := [], returnType := none }, accessFlags := 1, code := none }
def k7c1 : Code := { maxStack := 5, maxLocals := 2, code := jdk_42_method_3_code, exceptionTable := #[], attributes := #[] }
def k7m1 : Method := { name := "<init>", desc := "([C)V", sig := { parameters := [(.array .char)], returnType := none }, accessFlags := 1, code := some k7c1 }
def k7c2 : Code := { maxStack := 2, maxLocals := 1, code := jdk_42_method_54_code, exceptionTable := #[], attributes := #[] }
def k7m2 : Method := { name := "length", desc := "()I", sig := { parameters := [], returnType := some .int }, accessFlags := 1, code := some k7c2 }
def k7c3 : Code := { maxStack := 2, maxLocals := 2, code := jdk_42_method_56_code, exceptionTable := #[], attributes := #[] }
def k7m3 : Method := { name := "charAt", desc := "(I)C", sig := { parameters := [.int], returnType := some .char }, accessFlags := 1, code := some k7c3 }
def k7c4 : Code := { maxStack := 4, maxLocals := 6, code := jdk_42_method_149_code, exceptionTable := #[], attributes := #[] }
def k7m4 : Method := { name := "<init>", desc := "([CIILjava/lang/Void;)V", sig := { parameters := [(.array .char), .int, .int, (.object "java/lang/Void")], returnType := none }, accessFlags := 2, code := some k7c4 }
def k7c5 : Code := { maxStack := 1, maxLocals := 1, code := jdk_42_method_152_code, exceptionTable := #[], attributes := #[] }
def k7m5 : Method := { name := "coder", desc := "()B", sig := { parameters := [], returnType := some .byte }, accessFlags := 0, code := some k7c5 }
def k7c6 : Code := { maxStack := 1, maxLocals := 1, code := jdk_42_method_154_code, exceptionTable := #[], attributes := #[] }
def k7m6 : Method := { name := "isLatin1", desc := "()Z", sig := { parameters := [], returnType := some .boolean }, accessFlags := 0, code := some k7c6 }
def k7c7 : Code := { maxStack := 3, maxLocals := 2, code := jdk_42_method_155_code, exceptionTable := #[], attributes := #[] }
def k7m7 : Method := { name := "checkIndex", desc := "(II)V", sig := { parameters := [.int, .int], returnType := none }, accessFlags := 8, code := some k7c7 }
/-- java/lang/String -/
def k7 : Class := { plain "java/lang/String" (some 0) with
  accessFlags := 49
  interfaces := #[2, 3, 4, 5, 6]
  cf := some (fileOf pool7 10 #[.nestMembers #[1103]] #[{ accessFlags := 1, nameIndex := 5, descriptorIndex := 6, attributes := #[] }, { accessFlags := 1, nameIndex := 5, descriptorIndex := 1010, attributes := #[] }, { accessFlags := 1, nameIndex := 507, descriptorIndex := 334, attributes := #[] }, { accessFlags := 1, nameIndex := 497, descriptorIndex := 427, attributes := #[] }, { accessFlags := 2, nameIndex := 5, descriptorIndex := 29, attributes := #[] }, { accessFlags := 0, nameIndex := 17, descriptorIndex := 337, attributes := #[] }, { accessFlags := 0, nameIndex := 494, descriptorIndex := 142, attributes := #[] }, { accessFlags := 8, nameIndex := 501, descriptorIndex := 391, attributes := #[] }] 49 2 #[1106, 1108, 575, 1110, 1112] #[{ accessFlags := 18, nameIndex := 13, descriptorIndex := 14, attributes := #[] }, { accessFlags := 18, nameIndex := 17, descriptorIndex := 18, attributes := #[] }, { accessFlags := 2, nameIndex := 21, descriptorIndex := 22, attributes := #[] }, { accessFlags := 2, nameIndex := 25, descriptorIndex := 26, attributes := #[] }, { accessFlags := 26, nameIndex := 1116, descriptorIndex := 1117, attributes := #[] }, { accessFlags := 24, nameIndex := 40, descriptorIndex := 26, attributes := #[] }, { accessFlags := 26, nameIndex := 1101, descriptorIndex := 1102, attributes := #[] }, { accessFlags := 26, nameIndex := 1121, descriptorIndex := 1122, attributes := #[] }, { accessFlags := 25, nameIndex := 599, descriptorIndex := 600, attributes := #[] }, { accessFlags := 24, nameIndex := 1125, descriptorIndex := 18, attributes := #[] }, { accessFlags := 24, nameIndex := 1127, descriptorIndex := 18, attributes := #[] }])
  fields := #[{ name := "value", type := (.array .byte), accessFlags := 18, slot := 0, constantValue := 0 }, { name := "coder", type := .byte, accessFlags := 18, slot := 1, constantValue := 0 }, { name := "hash", type := .int, accessFlags := 2, slot := 2, constantValue := 0 }, { name := "hashIsZero", type := .boolean, accessFlags := 2, slot := 3, constantValue := 0 }, { name := "serialVersionUID", type := .long, accessFlags := 26, slot := 0, constantValue := 0 }, { name := "COMPACT_STRINGS", type := .boolean, accessFlags := 24, slot := 1, constantValue := 0 }, { name := "serialPersistentFields", type := (.array (.object "java/io/ObjectStreamField")), accessFlags := 26, slot := 2, constantValue := 0 }, { name := "REPL", type := .char, accessFlags := 26, slot := 3, constantValue := 0 }, { name := "CASE_INSENSITIVE_ORDER", type := (.object "java/util/Comparator"), accessFlags := 25, slot := 4, constantValue := 0 }, { name := "LATIN1", type := .byte, accessFlags := 24, slot := 5, constantValue := 0 }, { name := "UTF16", type := .byte, accessFlags := 24, slot := 6, constantValue := 0 }]
  methods := #[k7m0, k7m1, k7m2, k7m3, k7m4, k7m5, k7m6, k7m7]
  instanceTypes := #[(.array .byte), .byte, .int, .boolean]
  staticTypes := #[.long, .boolean, (.array (.object "java/io/ObjectStreamField")), .char, (.object "java/util/Comparator"), .byte, .byte]
  resolved := Array.replicate 1451 none
  statics := some 0 }

def pool8 : Array CpInfo := pool [(2, .class_ 4), (1, u "java/lang/Object"), (0, u "<init>"), (0, u "()V"), (0, .methodref 8 9), (0, .class_ 10), (0, .nameAndType 11 12), (0, u "java/lang/String"), (0, u "length"), (0, u "()I"), (0, .methodref 14 15), (0, .class_ 16), (0, .nameAndType 17 18), (0, u "com/example/winj/winj/storage/Utf8"), (0, u "pairAt"), (0, u "(Ljava/lang/String;I)Z"), (0, .methodref 8 20), (0, .nameAndType 21 22), (0, u "charAt"), (0, u "(I)C"), (0, .methodref 24 25), (0, .class_ 26), (0, .nameAndType 27 28), (0, u "java/lang/Character"), (0, u "isSurrogate"), (0, u "(C)Z"), (6, .methodref 24 36), (0, .nameAndType 37 28), (0, u "isHighSurrogate"), (0, .methodref 24 39), (0, .nameAndType 40 28), (0, u "isLowSurrogate"), (2, u "encodes"), (0, u "(Ljava/lang/String;)Z")] 5

def k8m0 : Method := { name := "<init>", desc := "()V", sig := { parameters := [], returnType := none }, accessFlags := 2, code := none }
def k8c1 : Code := { maxStack := 2, maxLocals := 2, code := prog_12_method_2_code, exceptionTable := #[], attributes := #[] }
def k8m1 : Method := { name := "encodes", desc := "(Ljava/lang/String;)Z", sig := { parameters := [(.object "java/lang/String")], returnType := some .boolean }, accessFlags := 8, code := some k8c1 }
def k8c2 : Code := { maxStack := 3, maxLocals := 2, code := prog_12_method_4_code, exceptionTable := #[], attributes := #[] }
def k8m2 : Method := { name := "pairAt", desc := "(Ljava/lang/String;I)Z", sig := { parameters := [(.object "java/lang/String"), .int], returnType := some .boolean }, accessFlags := 10, code := some k8c2 }
/-- com/example/winj/winj/storage/Utf8 -/
def k8 : Class := { plain "com/example/winj/winj/storage/Utf8" (some 0) with
  accessFlags := 48
  interfaces := #[]
  cf := some (fileOf pool8 14 #[] #[{ accessFlags := 2, nameIndex := 5, descriptorIndex := 6, attributes := #[] }, { accessFlags := 8, nameIndex := 43, descriptorIndex := 44, attributes := #[] }, { accessFlags := 10, nameIndex := 17, descriptorIndex := 18, attributes := #[] }] 48 2 #[] #[])
  fields := #[]
  methods := #[k8m0, k8m1, k8m2]
  instanceTypes := #[]
  staticTypes := #[]
  resolved := Array.replicate 50 none
  statics := none }

def pool9 : Array CpInfo := pool [(3, .class_ 4), (0, u "java/lang/String"), (1, .class_ 8), (1, u "java/lang/Object"), (0, u "<init>"), (0, u "()V"), (0, .methodref 12 13), (0, .class_ 14), (0, .nameAndType 15 16), (0, u "java/lang/StringUTF16"), (0, u "newBytesLength"), (0, u "(I)I"), (3, .integer 1073741823), (23, .fieldref 12 45), (0, .nameAndType 46 47), (0, u "$assertionsDisabled"), (0, u "Z"), (0, .methodref 12 49), (0, .nameAndType 50 51), (0, u "length"), (0, u "([B)I"), (7, .fieldref 12 60), (0, .nameAndType 61 62), (0, u "HI_BYTE_SHIFT"), (0, u "I"), (0, .fieldref 12 64), (0, .nameAndType 65 62), (0, u "LO_BYTE_SHIFT"), (1, .methodref 12 68), (0, .nameAndType 69 70), (0, u "checkIndex"), (0, u "(I[B)V"), (0, .methodref 12 72), (0, .nameAndType 73 74), (0, u "getChar"), (0, u "([BI)C"), (32, .methodref 12 108), (0, .nameAndType 109 110), (0, u "newBytesFor"), (0, u "(I)[B"), (0, .methodref 12 112), (0, .nameAndType 113 114), (0, u "putChar"), (0, u "([BII)V"), (0, .methodref 12 116), (0, .nameAndType 117 118), (0, u "compress"), (0, u "([CI[BII)I"), (0, .methodref 12 120), (0, .nameAndType 121 122), (0, u "toBytes"), (0, u "([CII)[B"), (138, u "coderFromArrayLen"), (0, u "([BI)B"), (106, .class_ 371), (1, u "java/lang/StringUTF16$LinesSpliterator"), (20, u "charAt"), (21, .methodref 3 415), (0, .nameAndType 69 416), (0, u "(II)V"), (13, u "MAX_LENGTH"), (196, .class_ 628), (0, u "java/lang/StringUTF16$CodePointsSpliterator"), (0, .class_ 630), (0, u "java/lang/StringUTF16$CharsSpliterator")] 4

def k9m0 : Method := { name := "<init>", desc := "()V", sig := { parameters := [], returnType := none }, accessFlags := 0, code := none }
def k9c1 : Code := { maxStack := 1, maxLocals := 1, code := jdk_52_method_2_code, exceptionTable := #[], attributes := #[] }
def k9m1 : Method := { name := "newBytesFor", desc := "(I)[B", sig := { parameters := [.int], returnType := some (.array .byte) }, accessFlags := 9, code := some k9c1 }
def k9c2 : Code := { maxStack := 4, maxLocals := 1, code := jdk_52_method_3_code, exceptionTable := #[], attributes := #[] }
def k9m2 : Method := { name := "newBytesLength", desc := "(I)I", sig := { parameters := [.int], returnType := some .int }, accessFlags := 9, code := some k9c2 }
def k9c3 : Code := { maxStack := 4, maxLocals := 3, code := jdk_52_method_4_code, exceptionTable := #[], attributes := #[] }
def k9m3 : Method := { name := "putChar", desc := "([BII)V", sig := { parameters := [(.array .byte), .int, .int], returnType := none }, accessFlags := 8, code := some k9c3 }
def k9c4 : Code := { maxStack := 3, maxLocals := 2, code := jdk_52_method_5_code, exceptionTable := #[], attributes := #[] }
def k9m4 : Method := { name := "getChar", desc := "([BI)C", sig := { parameters := [(.array .byte), .int], returnType := some .char }, accessFlags := 8, code := some k9c4 }
def k9c5 : Code := { maxStack := 2, maxLocals := 1, code := jdk_52_method_6_code, exceptionTable := #[], attributes := #[] }
def k9m5 : Method := { name := "length", desc := "([B)I", sig := { parameters := [(.array .byte)], returnType := some .int }, accessFlags := 9, code := some k9c5 }
def k9c6 : Code := { maxStack := 4, maxLocals := 5, code := jdk_52_method_14_code, exceptionTable := #[], attributes := #[] }
def k9m6 : Method := { name := "toBytes", desc := "([CII)[B", sig := { parameters := [(.array .char), .int, .int], returnType := some (.array .byte) }, accessFlags := 9, code := some k9c6 }
def k9c7 : Code := { maxStack := 2, maxLocals := 2, code := jdk_52_method_15_code, exceptionTable := #[], attributes := #[] }
def k9m7 : Method := { name := "coderFromArrayLen", desc := "([BI)B", sig := { parameters := [(.array .byte), .int], returnType := some .byte }, accessFlags := 8, code := some k9c7 }
def k9c8 : Code := { maxStack := 5, maxLocals := 6, code := jdk_52_method_16_code, exceptionTable := #[], attributes := #[] }
def k9m8 : Method := { name := "compress", desc := "([CII)[B", sig := { parameters := [(.array .char), .int, .int], returnType := some (.array .byte) }, accessFlags := 9, code := some k9c8 }
def k9c9 : Code := { maxStack := 3, maxLocals := 7, code := jdk_52_method_21_code, exceptionTable := #[], attributes := #[] }
def k9m9 : Method := { name := "compress", desc := "([CI[BII)I", sig := { parameters := [(.array .char), .int, (.array .byte), .int, .int], returnType := some .int }, accessFlags := 9, code := some k9c9 }
def k9c10 : Code := { maxStack := 2, maxLocals := 2, code := jdk_52_method_83_code, exceptionTable := #[], attributes := #[] }
def k9m10 : Method := { name := "charAt", desc := "([BI)C", sig := { parameters := [(.array .byte), .int], returnType := some .char }, accessFlags := 9, code := some k9c10 }
def k9c11 : Code := { maxStack := 2, maxLocals := 2, code := jdk_52_method_91_code, exceptionTable := #[], attributes := #[] }
def k9m11 : Method := { name := "checkIndex", desc := "(I[B)V", sig := { parameters := [.int, (.array .byte)], returnType := none }, accessFlags := 9, code := some k9c11 }
/-- java/lang/StringUTF16 -/
def k9 : Class := { plain "java/lang/StringUTF16" (some 0) with
  accessFlags := 48
  interfaces := #[]
  cf := some (fileOf pool9 12 #[.nestMembers #[627, 629, 369]] #[{ accessFlags := 0, nameIndex := 9, descriptorIndex := 10, attributes := #[] }, { accessFlags := 9, nameIndex := 109, descriptorIndex := 110, attributes := #[] }, { accessFlags := 9, nameIndex := 15, descriptorIndex := 16, attributes := #[] }, { accessFlags := 8, nameIndex := 113, descriptorIndex := 114, attributes := #[] }, { accessFlags := 8, nameIndex := 73, descriptorIndex := 74, attributes := #[] }, { accessFlags := 9, nameIndex := 50, descriptorIndex := 51, attributes := #[] }, { accessFlags := 9, nameIndex := 121, descriptorIndex := 122, attributes := #[] }, { accessFlags := 8, nameIndex := 261, descriptorIndex := 262, attributes := #[] }, { accessFlags := 9, nameIndex := 117, descriptorIndex := 122, attributes := #[] }, { accessFlags := 9, nameIndex := 117, descriptorIndex := 118, attributes := #[] }, { accessFlags := 9, nameIndex := 392, descriptorIndex := 74, attributes := #[] }, { accessFlags := 9, nameIndex := 69, descriptorIndex := 70, attributes := #[] }] 48 6 #[] #[{ accessFlags := 26, nameIndex := 61, descriptorIndex := 62, attributes := #[] }, { accessFlags := 26, nameIndex := 65, descriptorIndex := 62, attributes := #[] }, { accessFlags := 24, nameIndex := 430, descriptorIndex := 62, attributes := #[] }, { accessFlags := 4120, nameIndex := 46, descriptorIndex := 47, attributes := #[] }])
  fields := #[{ name := "HI_BYTE_SHIFT", type := .int, accessFlags := 26, slot := 0, constantValue := 0 }, { name := "LO_BYTE_SHIFT", type := .int, accessFlags := 26, slot := 1, constantValue := 0 }, { name := "MAX_LENGTH", type := .int, accessFlags := 24, slot := 2, constantValue := 0 }, { name := "$assertionsDisabled", type := .boolean, accessFlags := 4120, slot := 3, constantValue := 0 }]
  methods := #[k9m0, k9m1, k9m2, k9m3, k9m4, k9m5, k9m6, k9m7, k9m8, k9m9, k9m10, k9m11]
  instanceTypes := #[]
  staticTypes := #[.int, .int, .int, .boolean]
  resolved := Array.replicate 635 none
  statics := some 1 }

def pool10 : Array CpInfo := pool [(1, .class_ 2), (0, u "java/lang/String"), (1, .class_ 6), (1, u "java/lang/Object"), (0, u "<init>"), (0, u "()V"), (0, .methodref 1 10), (0, .nameAndType 11 12), (0, u "checkIndex"), (0, u "(II)V"), (1, .class_ 16), (1, u "java/lang/StringLatin1"), (36, u "([BI)C"), (67, u "$assertionsDisabled"), (0, u "Z"), (98, .class_ 223), (1, u "java/lang/StringLatin1$LinesSpliterator"), (28, u "charAt"), (137, .class_ 391), (0, u "java/lang/StringLatin1$CharsSpliterator")] 3

def k10m0 : Method := { name := "<init>", desc := "()V", sig := { parameters := [], returnType := none }, accessFlags := 0, code := none }
def k10c1 : Code := { maxStack := 2, maxLocals := 2, code := jdk_43_method_2_code, exceptionTable := #[], attributes := #[] }
def k10m1 : Method := { name := "charAt", desc := "([BI)C", sig := { parameters := [(.array .byte), .int], returnType := some .char }, accessFlags := 9, code := some k10c1 }
/-- java/lang/StringLatin1 -/
def k10 : Class := { plain "java/lang/StringLatin1" (some 0) with
  accessFlags := 48
  interfaces := #[]
  cf := some (fileOf pool10 14 #[.nestMembers #[390, 221]] #[{ accessFlags := 0, nameIndex := 7, descriptorIndex := 8, attributes := #[] }, { accessFlags := 9, nameIndex := 252, descriptorIndex := 53, attributes := #[] }] 48 4 #[] #[{ accessFlags := 4120, nameIndex := 121, descriptorIndex := 122, attributes := #[] }])
  fields := #[{ name := "$assertionsDisabled", type := .boolean, accessFlags := 4120, slot := 0, constantValue := 0 }]
  methods := #[k10m0, k10m1]
  instanceTypes := #[]
  staticTypes := #[.boolean]
  resolved := Array.replicate 395 none
  statics := none }

def pool11 : Array CpInfo := pool [(2, .class_ 4), (1, u "java/lang/Object"), (0, u "<init>"), (0, u "()V"), (17, .class_ 26), (1, u "jdk/internal/util/Preconditions"), (6, u "checkIndex"), (21, .class_ 56), (0, u "jdk/internal/util/Preconditions$4"), (57, .class_ 115), (0, u "jdk/internal/util/Preconditions$1"), (7, u "SIOOBE_FORMATTER"), (0, u "Ljava/util/function/BiFunction;"), (0, .class_ 126), (0, u "jdk/internal/util/Preconditions$2"), (3, u "AIOOBE_FORMATTER"), (0, .class_ 132), (0, u "jdk/internal/util/Preconditions$3"), (3, u "IOOBE_FORMATTER"), (41, u "(IILjava/util/function/BiFunction;)I")] 15

def k11m0 : Method := { name := "<init>", desc := "()V", sig := { parameters := [], returnType := none }, accessFlags := 1, code := none }
def k11c1 : Code := { maxStack := 3, maxLocals := 3, code := jdk_41_method_11_code, exceptionTable := #[], attributes := #[] }
def k11m1 : Method := { name := "checkIndex", desc := "(IILjava/util/function/BiFunction;)I", sig := { parameters := [.int, .int, (.object "java/util/function/BiFunction")], returnType := some .int }, accessFlags := 9, code := some k11c1 }
/-- jdk/internal/util/Preconditions -/
def k11 : Class := { plain "jdk/internal/util/Preconditions" (some 0) with
  accessFlags := 33
  interfaces := #[]
  cf := some (fileOf pool11 24 #[.nestMembers #[55, 131, 125, 114]] #[{ accessFlags := 1, nameIndex := 5, descriptorIndex := 6, attributes := #[] }, { accessFlags := 9, nameIndex := 33, descriptorIndex := 178, attributes := #[] }] 33 2 #[] #[{ accessFlags := 25, nameIndex := 123, descriptorIndex := 124, attributes := #[] }, { accessFlags := 25, nameIndex := 130, descriptorIndex := 124, attributes := #[] }, { accessFlags := 25, nameIndex := 136, descriptorIndex := 124, attributes := #[] }])
  fields := #[{ name := "SIOOBE_FORMATTER", type := (.object "java/util/function/BiFunction"), accessFlags := 25, slot := 0, constantValue := 0 }, { name := "AIOOBE_FORMATTER", type := (.object "java/util/function/BiFunction"), accessFlags := 25, slot := 1, constantValue := 0 }, { name := "IOOBE_FORMATTER", type := (.object "java/util/function/BiFunction"), accessFlags := 25, slot := 2, constantValue := 0 }]
  methods := #[k11m0, k11m1]
  instanceTypes := #[]
  staticTypes := #[(.object "java/util/function/BiFunction"), (.object "java/util/function/BiFunction"), (.object "java/util/function/BiFunction")]
  resolved := Array.replicate 194 none
  statics := some 2 }

def pool12 : Array CpInfo := pool [(1, .class_ 2), (0, u "java/lang/Character"), (18, u "value"), (0, u "C"), (19, .class_ 44), (1, u "java/lang/Object"), (3, .class_ 50), (1, u "java/lang/Character$CharacterCache"), (24, .integer 55296), (0, .integer 56320), (0, .integer 57344), (2, u "isHighSurrogate"), (0, u "(C)Z"), (2, u "isLowSurrogate"), (199, u "$assertionsDisabled"), (0, u "Z"), (21, .class_ 309), (1, u "java/lang/Character$UnicodeBlock"), (73, u "TYPE"), (0, u "Ljava/lang/Class;"), (0, .class_ 386), (0, u "java/io/Serializable"), (0, .class_ 388), (0, u "java/lang/Comparable"), (0, .class_ 390), (0, u "java/lang/constant/Constable"), (0, u "MIN_RADIX"), (0, u "I"), (2, u "MAX_RADIX"), (1, u "MIN_VALUE"), (1, u "MAX_VALUE"), (3, u "UNASSIGNED"), (0, u "B"), (0, u "UPPERCASE_LETTER"), (1, u "LOWERCASE_LETTER"), (0, u "TITLECASE_LETTER"), (1, u "MODIFIER_LETTER"), (1, u "OTHER_LETTER"), (1, u "NON_SPACING_MARK"), (1, u "ENCLOSING_MARK"), (1, u "COMBINING_SPACING_MARK"), (1, u "DECIMAL_DIGIT_NUMBER"), (1, u "LETTER_NUMBER"), (1, u "OTHER_NUMBER"), (1, u "SPACE_SEPARATOR"), (1, u "LINE_SEPARATOR"), (1, u "PARAGRAPH_SEPARATOR"), (1, u "CONTROL"), (1, u "FORMAT"), (1, u "PRIVATE_USE"), (1, u "SURROGATE"), (1, u "DASH_PUNCTUATION"), (1, u "START_PUNCTUATION"), (1, u "END_PUNCTUATION"), (1, u "CONNECTOR_PUNCTUATION"), (1, u "OTHER_PUNCTUATION"), (1, u "MATH_SYMBOL"), (1, u "CURRENCY_SYMBOL"), (1, u "MODIFIER_SYMBOL"), (1, u "OTHER_SYMBOL"), (1, u "INITIAL_QUOTE_PUNCTUATION"), (1, u "FINAL_QUOTE_PUNCTUATION"), (1, u "ERROR"), (1, u "DIRECTIONALITY_UNDEFINED"), (0, u "DIRECTIONALITY_LEFT_TO_RIGHT"), (0, u "DIRECTIONALITY_RIGHT_TO_LEFT"), (0, u "DIRECTIONALITY_RIGHT_TO_LEFT_ARABIC"), (0, u "DIRECTIONALITY_EUROPEAN_NUMBER"), (0, u "DIRECTIONALITY_EUROPEAN_NUMBER_SEPARATOR"), (0, u "DIRECTIONALITY_EUROPEAN_NUMBER_TERMINATOR"), (0, u "DIRECTIONALITY_ARABIC_NUMBER"), (0, u "DIRECTIONALITY_COMMON_NUMBER_SEPARATOR"), (0, u "DIRECTIONALITY_NONSPACING_MARK"), (0, u "DIRECTIONALITY_BOUNDARY_NEUTRAL"), (0, u "DIRECTIONALITY_PARAGRAPH_SEPARATOR"), (0, u "DIRECTIONALITY_SEGMENT_SEPARATOR"), (0, u "DIRECTIONALITY_WHITESPACE"), (0, u "DIRECTIONALITY_OTHER_NEUTRALS"), (0, u "DIRECTIONALITY_LEFT_TO_RIGHT_EMBEDDING"), (0, u "DIRECTIONALITY_LEFT_TO_RIGHT_OVERRIDE"), (0, u "DIRECTIONALITY_RIGHT_TO_LEFT_EMBEDDING"), (0, u "DIRECTIONALITY_RIGHT_TO_LEFT_OVERRIDE"), (1, u "DIRECTIONALITY_POP_DIRECTIONAL_FORMAT"), (0, u "DIRECTIONALITY_LEFT_TO_RIGHT_ISOLATE"), (0, u "DIRECTIONALITY_RIGHT_TO_LEFT_ISOLATE"), (0, u "DIRECTIONALITY_FIRST_STRONG_ISOLATE"), (0, u "DIRECTIONALITY_POP_DIRECTIONAL_ISOLATE"), (0, u "MIN_HIGH_SURROGATE"), (0, u "MAX_HIGH_SURROGATE"), (1, u "MIN_LOW_SURROGATE"), (0, u "MAX_LOW_SURROGATE"), (1, u "MIN_SURROGATE"), (0, u "MAX_SURROGATE"), (0, u "MIN_SUPPLEMENTARY_CODE_POINT"), (0, u "MIN_CODE_POINT"), (0, u "MAX_CODE_POINT"), (1, u "serialVersionUID"), (0, u "J"), (2, u "SIZE"), (0, u "BYTES"), (24, u "isSurrogate"), (63, .class_ 596), (0, u "java/lang/Character$UnicodeScript"), (0, .class_ 598), (0, u "java/lang/Character$Subset")] 5

def k12c0 : Code := { maxStack := 2, maxLocals := 1, code := jdk_89_method_14_code, exceptionTable := #[], attributes := #[] }
def k12m0 : Method := { name := "isHighSurrogate", desc := "(C)Z", sig := { parameters := [.char], returnType := some .boolean }, accessFlags := 9, code := some k12c0 }
def k12c1 : Code := { maxStack := 2, maxLocals := 1, code := jdk_89_method_15_code, exceptionTable := #[], attributes := #[] }
def k12m1 : Method := { name := "isLowSurrogate", desc := "(C)Z", sig := { parameters := [.char], returnType := some .boolean }, accessFlags := 9, code := some k12c1 }
def k12c2 : Code := { maxStack := 2, maxLocals := 1, code := jdk_89_method_16_code, exceptionTable := #[], attributes := #[] }
def k12m2 : Method := { name := "isSurrogate", desc := "(C)Z", sig := { parameters := [.char], returnType := some .boolean }, accessFlags := 9, code := some k12c2 }
/-- java/lang/Character -/
def k12 : Class := { plain "java/lang/Character" (some 0) with
  accessFlags := 49
  interfaces := #[2, 3, 5]
  cf := some (fileOf pool12 1 #[.nestMembers #[48, 595, 307, 597]] #[{ accessFlags := 9, nameIndex := 80, descriptorIndex := 81, attributes := #[] }, { accessFlags := 9, nameIndex := 84, descriptorIndex := 81, attributes := #[] }, { accessFlags := 9, nameIndex := 531, descriptorIndex := 81, attributes := #[] }] 49 42 #[385, 387, 389] #[{ accessFlags := 25, nameIndex := 391, descriptorIndex := 392, attributes := #[] }, { accessFlags := 25, nameIndex := 395, descriptorIndex := 392, attributes := #[] }, { accessFlags := 25, nameIndex := 397, descriptorIndex := 22, attributes := #[] }, { accessFlags := 25, nameIndex := 399, descriptorIndex := 22, attributes := #[] }, { accessFlags := 25, nameIndex := 383, descriptorIndex := 384, attributes := #[] }, { accessFlags := 25, nameIndex := 403, descriptorIndex := 404, attributes := #[] }, { accessFlags := 25, nameIndex := 405, descriptorIndex := 404, attributes := #[] }, { accessFlags := 25, nameIndex := 407, descriptorIndex := 404, attributes := #[] }, { accessFlags := 25, nameIndex := 408, descriptorIndex := 404, attributes := #[] }, { accessFlags := 25, nameIndex := 410, descriptorIndex := 404, attributes := #[] }, { accessFlags := 25, nameIndex := 412, descriptorIndex := 404, attributes := #[] }, { accessFlags := 25, nameIndex := 414, descriptorIndex := 404, attributes := #[] }, { accessFlags := 25, nameIndex := 416, descriptorIndex := 404, attributes := #[] }, { accessFlags := 25, nameIndex := 418, descriptorIndex := 404, attributes := #[] }, { accessFlags := 25, nameIndex := 420, descriptorIndex := 404, attributes := #[] }, { accessFlags := 25, nameIndex := 422, descriptorIndex := 404, attributes := #[] }, { accessFlags := 25, nameIndex := 424, descriptorIndex := 404, attributes := #[] }, { accessFlags := 25, nameIndex := 426, descriptorIndex := 404, attributes := #[] }, { accessFlags := 25, nameIndex := 428, descriptorIndex := 404, attributes := #[] }, { accessFlags := 25, nameIndex := 430, descriptorIndex := 404, attributes := #[] }, { accessFlags := 25, nameIndex := 432, descriptorIndex := 404, attributes := #[] }, { accessFlags := 25, nameIndex := 434, descriptorIndex := 404, attributes := #[] }, { accessFlags := 25, nameIndex := 436, descriptorIndex := 404, attributes := #[] }, { accessFlags := 25, nameIndex := 438, descriptorIndex := 404, attributes := #[] }, { accessFlags := 25, nameIndex := 440, descriptorIndex := 404, attributes := #[] }, { accessFlags := 25, nameIndex := 442, descriptorIndex := 404, attributes := #[] }, { accessFlags := 25, nameIndex := 444, descriptorIndex := 404, attributes := #[] }, { accessFlags := 25, nameIndex := 446, descriptorIndex := 404, attributes := #[] }, { accessFlags := 25, nameIndex := 448, descriptorIndex := 404, attributes := #[] }, { accessFlags := 25, nameIndex := 450, descriptorIndex := 404, attributes := #[] }, { accessFlags := 25, nameIndex := 452, descriptorIndex := 404, attributes := #[] }, { accessFlags := 25, nameIndex := 454, descriptorIndex := 404, attributes := #[] }, { accessFlags := 25, nameIndex := 456, descriptorIndex := 404, attributes := #[] }, { accessFlags := 25, nameIndex := 458, descriptorIndex := 404, attributes := #[] }, { accessFlags := 25, nameIndex := 460, descriptorIndex := 404, attributes := #[] }, { accessFlags := 24, nameIndex := 462, descriptorIndex := 392, attributes := #[] }, { accessFlags := 25, nameIndex := 464, descriptorIndex := 404, attributes := #[] }, { accessFlags := 25, nameIndex := 465, descriptorIndex := 404, attributes := #[] }, { accessFlags := 25, nameIndex := 466, descriptorIndex := 404, attributes := #[] }, { accessFlags := 25, nameIndex := 467, descriptorIndex := 404, attributes := #[] }, { accessFlags := 25, nameIndex := 468, descriptorIndex := 404, attributes := #[] }, { accessFlags := 25, nameIndex := 469, descriptorIndex := 404, attributes := #[] }, { accessFlags := 25, nameIndex := 470, descriptorIndex := 404, attributes := #[] }, { accessFlags := 25, nameIndex := 471, descriptorIndex := 404, attributes := #[] }, { accessFlags := 25, nameIndex := 472, descriptorIndex := 404, attributes := #[] }, { accessFlags := 25, nameIndex := 473, descriptorIndex := 404, attributes := #[] }, { accessFlags := 25, nameIndex := 474, descriptorIndex := 404, attributes := #[] }, { accessFlags := 25, nameIndex := 475, descriptorIndex := 404, attributes := #[] }, { accessFlags := 25, nameIndex := 476, descriptorIndex := 404, attributes := #[] }, { accessFlags := 25, nameIndex := 477, descriptorIndex := 404, attributes := #[] }, { accessFlags := 25, nameIndex := 478, descriptorIndex := 404, attributes := #[] }, { accessFlags := 25, nameIndex := 479, descriptorIndex := 404, attributes := #[] }, { accessFlags := 25, nameIndex := 480, descriptorIndex := 404, attributes := #[] }, { accessFlags := 25, nameIndex := 481, descriptorIndex := 404, attributes := #[] }, { accessFlags := 25, nameIndex := 482, descriptorIndex := 404, attributes := #[] }, { accessFlags := 25, nameIndex := 484, descriptorIndex := 404, attributes := #[] }, { accessFlags := 25, nameIndex := 485, descriptorIndex := 404, attributes := #[] }, { accessFlags := 25, nameIndex := 486, descriptorIndex := 404, attributes := #[] }, { accessFlags := 25, nameIndex := 487, descriptorIndex := 404, attributes := #[] }, { accessFlags := 25, nameIndex := 488, descriptorIndex := 404, attributes := #[] }, { accessFlags := 25, nameIndex := 489, descriptorIndex := 22, attributes := #[] }, { accessFlags := 25, nameIndex := 490, descriptorIndex := 22, attributes := #[] }, { accessFlags := 25, nameIndex := 492, descriptorIndex := 22, attributes := #[] }, { accessFlags := 25, nameIndex := 493, descriptorIndex := 22, attributes := #[] }, { accessFlags := 25, nameIndex := 495, descriptorIndex := 22, attributes := #[] }, { accessFlags := 25, nameIndex := 496, descriptorIndex := 22, attributes := #[] }, { accessFlags := 25, nameIndex := 497, descriptorIndex := 392, attributes := #[] }, { accessFlags := 25, nameIndex := 498, descriptorIndex := 392, attributes := #[] }, { accessFlags := 25, nameIndex := 499, descriptorIndex := 392, attributes := #[] }, { accessFlags := 18, nameIndex := 21, descriptorIndex := 22, attributes := #[] }, { accessFlags := 26, nameIndex := 501, descriptorIndex := 502, attributes := #[] }, { accessFlags := 25, nameIndex := 505, descriptorIndex := 392, attributes := #[] }, { accessFlags := 25, nameIndex := 506, descriptorIndex := 392, attributes := #[] }, { accessFlags := 4120, nameIndex := 284, descriptorIndex := 285, attributes := #[] }])
  fields := #[{ name := "MIN_RADIX", type := .int, accessFlags := 25, slot := 0, constantValue := 0 }, { name := "MAX_RADIX", type := .int, accessFlags := 25, slot := 1, constantValue := 0 }, { name := "MIN_VALUE", type := .char, accessFlags := 25, slot := 2, constantValue := 0 }, { name := "MAX_VALUE", type := .char, accessFlags := 25, slot := 3, constantValue := 0 }, { name := "TYPE", type := (.object "java/lang/Class"), accessFlags := 25, slot := 4, constantValue := 0 }, { name := "UNASSIGNED", type := .byte, accessFlags := 25, slot := 5, constantValue := 0 }, { name := "UPPERCASE_LETTER", type := .byte, accessFlags := 25, slot := 6, constantValue := 0 }, { name := "LOWERCASE_LETTER", type := .byte, accessFlags := 25, slot := 7, constantValue := 0 }, { name := "TITLECASE_LETTER", type := .byte, accessFlags := 25, slot := 8, constantValue := 0 }, { name := "MODIFIER_LETTER", type := .byte, accessFlags := 25, slot := 9, constantValue := 0 }, { name := "OTHER_LETTER", type := .byte, accessFlags := 25, slot := 10, constantValue := 0 }, { name := "NON_SPACING_MARK", type := .byte, accessFlags := 25, slot := 11, constantValue := 0 }, { name := "ENCLOSING_MARK", type := .byte, accessFlags := 25, slot := 12, constantValue := 0 }, { name := "COMBINING_SPACING_MARK", type := .byte, accessFlags := 25, slot := 13, constantValue := 0 }, { name := "DECIMAL_DIGIT_NUMBER", type := .byte, accessFlags := 25, slot := 14, constantValue := 0 }, { name := "LETTER_NUMBER", type := .byte, accessFlags := 25, slot := 15, constantValue := 0 }, { name := "OTHER_NUMBER", type := .byte, accessFlags := 25, slot := 16, constantValue := 0 }, { name := "SPACE_SEPARATOR", type := .byte, accessFlags := 25, slot := 17, constantValue := 0 }, { name := "LINE_SEPARATOR", type := .byte, accessFlags := 25, slot := 18, constantValue := 0 }, { name := "PARAGRAPH_SEPARATOR", type := .byte, accessFlags := 25, slot := 19, constantValue := 0 }, { name := "CONTROL", type := .byte, accessFlags := 25, slot := 20, constantValue := 0 }, { name := "FORMAT", type := .byte, accessFlags := 25, slot := 21, constantValue := 0 }, { name := "PRIVATE_USE", type := .byte, accessFlags := 25, slot := 22, constantValue := 0 }, { name := "SURROGATE", type := .byte, accessFlags := 25, slot := 23, constantValue := 0 }, { name := "DASH_PUNCTUATION", type := .byte, accessFlags := 25, slot := 24, constantValue := 0 }, { name := "START_PUNCTUATION", type := .byte, accessFlags := 25, slot := 25, constantValue := 0 }, { name := "END_PUNCTUATION", type := .byte, accessFlags := 25, slot := 26, constantValue := 0 }, { name := "CONNECTOR_PUNCTUATION", type := .byte, accessFlags := 25, slot := 27, constantValue := 0 }, { name := "OTHER_PUNCTUATION", type := .byte, accessFlags := 25, slot := 28, constantValue := 0 }, { name := "MATH_SYMBOL", type := .byte, accessFlags := 25, slot := 29, constantValue := 0 }, { name := "CURRENCY_SYMBOL", type := .byte, accessFlags := 25, slot := 30, constantValue := 0 }, { name := "MODIFIER_SYMBOL", type := .byte, accessFlags := 25, slot := 31, constantValue := 0 }, { name := "OTHER_SYMBOL", type := .byte, accessFlags := 25, slot := 32, constantValue := 0 }, { name := "INITIAL_QUOTE_PUNCTUATION", type := .byte, accessFlags := 25, slot := 33, constantValue := 0 }, { name := "FINAL_QUOTE_PUNCTUATION", type := .byte, accessFlags := 25, slot := 34, constantValue := 0 }, { name := "ERROR", type := .int, accessFlags := 24, slot := 35, constantValue := 0 }, { name := "DIRECTIONALITY_UNDEFINED", type := .byte, accessFlags := 25, slot := 36, constantValue := 0 }, { name := "DIRECTIONALITY_LEFT_TO_RIGHT", type := .byte, accessFlags := 25, slot := 37, constantValue := 0 }, { name := "DIRECTIONALITY_RIGHT_TO_LEFT", type := .byte, accessFlags := 25, slot := 38, constantValue := 0 }, { name := "DIRECTIONALITY_RIGHT_TO_LEFT_ARABIC", type := .byte, accessFlags := 25, slot := 39, constantValue := 0 }, { name := "DIRECTIONALITY_EUROPEAN_NUMBER", type := .byte, accessFlags := 25, slot := 40, constantValue := 0 }, { name := "DIRECTIONALITY_EUROPEAN_NUMBER_SEPARATOR", type := .byte, accessFlags := 25, slot := 41, constantValue := 0 }, { name := "DIRECTIONALITY_EUROPEAN_NUMBER_TERMINATOR", type := .byte, accessFlags := 25, slot := 42, constantValue := 0 }, { name := "DIRECTIONALITY_ARABIC_NUMBER", type := .byte, accessFlags := 25, slot := 43, constantValue := 0 }, { name := "DIRECTIONALITY_COMMON_NUMBER_SEPARATOR", type := .byte, accessFlags := 25, slot := 44, constantValue := 0 }, { name := "DIRECTIONALITY_NONSPACING_MARK", type := .byte, accessFlags := 25, slot := 45, constantValue := 0 }, { name := "DIRECTIONALITY_BOUNDARY_NEUTRAL", type := .byte, accessFlags := 25, slot := 46, constantValue := 0 }, { name := "DIRECTIONALITY_PARAGRAPH_SEPARATOR", type := .byte, accessFlags := 25, slot := 47, constantValue := 0 }, { name := "DIRECTIONALITY_SEGMENT_SEPARATOR", type := .byte, accessFlags := 25, slot := 48, constantValue := 0 }, { name := "DIRECTIONALITY_WHITESPACE", type := .byte, accessFlags := 25, slot := 49, constantValue := 0 }, { name := "DIRECTIONALITY_OTHER_NEUTRALS", type := .byte, accessFlags := 25, slot := 50, constantValue := 0 }, { name := "DIRECTIONALITY_LEFT_TO_RIGHT_EMBEDDING", type := .byte, accessFlags := 25, slot := 51, constantValue := 0 }, { name := "DIRECTIONALITY_LEFT_TO_RIGHT_OVERRIDE", type := .byte, accessFlags := 25, slot := 52, constantValue := 0 }, { name := "DIRECTIONALITY_RIGHT_TO_LEFT_EMBEDDING", type := .byte, accessFlags := 25, slot := 53, constantValue := 0 }, { name := "DIRECTIONALITY_RIGHT_TO_LEFT_OVERRIDE", type := .byte, accessFlags := 25, slot := 54, constantValue := 0 }, { name := "DIRECTIONALITY_POP_DIRECTIONAL_FORMAT", type := .byte, accessFlags := 25, slot := 55, constantValue := 0 }, { name := "DIRECTIONALITY_LEFT_TO_RIGHT_ISOLATE", type := .byte, accessFlags := 25, slot := 56, constantValue := 0 }, { name := "DIRECTIONALITY_RIGHT_TO_LEFT_ISOLATE", type := .byte, accessFlags := 25, slot := 57, constantValue := 0 }, { name := "DIRECTIONALITY_FIRST_STRONG_ISOLATE", type := .byte, accessFlags := 25, slot := 58, constantValue := 0 }, { name := "DIRECTIONALITY_POP_DIRECTIONAL_ISOLATE", type := .byte, accessFlags := 25, slot := 59, constantValue := 0 }, { name := "MIN_HIGH_SURROGATE", type := .char, accessFlags := 25, slot := 60, constantValue := 0 }, { name := "MAX_HIGH_SURROGATE", type := .char, accessFlags := 25, slot := 61, constantValue := 0 }, { name := "MIN_LOW_SURROGATE", type := .char, accessFlags := 25, slot := 62, constantValue := 0 }, { name := "MAX_LOW_SURROGATE", type := .char, accessFlags := 25, slot := 63, constantValue := 0 }, { name := "MIN_SURROGATE", type := .char, accessFlags := 25, slot := 64, constantValue := 0 }, { name := "MAX_SURROGATE", type := .char, accessFlags := 25, slot := 65, constantValue := 0 }, { name := "MIN_SUPPLEMENTARY_CODE_POINT", type := .int, accessFlags := 25, slot := 66, constantValue := 0 }, { name := "MIN_CODE_POINT", type := .int, accessFlags := 25, slot := 67, constantValue := 0 }, { name := "MAX_CODE_POINT", type := .int, accessFlags := 25, slot := 68, constantValue := 0 }, { name := "value", type := .char, accessFlags := 18, slot := 0, constantValue := 0 }, { name := "serialVersionUID", type := .long, accessFlags := 26, slot := 69, constantValue := 0 }, { name := "SIZE", type := .int, accessFlags := 25, slot := 70, constantValue := 0 }, { name := "BYTES", type := .int, accessFlags := 25, slot := 71, constantValue := 0 }, { name := "$assertionsDisabled", type := .boolean, accessFlags := 4120, slot := 72, constantValue := 0 }]
  methods := #[k12m0, k12m1, k12m2]
  instanceTypes := #[.char]
  staticTypes := #[.int, .int, .char, .char, (.object "java/lang/Class"), .byte, .byte, .byte, .byte, .byte, .byte, .byte, .byte, .byte, .byte, .byte, .byte, .byte, .byte, .byte, .byte, .byte, .byte, .byte, .byte, .byte, .byte, .byte, .byte, .byte, .byte, .byte, .byte, .byte, .byte, .int, .byte, .byte, .byte, .byte, .byte, .byte, .byte, .byte, .byte, .byte, .byte, .byte, .byte, .byte, .byte, .byte, .byte, .byte, .byte, .byte, .byte, .byte, .byte, .byte, .char, .char, .char, .char, .char, .char, .int, .int, .int, .long, .int, .int, .boolean]
  resolved := Array.replicate 604 none
  statics := none }

def pool13 : Array CpInfo := pool [(9, u "<init>"), (6, .class_ 18), (1, u "java/lang/Object"), (0, u "()V"), (1, .class_ 23), (1, u "jdk/internal/util/ArraysSupport"), (0, u "LOG2_ARRAY_LONG_INDEX_SCALE"), (0, u "I"), (2, u "U"), (0, u "Ljdk/internal/misc/Unsafe;"), (8, u "BIG_ENDIAN"), (0, u "Z"), (8, u "LOG2_BYTE_BIT_SIZE"), (4, u "LOG2_ARRAY_INT_INDEX_SCALE"), (54, u "JLA"), (0, u "Ljdk/internal/access/JavaLangAccess;"), (11, u "LOG2_ARRAY_BOOLEAN_INDEX_SCALE"), (9, u "LOG2_ARRAY_BYTE_INDEX_SCALE"), (5, u "LOG2_ARRAY_CHAR_INDEX_SCALE"), (5, u "LOG2_ARRAY_SHORT_INDEX_SCALE"), (18, u "LOG2_ARRAY_FLOAT_INDEX_SCALE"), (24, u "LOG2_ARRAY_DOUBLE_INDEX_SCALE"), (89, u "T_BOOLEAN"), (2, u "T_CHAR"), (1, u "T_FLOAT"), (1, u "T_DOUBLE"), (1, u "T_BYTE"), (1, u "T_SHORT"), (1, u "T_INT"), (1, u "T_LONG"), (1, u "SOFT_MAX_ARRAY_LENGTH")] 83

def k13m0 : Method := { name := "<init>", desc := "()V", sig := { parameters := [], returnType := none }, accessFlags := 2, code := none }
/-- jdk/internal/util/ArraysSupport -/
def k13 : Class := { plain "jdk/internal/util/ArraysSupport" (some 0) with
  accessFlags := 33
  interfaces := #[]
  cf := some (fileOf pool13 21 #[] #[{ accessFlags := 2, nameIndex := 9, descriptorIndex := 19, attributes := #[] }] 33 16 #[] #[{ accessFlags := 24, nameIndex := 28, descriptorIndex := 29, attributes := #[] }, { accessFlags := 26, nameIndex := 38, descriptorIndex := 39, attributes := #[] }, { accessFlags := 25, nameIndex := 121, descriptorIndex := 25, attributes := #[] }, { accessFlags := 25, nameIndex := 131, descriptorIndex := 25, attributes := #[] }, { accessFlags := 25, nameIndex := 137, descriptorIndex := 25, attributes := #[] }, { accessFlags := 25, nameIndex := 143, descriptorIndex := 25, attributes := #[] }, { accessFlags := 25, nameIndex := 53, descriptorIndex := 25, attributes := #[] }, { accessFlags := 25, nameIndex := 24, descriptorIndex := 25, attributes := #[] }, { accessFlags := 25, nameIndex := 162, descriptorIndex := 25, attributes := #[] }, { accessFlags := 25, nameIndex := 187, descriptorIndex := 25, attributes := #[] }, { accessFlags := 26, nameIndex := 48, descriptorIndex := 25, attributes := #[] }, { accessFlags := 25, nameIndex := 277, descriptorIndex := 25, attributes := #[] }, { accessFlags := 25, nameIndex := 280, descriptorIndex := 25, attributes := #[] }, { accessFlags := 25, nameIndex := 282, descriptorIndex := 25, attributes := #[] }, { accessFlags := 25, nameIndex := 284, descriptorIndex := 25, attributes := #[] }, { accessFlags := 25, nameIndex := 286, descriptorIndex := 25, attributes := #[] }, { accessFlags := 25, nameIndex := 288, descriptorIndex := 25, attributes := #[] }, { accessFlags := 25, nameIndex := 290, descriptorIndex := 25, attributes := #[] }, { accessFlags := 25, nameIndex := 292, descriptorIndex := 25, attributes := #[] }, { accessFlags := 26, nameIndex := 108, descriptorIndex := 109, attributes := #[] }, { accessFlags := 25, nameIndex := 294, descriptorIndex := 25, attributes := #[] }])
  fields := #[{ name := "U", type := (.object "jdk/internal/misc/Unsafe"), accessFlags := 24, slot := 0, constantValue := 0 }, { name := "BIG_ENDIAN", type := .boolean, accessFlags := 26, slot := 1, constantValue := 0 }, { name := "LOG2_ARRAY_BOOLEAN_INDEX_SCALE", type := .int, accessFlags := 25, slot := 2, constantValue := 0 }, { name := "LOG2_ARRAY_BYTE_INDEX_SCALE", type := .int, accessFlags := 25, slot := 3, constantValue := 0 }, { name := "LOG2_ARRAY_CHAR_INDEX_SCALE", type := .int, accessFlags := 25, slot := 4, constantValue := 0 }, { name := "LOG2_ARRAY_SHORT_INDEX_SCALE", type := .int, accessFlags := 25, slot := 5, constantValue := 0 }, { name := "LOG2_ARRAY_INT_INDEX_SCALE", type := .int, accessFlags := 25, slot := 6, constantValue := 0 }, { name := "LOG2_ARRAY_LONG_INDEX_SCALE", type := .int, accessFlags := 25, slot := 7, constantValue := 0 }, { name := "LOG2_ARRAY_FLOAT_INDEX_SCALE", type := .int, accessFlags := 25, slot := 8, constantValue := 0 }, { name := "LOG2_ARRAY_DOUBLE_INDEX_SCALE", type := .int, accessFlags := 25, slot := 9, constantValue := 0 }, { name := "LOG2_BYTE_BIT_SIZE", type := .int, accessFlags := 26, slot := 10, constantValue := 0 }, { name := "T_BOOLEAN", type := .int, accessFlags := 25, slot := 11, constantValue := 0 }, { name := "T_CHAR", type := .int, accessFlags := 25, slot := 12, constantValue := 0 }, { name := "T_FLOAT", type := .int, accessFlags := 25, slot := 13, constantValue := 0 }, { name := "T_DOUBLE", type := .int, accessFlags := 25, slot := 14, constantValue := 0 }, { name := "T_BYTE", type := .int, accessFlags := 25, slot := 15, constantValue := 0 }, { name := "T_SHORT", type := .int, accessFlags := 25, slot := 16, constantValue := 0 }, { name := "T_INT", type := .int, accessFlags := 25, slot := 17, constantValue := 0 }, { name := "T_LONG", type := .int, accessFlags := 25, slot := 18, constantValue := 0 }, { name := "JLA", type := (.object "jdk/internal/access/JavaLangAccess"), accessFlags := 26, slot := 19, constantValue := 0 }, { name := "SOFT_MAX_ARRAY_LENGTH", type := .int, accessFlags := 25, slot := 20, constantValue := 0 }]
  methods := #[k13m0]
  instanceTypes := #[]
  staticTypes := #[(.object "jdk/internal/misc/Unsafe"), .boolean, .int, .int, .int, .int, .int, .int, .int, .int, .int, .int, .int, .int, .int, .int, .int, .int, .int, (.object "jdk/internal/access/JavaLangAccess"), .int]
  resolved := Array.replicate 378 none
  statics := none }

def pool14 : Array CpInfo := pool [(1, u "java/lang/Cloneable"), (0, .class_ 1), (0, u "java/lang/Object"), (0, .class_ 3)] 3

/-- java/lang/Cloneable -/
def k14 : Class := { plain "java/lang/Cloneable" (some 0) with
  accessFlags := 1537
  interfaces := #[]
  cf := some (fileOf pool14 2 #[] #[] 1537 4 #[] #[])
  fields := #[]
  methods := #[]
  instanceTypes := #[]
  staticTypes := #[]
  resolved := Array.replicate 8 none
  statics := none }

/-- the primitive byte -/
def k15 : Class := { plain "byte" none with kind := .primitive 'B', accessFlags := 0x411 }
/-- [B -/
def k16 : Class := { plain "[B" (some 0) with kind := .array 15 .byte, interfaces := #[14, 2], accessFlags := 1041 }

/-- the primitive char -/
def k17 : Class := { plain "char" none with kind := .primitive 'C', accessFlags := 0x411 }
/-- [C -/
def k18 : Class := { plain "[C" (some 0) with kind := .array 17 .char, interfaces := #[14, 2], accessFlags := 1041 }

/-- the primitive int -/
def k19 : Class := { plain "int" none with kind := .primitive 'I', accessFlags := 0x411 }
/-- [I -/
def k20 : Class := { plain "[I" (some 0) with kind := .array 19 .int, interfaces := #[14, 2], accessFlags := 1041 }

def heap : Heap := #[{ cls := 7, slots := #[.long 0, .int 1, .null, .int 0, .null, .int 0, .int 0], vm := .statics 7 },
  { cls := 9, slots := #[.int 0, .int 8, .int 0, .int 1], vm := .statics 9 },
  { cls := 11, slots := #[.null, .null, .null], vm := .statics 11 }]
def classes : Array Class := #[k0, k1, k2, k3, k4, k5, k6, k7, k8, k9, k10, k11, k12, k13, k14, k15, k16, k17, k18, k19, k20]
def interned : List (Array UInt16 × Addr) := []
def slotsUsed : Nat := 14
def theMethod : MethodId := ⟨1, 5⟩
def args0 : Array Value := #[.int 4, .int 5, .int 6, .int 7, .int 8]
def aboutOver (below : List Frame) : State where
  vm := { classes := classes, interned := interned.toArray }
  heap := heap
  slotsUsed := slotsUsed
  threads := #[{ frames := .invoking theMethod args0 :: below }]
def below0 : List Frame := [.native { method := ⟨0, 0⟩, args := #[] }]
def about1 : State := aboutOver below0
def p0 : Program := .bare "" "" ""
def e0 : Env := launch0.env 0 0 0
theorem w_frames : about1.frames = Frame.invoking theMethod args0 :: below0 := rfl
set_option maxRecDepth 65536 in
theorem w_args : argsFit about1.vm theMethod args0 = true := by decide +kernel
set_option maxRecDepth 65536 in
theorem w_heap : heapFits about1 = true := by decide +kernel
set_option maxRecDepth 65536 in
theorem w_runnable : about1.curStatus? = some .runnable := by decide +kernel
set_option maxRecDepth 65536 in
theorem w_alone : about1.alone = true := by decide +kernel
set_option maxRecDepth 65536 in
theorem w_named : about1.methodNamed? x = some theMethod := by decide +kernel
set_option maxRecDepth 65536 in
theorem w_hears : about1.hears theMethod below0 = true := by decide +kernel
set_option maxRecDepth 65536 in
theorem w_ripe : about1.ripe theMethod args0 below0 = true := by decide +kernel
theorem w_running : about1.status = .running := rfl
set_option maxRecDepth 65536 in
theorem w_room : about1.hasRoom e0.platform room_1 = true :=
  launch0.hasRoom_least _ room_1 (by decide +kernel) (by decide +kernel) (by decide +kernel) (by decide +kernel) (by decide +kernel) (by decide +kernel)
theorem allAtoms_all (ts : List Jvm.Cond) (a : Array Jvm.Value) (st : Jvm.State) : (allAtoms ts).before a st = ts.all (fun c => c.before a st) := by
  induction ts with
  | nil => rfl
  | cons c t ih =>
    show (Jvm.Cond.and c (allAtoms t)).before a st = _
    rw [Jvm.Cond.before_and, ih, List.all_cons]
def words1 : List Jvm.Cond := Jvm.Cond.code x code maxLocals ret :: tables_1
/-- a 'code' word, met by the world's own term for the bytes: nothing is compared byte by byte -/
theorem code_word {y : MethodName} {bytes : ByteArray} {mx : Nat} {rt : Option FieldType} {a : Array Value} {s : State} {m : MethodId} {meth : Method} {c : Code} (h1 : s.methodNamed? y = some m) (h2 : s.vm.method? m = some meth) (h3 : meth.code = some c) (h4 : c.code = bytes)
    (h5 : (c.maxLocals == mx && c.exceptionTable.isEmpty && decide (c.maxStack ≤ mostOperands) && decide (meth.sig.returnType = rt) && !meth.locks && decide (parseMethodDescriptor y.desc = some meth.sig)) = true) : (Jvm.Cond.code y bytes mx rt).before a s = true := by
  simp only [Bool.and_eq_true, beq_iff_eq, Bool.not_eq_true', decide_eq_true_eq] at h5
  obtain ⟨⟨⟨⟨⟨g1, g2⟩, g3⟩, g4⟩, g5⟩, g6⟩ := h5
  simp [Cond.before, Cond.holds, Cond.value, h1, h2, h3, h4, g1, g2, g3, g4, g5, g6]
def isCode : Jvm.Cond → Bool
  | .code _ _ _ _ => true
  | _ => false
theorem all_split {L : List Jvm.Cond} {P : Jvm.Cond → Bool} (h1 : L.all (fun c => isCode c || P c) = true) (h2 : ∀ c ∈ L.filter isCode, P c = true) : L.all P = true := by
  refine List.all_eq_true.mpr fun c hc => ?_
  have h := List.all_eq_true.mp h1 c hc
  rcases Bool.eq_false_or_eq_true (isCode c) with hi | hi
  · exact h2 c (List.mem_filter.mpr ⟨hc, hi⟩)
  · simpa [hi] using h
set_option maxRecDepth 65536 in
theorem w_c0 : (Jvm.Cond.code x code maxLocals ret).before args0 about1 = true := code_word (m := ⟨1, 5⟩) (meth := k1m5) (c := k1c5) (by decide +kernel) rfl rfl rfl (by decide +kernel)
set_option maxRecDepth 65536 in
theorem w_c1 : (Jvm.Cond.code ({ cls := "com/example/winj/winj/storage/Utf8EncodesPinLaw", name := "draw", desc := "(I)C" } : Jvm.MethodName) method_2_code (1 : Nat) (Option.some Jvm.ClassFile.FieldType.char)).before args0 about1 = true := code_word (m := ⟨1, 1⟩) (meth := k1m1) (c := k1c1) (by decide +kernel) rfl rfl rfl (by decide +kernel)
set_option maxRecDepth 65536 in
theorem w_c2 : (Jvm.Cond.code ({ cls := "java/lang/String", name := "<init>", desc := "([C)V" } : Jvm.MethodName) jdk_42_method_3_code (2 : Nat) (Option.none : Option Jvm.ClassFile.FieldType)).before args0 about1 = true := code_word (m := ⟨7, 1⟩) (meth := k7m1) (c := k7c1) (by decide +kernel) rfl rfl rfl (by decide +kernel)
set_option maxRecDepth 65536 in
theorem w_c3 : (Jvm.Cond.code ({ cls := "java/lang/String", name := "<init>", desc := "([CIILjava/lang/Void;)V" } : Jvm.MethodName) jdk_42_method_149_code (6 : Nat) (Option.none : Option Jvm.ClassFile.FieldType)).before args0 about1 = true := code_word (m := ⟨7, 4⟩) (meth := k7m4) (c := k7c4) (by decide +kernel) rfl rfl rfl (by decide +kernel)
set_option maxRecDepth 65536 in
theorem w_c4 : (Jvm.Cond.code ({ cls := "java/lang/Object", name := "<init>", desc := "()V" } : Jvm.MethodName) object_method_1_code (1 : Nat) (Option.none : Option Jvm.ClassFile.FieldType)).before args0 about1 = true := code_word (m := ⟨0, 0⟩) (meth := k0m0) (c := k0c0) (by decide +kernel) rfl rfl rfl (by decide +kernel)
set_option maxRecDepth 65536 in
theorem w_c5 : (Jvm.Cond.code ({ cls := "com/example/winj/winj/storage/Utf8", name := "encodes", desc := "(Ljava/lang/String;)Z" } : Jvm.MethodName) prog_12_method_2_code (2 : Nat) (Option.some Jvm.ClassFile.FieldType.boolean)).before args0 about1 = true := code_word (m := ⟨8, 1⟩) (meth := k8m1) (c := k8c1) (by decide +kernel) rfl rfl rfl (by decide +kernel)
set_option maxRecDepth 65536 in
theorem w_c6 : (Jvm.Cond.code ({ cls := "java/lang/String", name := "length", desc := "()I" } : Jvm.MethodName) jdk_42_method_54_code (1 : Nat) (Option.some Jvm.ClassFile.FieldType.int)).before args0 about1 = true := code_word (m := ⟨7, 2⟩) (meth := k7m2) (c := k7c2) (by decide +kernel) rfl rfl rfl (by decide +kernel)
set_option maxRecDepth 65536 in
theorem w_c7 : (Jvm.Cond.code ({ cls := "java/lang/String", name := "coder", desc := "()B" } : Jvm.MethodName) jdk_42_method_152_code (1 : Nat) (Option.some Jvm.ClassFile.FieldType.byte)).before args0 about1 = true := code_word (m := ⟨7, 5⟩) (meth := k7m5) (c := k7c5) (by decide +kernel) rfl rfl rfl (by decide +kernel)
set_option maxRecDepth 65536 in
theorem w_c8 : (Jvm.Cond.code ({ cls := "java/lang/StringUTF16", name := "compress", desc := "([CII)[B" } : Jvm.MethodName) jdk_52_method_16_code (6 : Nat) (Option.some (Jvm.ClassFile.FieldType.array Jvm.ClassFile.FieldType.byte))).before args0 about1 = true := code_word (m := ⟨9, 8⟩) (meth := k9m8) (c := k9c8) (by decide +kernel) rfl rfl rfl (by decide +kernel)
set_option maxRecDepth 65536 in
theorem w_c9 : (Jvm.Cond.code ({ cls := "java/lang/StringUTF16", name := "compress", desc := "([CI[BII)I" } : Jvm.MethodName) jdk_52_method_21_code (7 : Nat) (Option.some Jvm.ClassFile.FieldType.int)).before args0 about1 = true := code_word (m := ⟨9, 9⟩) (meth := k9m9) (c := k9c9) (by decide +kernel) rfl rfl rfl (by decide +kernel)
set_option maxRecDepth 65536 in
theorem w_c10 : (Jvm.Cond.code ({ cls := "java/lang/StringUTF16", name := "coderFromArrayLen", desc := "([BI)B" } : Jvm.MethodName) jdk_52_method_15_code (2 : Nat) (Option.some Jvm.ClassFile.FieldType.byte)).before args0 about1 = true := code_word (m := ⟨9, 7⟩) (meth := k9m7) (c := k9c7) (by decide +kernel) rfl rfl rfl (by decide +kernel)
set_option maxRecDepth 65536 in
theorem w_c11 : (Jvm.Cond.code ({ cls := "com/example/winj/winj/storage/Utf8EncodesPinLaw", name := "unitOk", desc := "(CZCCZ)Z" } : Jvm.MethodName) method_5_code (5 : Nat) (Option.some Jvm.ClassFile.FieldType.boolean)).before args0 about1 = true := code_word (m := ⟨1, 4⟩) (meth := k1m4) (c := k1c4) (by decide +kernel) rfl rfl rfl (by decide +kernel)
set_option maxRecDepth 65536 in
theorem w_c12 : (Jvm.Cond.code ({ cls := "com/example/winj/winj/storage/Utf8EncodesPinLaw", name := "hi", desc := "(C)Z" } : Jvm.MethodName) method_3_code (1 : Nat) (Option.some Jvm.ClassFile.FieldType.boolean)).before args0 about1 = true := code_word (m := ⟨1, 2⟩) (meth := k1m2) (c := k1c2) (by decide +kernel) rfl rfl rfl (by decide +kernel)
set_option maxRecDepth 65536 in
theorem w_c13 : (Jvm.Cond.code ({ cls := "com/example/winj/winj/storage/Utf8EncodesPinLaw", name := "lo", desc := "(C)Z" } : Jvm.MethodName) method_4_code (1 : Nat) (Option.some Jvm.ClassFile.FieldType.boolean)).before args0 about1 = true := code_word (m := ⟨1, 3⟩) (meth := k1m3) (c := k1c3) (by decide +kernel) rfl rfl rfl (by decide +kernel)
set_option maxRecDepth 65536 in
theorem w_c14 : (Jvm.Cond.code ({ cls := "com/example/winj/winj/storage/Utf8", name := "pairAt", desc := "(Ljava/lang/String;I)Z" } : Jvm.MethodName) prog_12_method_4_code (2 : Nat) (Option.some Jvm.ClassFile.FieldType.boolean)).before args0 about1 = true := code_word (m := ⟨8, 2⟩) (meth := k8m2) (c := k8c2) (by decide +kernel) rfl rfl rfl (by decide +kernel)
set_option maxRecDepth 65536 in
theorem w_c15 : (Jvm.Cond.code ({ cls := "java/lang/String", name := "charAt", desc := "(I)C" } : Jvm.MethodName) jdk_42_method_56_code (2 : Nat) (Option.some Jvm.ClassFile.FieldType.char)).before args0 about1 = true := code_word (m := ⟨7, 3⟩) (meth := k7m3) (c := k7c3) (by decide +kernel) rfl rfl rfl (by decide +kernel)
set_option maxRecDepth 65536 in
theorem w_c16 : (Jvm.Cond.code ({ cls := "java/lang/String", name := "isLatin1", desc := "()Z" } : Jvm.MethodName) jdk_42_method_154_code (1 : Nat) (Option.some Jvm.ClassFile.FieldType.boolean)).before args0 about1 = true := code_word (m := ⟨7, 6⟩) (meth := k7m6) (c := k7c6) (by decide +kernel) rfl rfl rfl (by decide +kernel)
set_option maxRecDepth 65536 in
theorem w_c17 : (Jvm.Cond.code ({ cls := "java/lang/StringLatin1", name := "charAt", desc := "([BI)C" } : Jvm.MethodName) jdk_43_method_2_code (2 : Nat) (Option.some Jvm.ClassFile.FieldType.char)).before args0 about1 = true := code_word (m := ⟨10, 1⟩) (meth := k10m1) (c := k10c1) (by decide +kernel) rfl rfl rfl (by decide +kernel)
set_option maxRecDepth 65536 in
theorem w_c18 : (Jvm.Cond.code ({ cls := "java/lang/String", name := "checkIndex", desc := "(II)V" } : Jvm.MethodName) jdk_42_method_155_code (2 : Nat) (Option.none : Option Jvm.ClassFile.FieldType)).before args0 about1 = true := code_word (m := ⟨7, 7⟩) (meth := k7m7) (c := k7c7) (by decide +kernel) rfl rfl rfl (by decide +kernel)
set_option maxRecDepth 65536 in
theorem w_c19 : (Jvm.Cond.code ({ cls := "jdk/internal/util/Preconditions", name := "checkIndex", desc := "(IILjava/util/function/BiFunction;)I" } : Jvm.MethodName) jdk_41_method_11_code (3 : Nat) (Option.some Jvm.ClassFile.FieldType.int)).before args0 about1 = true := code_word (m := ⟨11, 1⟩) (meth := k11m1) (c := k11c1) (by decide +kernel) rfl rfl rfl (by decide +kernel)
set_option maxRecDepth 65536 in
theorem w_c20 : (Jvm.Cond.code ({ cls := "java/lang/Character", name := "isHighSurrogate", desc := "(C)Z" } : Jvm.MethodName) jdk_89_method_14_code (1 : Nat) (Option.some Jvm.ClassFile.FieldType.boolean)).before args0 about1 = true := code_word (m := ⟨12, 0⟩) (meth := k12m0) (c := k12c0) (by decide +kernel) rfl rfl rfl (by decide +kernel)
set_option maxRecDepth 65536 in
theorem w_c21 : (Jvm.Cond.code ({ cls := "java/lang/Character", name := "isSurrogate", desc := "(C)Z" } : Jvm.MethodName) jdk_89_method_16_code (1 : Nat) (Option.some Jvm.ClassFile.FieldType.boolean)).before args0 about1 = true := code_word (m := ⟨12, 2⟩) (meth := k12m2) (c := k12c2) (by decide +kernel) rfl rfl rfl (by decide +kernel)
set_option maxRecDepth 65536 in
theorem w_c22 : (Jvm.Cond.code ({ cls := "java/lang/StringUTF16", name := "toBytes", desc := "([CII)[B" } : Jvm.MethodName) jdk_52_method_14_code (5 : Nat) (Option.some (Jvm.ClassFile.FieldType.array Jvm.ClassFile.FieldType.byte))).before args0 about1 = true := code_word (m := ⟨9, 6⟩) (meth := k9m6) (c := k9c6) (by decide +kernel) rfl rfl rfl (by decide +kernel)
set_option maxRecDepth 65536 in
theorem w_c23 : (Jvm.Cond.code ({ cls := "java/lang/StringUTF16", name := "newBytesFor", desc := "(I)[B" } : Jvm.MethodName) jdk_52_method_2_code (1 : Nat) (Option.some (Jvm.ClassFile.FieldType.array Jvm.ClassFile.FieldType.byte))).before args0 about1 = true := code_word (m := ⟨9, 1⟩) (meth := k9m1) (c := k9c1) (by decide +kernel) rfl rfl rfl (by decide +kernel)
set_option maxRecDepth 65536 in
theorem w_c24 : (Jvm.Cond.code ({ cls := "java/lang/StringUTF16", name := "newBytesLength", desc := "(I)I" } : Jvm.MethodName) jdk_52_method_3_code (1 : Nat) (Option.some Jvm.ClassFile.FieldType.int)).before args0 about1 = true := code_word (m := ⟨9, 2⟩) (meth := k9m2) (c := k9c2) (by decide +kernel) rfl rfl rfl (by decide +kernel)
set_option maxRecDepth 65536 in
theorem w_c25 : (Jvm.Cond.code ({ cls := "java/lang/StringUTF16", name := "putChar", desc := "([BII)V" } : Jvm.MethodName) jdk_52_method_4_code (3 : Nat) (Option.none : Option Jvm.ClassFile.FieldType)).before args0 about1 = true := code_word (m := ⟨9, 3⟩) (meth := k9m3) (c := k9c3) (by decide +kernel) rfl rfl rfl (by decide +kernel)
set_option maxRecDepth 65536 in
theorem w_c26 : (Jvm.Cond.code ({ cls := "java/lang/StringUTF16", name := "getChar", desc := "([BI)C" } : Jvm.MethodName) jdk_52_method_5_code (2 : Nat) (Option.some Jvm.ClassFile.FieldType.char)).before args0 about1 = true := code_word (m := ⟨9, 4⟩) (meth := k9m4) (c := k9c4) (by decide +kernel) rfl rfl rfl (by decide +kernel)
set_option maxRecDepth 65536 in
theorem w_c27 : (Jvm.Cond.code ({ cls := "java/lang/StringUTF16", name := "charAt", desc := "([BI)C" } : Jvm.MethodName) jdk_52_method_83_code (2 : Nat) (Option.some Jvm.ClassFile.FieldType.char)).before args0 about1 = true := code_word (m := ⟨9, 10⟩) (meth := k9m10) (c := k9c10) (by decide +kernel) rfl rfl rfl (by decide +kernel)
set_option maxRecDepth 65536 in
theorem w_c28 : (Jvm.Cond.code ({ cls := "java/lang/StringUTF16", name := "checkIndex", desc := "(I[B)V" } : Jvm.MethodName) jdk_52_method_91_code (2 : Nat) (Option.none : Option Jvm.ClassFile.FieldType)).before args0 about1 = true := code_word (m := ⟨9, 11⟩) (meth := k9m11) (c := k9c11) (by decide +kernel) rfl rfl rfl (by decide +kernel)
set_option maxRecDepth 65536 in
theorem w_c29 : (Jvm.Cond.code ({ cls := "java/lang/StringUTF16", name := "length", desc := "([B)I" } : Jvm.MethodName) jdk_52_method_6_code (1 : Nat) (Option.some Jvm.ClassFile.FieldType.int)).before args0 about1 = true := code_word (m := ⟨9, 5⟩) (meth := k9m5) (c := k9c5) (by decide +kernel) rfl rfl rfl (by decide +kernel)
set_option maxRecDepth 65536 in
theorem w_c30 : (Jvm.Cond.code ({ cls := "java/lang/Character", name := "isLowSurrogate", desc := "(C)Z" } : Jvm.MethodName) jdk_89_method_15_code (1 : Nat) (Option.some Jvm.ClassFile.FieldType.boolean)).before args0 about1 = true := code_word (m := ⟨12, 1⟩) (meth := k12m1) (c := k12c1) (by decide +kernel) rfl rfl rfl (by decide +kernel)
def codes1 : List Jvm.Cond := [Jvm.Cond.code x code maxLocals ret, Jvm.Cond.code ({ cls := "com/example/winj/winj/storage/Utf8EncodesPinLaw", name := "draw", desc := "(I)C" } : Jvm.MethodName) method_2_code (1 : Nat) (Option.some Jvm.ClassFile.FieldType.char), Jvm.Cond.code ({ cls := "java/lang/String", name := "<init>", desc := "([C)V" } : Jvm.MethodName) jdk_42_method_3_code (2 : Nat) (Option.none : Option Jvm.ClassFile.FieldType), Jvm.Cond.code ({ cls := "java/lang/String", name := "<init>", desc := "([CIILjava/lang/Void;)V" } : Jvm.MethodName) jdk_42_method_149_code (6 : Nat) (Option.none : Option Jvm.ClassFile.FieldType), Jvm.Cond.code ({ cls := "java/lang/Object", name := "<init>", desc := "()V" } : Jvm.MethodName) object_method_1_code (1 : Nat) (Option.none : Option Jvm.ClassFile.FieldType), Jvm.Cond.code ({ cls := "com/example/winj/winj/storage/Utf8", name := "encodes", desc := "(Ljava/lang/String;)Z" } : Jvm.MethodName) prog_12_method_2_code (2 : Nat) (Option.some Jvm.ClassFile.FieldType.boolean), Jvm.Cond.code ({ cls := "java/lang/String", name := "length", desc := "()I" } : Jvm.MethodName) jdk_42_method_54_code (1 : Nat) (Option.some Jvm.ClassFile.FieldType.int), Jvm.Cond.code ({ cls := "java/lang/String", name := "coder", desc := "()B" } : Jvm.MethodName) jdk_42_method_152_code (1 : Nat) (Option.some Jvm.ClassFile.FieldType.byte), Jvm.Cond.code ({ cls := "java/lang/StringUTF16", name := "compress", desc := "([CII)[B" } : Jvm.MethodName) jdk_52_method_16_code (6 : Nat) (Option.some (Jvm.ClassFile.FieldType.array Jvm.ClassFile.FieldType.byte)), Jvm.Cond.code ({ cls := "java/lang/StringUTF16", name := "compress", desc := "([CI[BII)I" } : Jvm.MethodName) jdk_52_method_21_code (7 : Nat) (Option.some Jvm.ClassFile.FieldType.int), Jvm.Cond.code ({ cls := "java/lang/StringUTF16", name := "coderFromArrayLen", desc := "([BI)B" } : Jvm.MethodName) jdk_52_method_15_code (2 : Nat) (Option.some Jvm.ClassFile.FieldType.byte), Jvm.Cond.code ({ cls := "com/example/winj/winj/storage/Utf8EncodesPinLaw", name := "unitOk", desc := "(CZCCZ)Z" } : Jvm.MethodName) method_5_code (5 : Nat) (Option.some Jvm.ClassFile.FieldType.boolean), Jvm.Cond.code ({ cls := "com/example/winj/winj/storage/Utf8EncodesPinLaw", name := "hi", desc := "(C)Z" } : Jvm.MethodName) method_3_code (1 : Nat) (Option.some Jvm.ClassFile.FieldType.boolean), Jvm.Cond.code ({ cls := "com/example/winj/winj/storage/Utf8EncodesPinLaw", name := "lo", desc := "(C)Z" } : Jvm.MethodName) method_4_code (1 : Nat) (Option.some Jvm.ClassFile.FieldType.boolean), Jvm.Cond.code ({ cls := "com/example/winj/winj/storage/Utf8", name := "pairAt", desc := "(Ljava/lang/String;I)Z" } : Jvm.MethodName) prog_12_method_4_code (2 : Nat) (Option.some Jvm.ClassFile.FieldType.boolean), Jvm.Cond.code ({ cls := "java/lang/String", name := "charAt", desc := "(I)C" } : Jvm.MethodName) jdk_42_method_56_code (2 : Nat) (Option.some Jvm.ClassFile.FieldType.char), Jvm.Cond.code ({ cls := "java/lang/String", name := "isLatin1", desc := "()Z" } : Jvm.MethodName) jdk_42_method_154_code (1 : Nat) (Option.some Jvm.ClassFile.FieldType.boolean), Jvm.Cond.code ({ cls := "java/lang/StringLatin1", name := "charAt", desc := "([BI)C" } : Jvm.MethodName) jdk_43_method_2_code (2 : Nat) (Option.some Jvm.ClassFile.FieldType.char), Jvm.Cond.code ({ cls := "java/lang/String", name := "checkIndex", desc := "(II)V" } : Jvm.MethodName) jdk_42_method_155_code (2 : Nat) (Option.none : Option Jvm.ClassFile.FieldType), Jvm.Cond.code ({ cls := "jdk/internal/util/Preconditions", name := "checkIndex", desc := "(IILjava/util/function/BiFunction;)I" } : Jvm.MethodName) jdk_41_method_11_code (3 : Nat) (Option.some Jvm.ClassFile.FieldType.int), Jvm.Cond.code ({ cls := "java/lang/Character", name := "isHighSurrogate", desc := "(C)Z" } : Jvm.MethodName) jdk_89_method_14_code (1 : Nat) (Option.some Jvm.ClassFile.FieldType.boolean), Jvm.Cond.code ({ cls := "java/lang/Character", name := "isSurrogate", desc := "(C)Z" } : Jvm.MethodName) jdk_89_method_16_code (1 : Nat) (Option.some Jvm.ClassFile.FieldType.boolean), Jvm.Cond.code ({ cls := "java/lang/StringUTF16", name := "toBytes", desc := "([CII)[B" } : Jvm.MethodName) jdk_52_method_14_code (5 : Nat) (Option.some (Jvm.ClassFile.FieldType.array Jvm.ClassFile.FieldType.byte)), Jvm.Cond.code ({ cls := "java/lang/StringUTF16", name := "newBytesFor", desc := "(I)[B" } : Jvm.MethodName) jdk_52_method_2_code (1 : Nat) (Option.some (Jvm.ClassFile.FieldType.array Jvm.ClassFile.FieldType.byte)), Jvm.Cond.code ({ cls := "java/lang/StringUTF16", name := "newBytesLength", desc := "(I)I" } : Jvm.MethodName) jdk_52_method_3_code (1 : Nat) (Option.some Jvm.ClassFile.FieldType.int), Jvm.Cond.code ({ cls := "java/lang/StringUTF16", name := "putChar", desc := "([BII)V" } : Jvm.MethodName) jdk_52_method_4_code (3 : Nat) (Option.none : Option Jvm.ClassFile.FieldType), Jvm.Cond.code ({ cls := "java/lang/StringUTF16", name := "getChar", desc := "([BI)C" } : Jvm.MethodName) jdk_52_method_5_code (2 : Nat) (Option.some Jvm.ClassFile.FieldType.char), Jvm.Cond.code ({ cls := "java/lang/StringUTF16", name := "charAt", desc := "([BI)C" } : Jvm.MethodName) jdk_52_method_83_code (2 : Nat) (Option.some Jvm.ClassFile.FieldType.char), Jvm.Cond.code ({ cls := "java/lang/StringUTF16", name := "checkIndex", desc := "(I[B)V" } : Jvm.MethodName) jdk_52_method_91_code (2 : Nat) (Option.none : Option Jvm.ClassFile.FieldType), Jvm.Cond.code ({ cls := "java/lang/StringUTF16", name := "length", desc := "([B)I" } : Jvm.MethodName) jdk_52_method_6_code (1 : Nat) (Option.some Jvm.ClassFile.FieldType.int), Jvm.Cond.code ({ cls := "java/lang/Character", name := "isLowSurrogate", desc := "(C)Z" } : Jvm.MethodName) jdk_89_method_15_code (1 : Nat) (Option.some Jvm.ClassFile.FieldType.boolean)]
set_option maxRecDepth 65536 in
theorem codes_eq : words1.filter isCode = codes1 := rfl
theorem w_codes : ∀ c ∈ words1.filter isCode, c.before args0 about1 = true := by
  rw [codes_eq]
  intro c hc
  simp only [codes1, List.mem_cons, List.not_mem_nil, or_false] at hc
  rcases hc with rfl | rfl | rfl | rfl | rfl | rfl | rfl | rfl | rfl | rfl | rfl | rfl | rfl | rfl | rfl | rfl | rfl | rfl | rfl | rfl | rfl | rfl | rfl | rfl | rfl | rfl | rfl | rfl | rfl | rfl | rfl
  · exact w_c0
  · exact w_c1
  · exact w_c2
  · exact w_c3
  · exact w_c4
  · exact w_c5
  · exact w_c6
  · exact w_c7
  · exact w_c8
  · exact w_c9
  · exact w_c10
  · exact w_c11
  · exact w_c12
  · exact w_c13
  · exact w_c14
  · exact w_c15
  · exact w_c16
  · exact w_c17
  · exact w_c18
  · exact w_c19
  · exact w_c20
  · exact w_c21
  · exact w_c22
  · exact w_c23
  · exact w_c24
  · exact w_c25
  · exact w_c26
  · exact w_c27
  · exact w_c28
  · exact w_c29
  · exact w_c30
set_option maxRecDepth 65536 in
theorem w_t1 : (words1.take 24).all (fun c => isCode c || c.before args0 about1) = true := by decide +kernel
set_option maxRecDepth 65536 in
theorem w_t2 : ((words1.drop 24).take 24).all (fun c => isCode c || c.before args0 about1) = true := by decide +kernel
set_option maxRecDepth 65536 in
theorem w_t3 : (((words1.drop 24).drop 24).take 24).all (fun c => isCode c || c.before args0 about1) = true := by decide +kernel
set_option maxRecDepth 65536 in
theorem w_t4 : ((((words1.drop 24).drop 24).drop 24).take 24).all (fun c => isCode c || c.before args0 about1) = true := by decide +kernel
set_option maxRecDepth 65536 in
theorem w_t5 : (((((words1.drop 24).drop 24).drop 24).drop 24).take 24).all (fun c => isCode c || c.before args0 about1) = true := by decide +kernel
set_option maxRecDepth 65536 in
theorem w_t6 : (((((words1.drop 24).drop 24).drop 24).drop 24).drop 24).all (fun c => isCode c || c.before args0 about1) = true := by decide +kernel
theorem w_tables : (allAtoms (Jvm.Cond.code x code maxLocals ret :: tables_1)).before args0 about1 = true := by
  rw [allAtoms_all]
  show words1.all (fun c => c.before args0 about1) = true
  refine all_split ?_ w_codes
  rw [← List.take_append_drop 24 words1, List.all_append, w_t1, ← List.take_append_drop 24 (words1.drop 24), List.all_append, w_t2, ← List.take_append_drop 24 ((words1.drop 24).drop 24), List.all_append, w_t3, ← List.take_append_drop 24 (((words1.drop 24).drop 24).drop 24), List.all_append, w_t4, ← List.take_append_drop 24 ((((words1.drop 24).drop 24).drop 24).drop 24), List.all_append, w_t5, w_t6]
  rfl
set_option maxRecDepth 65536 in
theorem w_rest : rest_1_c.before args0 about1 = true := by decide +kernel
set_option maxRecDepth 65536 in
theorem w_case : (Jvm.Cond.and given_1 narrow_1).before args0 about1 = true := by decide +kernel
set_option maxRecDepth 65536 in
theorem w_consts : constsHeld consts_1 about1 := Jvm.Lit.constsHeldB_iff.mp (by decide +kernel)
theorem w_applies : (headSpec (Jvm.Cond.code x code maxLocals ret :: tables_1) room_1).applies x e0.platform about1 = true :=
  (Spec.applies_iff w_frames).mpr ⟨w_running, w_runnable, w_alone, w_named, w_hears, w_ripe, w_room, w_tables⟩
theorem atStart : AtStart classFile x code maxLocals ret World_1 tables_1 room_1 Calls_1 rest_1 Pre_1 launch0 p0 e0 about1 theMethod args0 below0 :=
  ⟨lists_1, trivial, launch0.admits_env _ _ _, launch0.least_env, fairChoices_fair.cas, fairChoices_fair.clock, w_frames, w_args, w_heap, w_applies, ⟨w_consts, trivial⟩, w_rest, w_case⟩
end start1
theorem witness_1 : WitnessClaimed_1 := ⟨start1.p0, start1.e0, start1.about1, start1.theMethod, start1.args0, start1.below0, start1.atStart⟩
end Jvm.Pilot.@@N@@
