import JvmDerived
import JvmDerived.Pilot.@@N@@Statement
import JvmDerived.Pilot.@@N@@Code
set_option linter.unusedVariables false
set_option linter.unusedSimpArgs false
@@BLOCK:NumsL.lean.txt@@
namespace Jvm.Pilot.@@N@@
open Jvm Jvm.ClassFile Sem Op Lib Jvm.Free Jvm.Stand Jvm.LawKit Jvm.RoadKit Bundle Jvm.Pilot.@@N@@.Jvm.D
/-! ## Our kit: from a frame the run comes to an end of which Q speaks -/
def Ends (p : Program) (e : Env) (below : List Frame) (s : State) (C S : Nat) (Q : Option Value → Heap → List Loc → Prop) (T : State) (g : JFrame) : Prop :=
  ∃ s₂ o, Steps p.tables e below (T.setTop g) s₂ ∧ s₂.status = .running ∧ Ended s₂ below o ∧ ∃ v L, o = .returned v ∧ Q v s₂.heap L ∧ FrameEnd s o s₂ L C S
abbrev Pays (l : Launch) (y : MethodName) (bytes : ByteArray) (maxL : Nat) (rt : Option FieldType) (ws : List Jvm.Cond) (rm : Room) (as : Array Value) (Z : State) (h0 : Heap) (Q : Option Value → Heap → List Loc → Prop) : Prop :=
  MetFree l y (head1 (Jvm.Cond.code y bytes maxL rt :: ws) rm) (fun a U => a = as ∧ Z.Warmed39 U.vm ∧ U.heap = h0) (fun _ _ _ _ _ => True) (fun _ U o U' => ∃ v L, o = .returned v ∧ Q v U'.heap L ∧ FrameEnd U o U' L rm.cells rm.slots)
section Kit
variable {p : Program} {l : Launch} {e : Env} {R : Room} {s : State} {m : MethodId} {args : Array Value} {below : List Frame} {meth : Method} {c : Code} {T T' : State} {locs : List Loc} {cells slots : Nat} {Z : State} {h h' h0 : Heap} {C S : Nat} {Q : Option Value → Heap → List Loc → Prop} {g g' : JFrame} {pc : Nat} {Ls : Array Slot} {rest : List Value}
theorem Ends.to (k : ∀ t, Steps p.tables e below (T'.setTop g') t → Steps p.tables e below (T.setTop g) t) (q : Ends p e below s C S Q T' g') : Ends p e below s C S Q T g := by
  obtain ⟨s₂, o, st, r⟩ := q
  exact ⟨s₂, o, k _ st, r⟩
theorem Ends.cast (k : g = g') (q : Ends p e below s C S Q T g') : Ends p e below s C S Q T g := k ▸ q
theorem Ends.retI {z : Int32} (X : Stand p l e R s m args below meth c T locs cells slots) (hx : p.tables.exec = Jvm.exec) (hret : meth.sig.returnType = some .int) (hd : decode c.code pc = .ok (.ireturn, 1)) (hlk : meth.locks = false) (hc : cells ≤ C) (hs : slots ≤ S) (q : Q (some (.int z)) T.heap locs) :
    Ends p e below s C S Q T (mkF m pc Ls (.int z :: rest)) := by
  obtain ⟨fs, hr, hrun, hended, hW, hsame⟩ := X.leave (v := some (.int z)) (fun h => by rw [hret] at h; cases h) hlk
  refine ⟨_, _, ?_, hrun, hended, _, _, rfl, q, ⟨_, rfl⟩, hW, hsame.mono hc hs⟩
  have hm' : T.vm.method? m = some meth := X.method'
  have hn : narrow .int (.int z) = .int z := rfl
  show Steps p.tables e below (T.setTop { method := m, pc := pc, locals := Ls, stack := _ :: rest, locked := none }) _
  jvm_step X.here [X.here.top, hx, hd, hm', hret, hn]
  first | (intro acts; rw [hr _ acts rfl rfl rfl]) | rw [hr _ _ rfl rfl rfl]
  exact Steps.refl _
theorem Ends.retN {z : Int32} {t : FieldType} (ht : t = .boolean ∨ t = .byte ∨ t = .char ∨ t = .short) (X : Stand p l e R s m args below meth c T locs cells slots) (hx : p.tables.exec = Jvm.exec) (hret : meth.sig.returnType = some t) (hd : decode c.code pc = .ok (.ireturn, 1)) (hlk : meth.locks = false) (hc : cells ≤ C) (hs : slots ≤ S) (q : Q (some (.int (nar t z))) T.heap locs) :
    Ends p e below s C S Q T (mkF m pc Ls (.int z :: rest)) := by
  obtain ⟨fs, hr, hrun, hended, hW, hsame⟩ := X.leave (v := some (.int (nar t z))) (fun h => by rw [hret] at h; cases h) hlk
  exact ⟨_, _, Jvm.RoadKit.retN X hx hret ht hd hr, hrun, hended, _, _, rfl, q, ⟨_, rfl⟩, hW, hsame.mono hc hs⟩
theorem Ends.retJ {z : Int64} (X : Stand p l e R s m args below meth c T locs cells slots) (hx : p.tables.exec = Jvm.exec) (hret : meth.sig.returnType = some .long) (hd : decode c.code pc = .ok (.lreturn, 1)) (hlk : meth.locks = false) (hc : cells ≤ C) (hs : slots ≤ S) (q : Q (some (.long z)) T.heap locs) :
    Ends p e below s C S Q T (mkF m pc Ls [.long z]) := by
  obtain ⟨fs, hr, hrun, hended, hW, hsame⟩ := X.leave (v := some (.long z)) (fun h => by rw [hret] at h; cases h) hlk
  exact ⟨_, _, X.lreturnOut hx hret hd hr, hrun, hended, _, _, rfl, q, ⟨_, rfl⟩, hW, hsame.mono hc hs⟩
theorem Ends.retV (X : Stand p l e R s m args below meth c T locs cells slots) (hx : p.tables.exec = Jvm.exec) (hret : meth.sig.returnType = none) (hd : decode c.code pc = .ok (.return_, 1)) (hlk : meth.locks = false) (hc : cells ≤ C) (hs : slots ≤ S) (q : Q none T.heap locs) :
    Ends p e below s C S Q T (mkF m pc Ls []) := by
  obtain ⟨fs, hr, hrun, hended, hW, hsame⟩ := X.leave (v := none) (fun _ => rfl) hlk
  exact ⟨_, _, X.returnOut hx hret hd hr, hrun, hended, _, _, rfl, q, ⟨_, rfl⟩, hW, hsame.mono hc hs⟩
theorem Ends.retA {a : Addr} {t : FieldType} (X : Stand p l e R s m args below meth c T locs cells slots) (hx : p.tables.exec = Jvm.exec) (hret : meth.sig.returnType = some (.array t)) (hd : decode c.code pc = .ok (.areturn, 1)) (hlk : meth.locks = false) (hc : cells ≤ C) (hs : slots ≤ S) (q : Q (some (.ref a)) T.heap locs) :
    Ends p e below s C S Q T (mkF m pc Ls (.ref a :: rest)) := by
  obtain ⟨fs, hr, hrun, hended, hW, hsame⟩ := X.leave (v := some (.ref a)) (fun h => by rw [hret] at h; cases h) hlk
  refine ⟨_, _, ?_, hrun, hended, _, _, rfl, q, ⟨_, rfl⟩, hW, hsame.mono hc hs⟩
  have hm' : T.vm.method? m = some meth := X.method'
  show Steps p.tables e below (T.setTop { method := m, pc := pc, locals := Ls, stack := _ :: rest, locked := none }) _
  jvm_step X.here [X.here.top, hx, hd, hm', hret, Value.isRef, FieldType.isReference]
  first | (intro acts; rw [hr _ acts rfl rfl rfl]) | rw [hr _ _ rfl rfl rfl]
  exact Steps.refl _
theorem Pays.of {y : MethodName} {bytes : ByteArray} {maxL : Nat} {rt : Option FieldType} {ws : List Jvm.Cond} {rm : Room} {as : Array Value} (hp : plainFor y = true)
    (body : ∀ (p : Program) (e : Env) (s : State) (m : MethodId) (below : List Frame) (meth : Method) (c : Code) (s₁ : State), p.tables.exec = Jvm.exec → c.code = bytes → c.maxLocals = maxL → s.vm.findClass y.cls = some m.cls → meth.name = y.name → meth.sig.returnType = rt → meth.locks = false → Z.Warmed39 s.vm →
      Stand p l e rm s m as below meth c s₁ [] 0 0 → s₁.heap = h0 → Ends p e below s rm.cells rm.slots Q s₁ (entryFrame m as maxL)) : Pays l y bytes maxL rt ws rm as Z h0 Q := by
  refine MetFree.of_bodySF hp hisR ?_
  intro p e s m args below meth c s₁ Bd hml0 hP hK
  obtain ⟨rfl, hZ, hh⟩ := hP
  exact body p e s m below meth c s₁ Bd.exec Bd.bytes hml0 (findClass_of_methodNamed Bd.named) (name_of_methodNamed Bd.named Bd.method).1 Bd.returns Bd.notSynchronized hZ (Stand.of_body Bd) (by rw [← hh, Bd.state]; rfl)
/-! ## An array by its values -/
def BA (Z : State) (h : Heap) (a : Addr) (ty : FieldType) (n : Nat) (f : Nat → Value) : Prop := ∃ cl : Cell, Arr Z h a cl ty ∧ cl.slots.size = n ∧ ∀ j, j < n → cl.slots[j]? = some (f j)
abbrev BB (Z : State) (h : Heap) (a : Addr) (n : Nat) (f : Nat → Int32) : Prop := BA Z h a .byte n (fun j => .int (f j))
abbrev BL (Z : State) (h : Heap) (a : Addr) (n : Nat) (f : Nat → Int64) : Prop := BA Z h a .long n (fun j => .long (f j))
def upd {α : Type} (f : Nat → α) (i : Nat) (x : α) : Nat → α := fun j => if j = i then x else f j
theorem upd_same {α : Type} (f : Nat → α) (i : Nat) (x : α) : upd f i x i = x := if_pos rfl
theorem upd_ne {α : Type} (f : Nat → α) {i j : Nat} (x : α) (q : j ≠ i) : upd f i x j = f j := if_neg q
variable {a b : Addr} {ty : FieldType} {n i sl : Nat} {f : Nat → Value} {v : Value} {ws : List Addr} {j x z : Int32}
theorem BA.ext (E : Ext h h') (B : BA Z h a ty n f) : BA Z h' a ty n f := by obtain ⟨cl, A, r⟩ := B; exact ⟨cl, A.ext E, r⟩
theorem BA.other (W : Wr h h' a sl v) (B : BA Z h b ty n f) (q : b ≠ a) : BA Z h' b ty n f := by obtain ⟨cl, A, r⟩ := B; exact ⟨cl, A.other W q, r⟩
theorem BA.keep (B : BA Z h a ty n f) (K : Keep h h' ws) (q : a ∉ ws) : BA Z h' a ty n f := by obtain ⟨cl, A, r⟩ := B; exact ⟨cl, ⟨K.2.1 a cl A.1 q, A.2⟩, r⟩
theorem BA.lt (B : BA Z h a ty n f) : a < h.size := by obtain ⟨cl, A, r⟩ := B; exact A.lt
theorem BA.congr {f' : Nat → Value} (B : BA Z h a ty n f) (q : ∀ j, j < n → f j = f' j) : BA Z h a ty n f' := by obtain ⟨cl, A, s, r⟩ := B; exact ⟨cl, A, s, fun j hj => (r j hj).trans (congrArg some (q j hj))⟩
theorem BA.set (W : Wr h h' a i v) (B : BA Z h a ty n f) (hi : i < n) : BA Z h' a ty n (upd f i v) := by
  obtain ⟨cl, A, s, r⟩ := B
  refine ⟨cl.setSlot i v, A.same W, by simp [Cell.setSlot, s], fun j hj => ?_⟩
  show (cl.slots.setIfInBounds i v)[j]? = _
  by_cases e : j = i
  · subst e
    rw [upd_same, Array.getElem?_setIfInBounds_self_of_lt (by rw [s]; exact hi)]
  · rw [upd_ne _ _ e, Array.getElem?_setIfInBounds_ne (Ne.symm e)]
    exact r j hj
theorem BA.inb {cl : Cell} (s : cl.slots.size = n) (h0 : ¬ j < 0) (hi : j.toNatClampNeg = i) (hn : i < n) : ¬ (j < 0 ∨ cl.slots.size ≤ j.toNatClampNeg) := by
  rintro (q | q)
  · exact h0 q
  · rw [hi, s] at q; exact absurd hn (Nat.not_lt.mpr q)
theorem BA.stB {f : Nat → Int32} (X : Stand p l e R s m args below meth c T locs cells slots) (hx : p.tables.exec = Jvm.exec) (hZ : Z.Warmed39 s.vm) (eT : T.heap = h) (B : BB Z h a n f) (h0 : ¬ j < 0) (hi : j.toNatClampNeg = i) (hn : i < n) (hg : g.method = m) (hs : g.stack = .int x :: .int j :: .ref a :: rest) (hd : decode c.code g.pc = .ok (.bastore, 1)) :
    ∃ T' h', Stand p l e R s m args below meth c T' (locs ++ [⟨a, j.toNatClampNeg⟩]) cells slots ∧ T'.heap = h' ∧ Wr h h' a j.toNatClampNeg (.int (nar .byte x)) ∧ BB Z h' a n (upd f i x.toInt8.toInt32) ∧ ∀ target, Steps p.tables e below (T'.setTop { g with pc := g.pc + 1, stack := rest }) target → Steps p.tables e below (T.setTop g) target := by
  obtain ⟨cl, A, s, r⟩ := id B
  obtain ⟨T', h', X', e', W, st⟩ := Jvm.RoadKit.stB X hx hZ eT A (BA.inb s h0 hi hn) hg hs hd
  refine ⟨T', h', X', e', W, ?_, st⟩
  rw [hi] at W
  refine (BA.set W B hn).congr fun j _ => ?_
  by_cases e : j = i
  · subst e; rw [upd_same, upd_same]; rfl
  · rw [upd_ne _ _ e, upd_ne _ _ e]
theorem BA.stL {f : Nat → Int64} {x : Int64} (X : Stand p l e R s m args below meth c T locs cells slots) (hx : p.tables.exec = Jvm.exec) (hZ : Z.Warmed39 s.vm) (eT : T.heap = h) (B : BL Z h a n f) (h0 : ¬ j < 0) (hi : j.toNatClampNeg = i) (hn : i < n) (hg : g.method = m) (hs : g.stack = .long x :: .int j :: .ref a :: rest) (hd : decode c.code g.pc = .ok (.lastore, 1)) :
    ∃ T' h', Stand p l e R s m args below meth c T' (locs ++ [⟨a, j.toNatClampNeg⟩]) cells slots ∧ T'.heap = h' ∧ Wr h h' a j.toNatClampNeg (.long x) ∧ BL Z h' a n (upd f i x) ∧ ∀ target, Steps p.tables e below (T'.setTop { g with pc := g.pc + 1, stack := rest }) target → Steps p.tables e below (T.setTop g) target := by
  obtain ⟨cl, A, s, r⟩ := id B
  obtain ⟨T', h', X', e', W, st⟩ := Jvm.RoadKit.stJ X hx hZ eT A (BA.inb s h0 hi hn) hg hs hd
  refine ⟨T', h', X', e', W, ?_, st⟩
  rw [hi] at W
  refine (BA.set W B hn).congr fun j _ => ?_
  by_cases e : j = i
  · subst e; rw [upd_same, upd_same]
  · rw [upd_ne _ _ e, upd_ne _ _ e]
theorem BA.ldB {f : Nat → Int32} (X : Stand p l e R s m args below meth c T locs cells slots) (hx : p.tables.exec = Jvm.exec) (hZ : Z.Warmed39 s.vm) (eT : T.heap = h) (B : BB Z h a n f) (h0 : ¬ j < 0) (hi : j.toNatClampNeg = i) (hn : i < n) (hg : g.method = m) (hs : g.stack = .int j :: .ref a :: rest) (hd : decode c.code g.pc = .ok (.baload, 1)) (target : State)
    (k : Steps p.tables e below (T.setTop { g with pc := g.pc + 1, stack := .int (f i) :: rest }) target) : Steps p.tables e below (T.setTop g) target := by
  obtain ⟨cl, A, s, r⟩ := id B
  exact X.baloadBytes hx (j := j) (v := .int (f i)) (by rw [eT]; exact A.1) (State.isArrayOf_alike hZ.alike A.2.1) A.2.2 (BA.inb s h0 hi hn) (by rw [hi]; exact r i hn) hg hs hd target k
theorem BA.ldL {f : Nat → Int64} (X : Stand p l e R s m args below meth c T locs cells slots) (hx : p.tables.exec = Jvm.exec) (hZ : Z.Warmed39 s.vm) (eT : T.heap = h) (B : BL Z h a n f) (h0 : ¬ j < 0) (hi : j.toNatClampNeg = i) (hn : i < n) (hg : g.method = m) (hs : g.stack = .int j :: .ref a :: rest) (hd : decode c.code g.pc = .ok (.laload, 1)) (target : State)
    (k : Steps p.tables e below (T.setTop { g with pc := g.pc + 1, stack := .long (f i) :: rest }) target) : Steps p.tables e below (T.setTop g) target := by
  obtain ⟨cl, A, s, r⟩ := id B
  exact X.laload hx (j := j) (v := .long (f i)) (by rw [eT]; exact A.1) (State.isArrayOf_alike hZ.alike A.2.1) A.2.2 (BA.inb s h0 hi hn) (by rw [hi]; exact r i hn) hg hs hd target k
theorem BA.len (X : Stand p l e R s m args below meth c T locs cells slots) (hx : p.tables.exec = Jvm.exec) (hZ : Z.Warmed39 s.vm) (eT : T.heap = h) (B : BA Z h a ty n f) (hz : n.toInt32 = z) (hg : g.method = m) (hs : g.stack = .ref a :: rest) (hd : decode c.code g.pc = .ok (.arraylength, 1)) (target : State)
    (k : Steps p.tables e below (T.setTop { g with pc := g.pc + 1, stack := .int z :: rest }) target) : Steps p.tables e below (T.setTop g) target := by
  obtain ⟨cl, A, s, r⟩ := B
  exact X.arraylength hx (by rw [eT]; exact A.1) (State.isArrayOf_alike hZ.alike A.2.1) hg hs hd target (by rw [s, hz]; exact k)
theorem BA.freshB {k : ClassId} (A : Arr Z h a (newA k .byte z) .byte) (q : z.toNatClampNeg = n) : BB Z h a n (fun _ => 0) := by
  refine ⟨_, A, (sz_new _ _ _).trans q, fun j hj => ?_⟩
  have hj' : j < z.toNatClampNeg := by rw [q]; exact hj
  simp [newA, hj', defaultValue]
theorem BA.freshL {k : ClassId} (A : Arr Z h a (newA k .long z) .long) (q : z.toNatClampNeg = n) : BL Z h a n (fun _ => 0) := by
  refine ⟨_, A, (sz_new _ _ _).trans q, fun j hj => ?_⟩
  have hj' : j < z.toNatClampNeg := by rw [q]; exact hj
  simp [newA, hj', defaultValue]
end Kit
theorem d3_0 : decode jdk_30_method_1_code 0 = .ok (.aload_n 0, 1) := by decide +kernel
theorem d3_1 : decode jdk_30_method_1_code 1 = .ok (.invokespecial 1, 3) := by decide +kernel
theorem d3_4 : decode jdk_30_method_1_code 4 = .ok (.return_, 1) := by decide +kernel
theorem pn_3 : plainName "java/lang/Record" = true := by first | (simp [plainName, overriddenIn]; done) | decide +kernel
theorem pd_3 : parseMethodDescriptor "()V" = some ⟨[], none⟩ := by decide +kernel
theorem ef_3 (m : MethodId) (x0 : Addr) : entryFrame m #[(.ref x0)] 1 = mkF m 0 #[.val (.ref x0)] [] := by first | (simp [entryFrame, mkF, argsToLocals, Value.category]; done) | rfl
theorem d2_0 : decode prog_12_method_1_code 0 = .ok (.aload_n 0, 1) := by decide +kernel
theorem d2_1 : decode prog_12_method_1_code 1 = .ok (.invokespecial 1, 3) := by decide +kernel
theorem d2_4 : decode prog_12_method_1_code 4 = .ok (.aload_n 0, 1) := by decide +kernel
theorem d2_5 : decode prog_12_method_1_code 5 = .ok (.iload_n 1, 1) := by decide +kernel
theorem d2_6 : decode prog_12_method_1_code 6 = .ok (.putfield 7, 3) := by decide +kernel
theorem d2_9 : decode prog_12_method_1_code 9 = .ok (.aload_n 0, 1) := by decide +kernel
theorem d2_10 : decode prog_12_method_1_code 10 = .ok (.iload_n 2, 1) := by decide +kernel
theorem d2_11 : decode prog_12_method_1_code 11 = .ok (.putfield 13, 3) := by decide +kernel
theorem d2_14 : decode prog_12_method_1_code 14 = .ok (.return_, 1) := by decide +kernel
theorem pn_2 : plainName "com/example/coalesce/coalesce/CuckooTable$CountCoding" = true := by first | (simp [plainName, overriddenIn]; done) | decide +kernel
theorem pd_2 : parseMethodDescriptor "(II)V" = some ⟨[.int, .int], none⟩ := by decide +kernel
theorem ef_2 (m : MethodId) (x0 : Addr) (x1 : Int32) (x2 : Int32) : entryFrame m #[(.ref x0), (.int x1), (.int x2)] 3 = mkF m 0 #[.val (.ref x0), .val (.int x1), .val (.int x2)] [] := by first | (simp [entryFrame, mkF, argsToLocals, Value.category]; done) | rfl
theorem d6_0 : decode prog_12_method_4_code 0 = .ok (.lload_n 1, 1) := by decide +kernel
theorem d6_1 : decode prog_12_method_4_code 1 = .ok (.lconst 0, 1) := by decide +kernel
theorem d6_2 : decode prog_12_method_4_code 2 = .ok (.lcmp, 1) := by decide +kernel
theorem d6_3 : decode prog_12_method_4_code 3 = .ok (.ifCond .ne 11, 3) := by decide +kernel
theorem d6_6 : decode prog_12_method_4_code 6 = .ok (.aload_n 0, 1) := by decide +kernel
theorem d6_7 : decode prog_12_method_4_code 7 = .ok (.getfield 7, 3) := by decide +kernel
theorem d6_10 : decode prog_12_method_4_code 10 = .ok (.istore_n 3, 1) := by decide +kernel
theorem d6_11 : decode prog_12_method_4_code 11 = .ok (.goto 27, 3) := by decide +kernel
theorem d6_14 : decode prog_12_method_4_code 14 = .ok (.lload_n 1, 1) := by decide +kernel
theorem d6_15 : decode prog_12_method_4_code 15 = .ok (.aload_n 0, 1) := by decide +kernel
theorem d6_16 : decode prog_12_method_4_code 16 = .ok (.getfield 7, 3) := by decide +kernel
theorem d6_19 : decode prog_12_method_4_code 19 = .ok (.i2l, 1) := by decide +kernel
theorem d6_20 : decode prog_12_method_4_code 20 = .ok (.lcmp, 1) := by decide +kernel
theorem d6_21 : decode prog_12_method_4_code 21 = .ok (.ifCond .gt 14, 3) := by decide +kernel
theorem d6_24 : decode prog_12_method_4_code 24 = .ok (.aload_n 0, 1) := by decide +kernel
theorem d6_25 : decode prog_12_method_4_code 25 = .ok (.getfield 7, 3) := by decide +kernel
theorem d6_28 : decode prog_12_method_4_code 28 = .ok (.lload_n 1, 1) := by decide +kernel
theorem d6_29 : decode prog_12_method_4_code 29 = .ok (.l2i, 1) := by decide +kernel
theorem d6_30 : decode prog_12_method_4_code 30 = .ok (.isub, 1) := by decide +kernel
theorem d6_31 : decode prog_12_method_4_code 31 = .ok (.istore_n 3, 1) := by decide +kernel
theorem d6_32 : decode prog_12_method_4_code 32 = .ok (.goto 6, 3) := by decide +kernel
theorem d6_35 : decode prog_12_method_4_code 35 = .ok (.lload_n 1, 1) := by decide +kernel
theorem d6_36 : decode prog_12_method_4_code 36 = .ok (.l2i, 1) := by decide +kernel
theorem d6_37 : decode prog_12_method_4_code 37 = .ok (.istore_n 3, 1) := by decide +kernel
theorem d6_38 : decode prog_12_method_4_code 38 = .ok (.iload_n 3, 1) := by decide +kernel
theorem d6_39 : decode prog_12_method_4_code 39 = .ok (.ireturn, 1) := by decide +kernel
theorem pn_6 : plainName "com/example/coalesce/coalesce/CuckooTable$CountCoding" = true := by first | (simp [plainName, overriddenIn]; done) | decide +kernel
theorem pd_6 : parseMethodDescriptor "(J)I" = some ⟨[.long], some .int⟩ := by decide +kernel
theorem ef_6 (m : MethodId) (x0 : Addr) (x1 : Int64) : entryFrame m #[(.ref x0), (.long x1)] 4 = mkF m 0 #[.val (.ref x0), .val (.long x1), .second, .unset] [] := by first | (simp [entryFrame, mkF, argsToLocals, Value.category]; done) | rfl
theorem d5_0 : decode prog_12_method_3_code 0 = .ok (.iload_n 1, 1) := by decide +kernel
theorem d5_1 : decode prog_12_method_3_code 1 = .ok (.aload_n 0, 1) := by decide +kernel
theorem d5_2 : decode prog_12_method_3_code 2 = .ok (.getfield 7, 3) := by decide +kernel
theorem d5_5 : decode prog_12_method_3_code 5 = .ok (.if_icmp .ne 8, 3) := by decide +kernel
theorem d5_8 : decode prog_12_method_3_code 8 = .ok (.lconst 0, 1) := by decide +kernel
theorem d5_9 : decode prog_12_method_3_code 9 = .ok (.lstore_n 2, 1) := by decide +kernel
theorem d5_10 : decode prog_12_method_3_code 10 = .ok (.goto 25, 3) := by decide +kernel
theorem d5_13 : decode prog_12_method_3_code 13 = .ok (.iload_n 1, 1) := by decide +kernel
theorem d5_14 : decode prog_12_method_3_code 14 = .ok (.aload_n 0, 1) := by decide +kernel
theorem d5_15 : decode prog_12_method_3_code 15 = .ok (.getfield 7, 3) := by decide +kernel
theorem d5_18 : decode prog_12_method_3_code 18 = .ok (.if_icmp .ge 14, 3) := by decide +kernel
theorem d5_21 : decode prog_12_method_3_code 21 = .ok (.aload_n 0, 1) := by decide +kernel
theorem d5_22 : decode prog_12_method_3_code 22 = .ok (.getfield 7, 3) := by decide +kernel
theorem d5_25 : decode prog_12_method_3_code 25 = .ok (.iload_n 1, 1) := by decide +kernel
theorem d5_26 : decode prog_12_method_3_code 26 = .ok (.isub, 1) := by decide +kernel
theorem d5_27 : decode prog_12_method_3_code 27 = .ok (.i2l, 1) := by decide +kernel
theorem d5_28 : decode prog_12_method_3_code 28 = .ok (.lstore_n 2, 1) := by decide +kernel
theorem d5_29 : decode prog_12_method_3_code 29 = .ok (.goto 6, 3) := by decide +kernel
theorem d5_32 : decode prog_12_method_3_code 32 = .ok (.iload_n 1, 1) := by decide +kernel
theorem d5_33 : decode prog_12_method_3_code 33 = .ok (.i2l, 1) := by decide +kernel
theorem d5_34 : decode prog_12_method_3_code 34 = .ok (.lstore_n 2, 1) := by decide +kernel
theorem d5_35 : decode prog_12_method_3_code 35 = .ok (.lload_n 2, 1) := by decide +kernel
theorem d5_36 : decode prog_12_method_3_code 36 = .ok (.lreturn, 1) := by decide +kernel
theorem pn_5 : plainName "com/example/coalesce/coalesce/CuckooTable$CountCoding" = true := by first | (simp [plainName, overriddenIn]; done) | decide +kernel
theorem pd_5 : parseMethodDescriptor "(I)J" = some ⟨[.int], some .long⟩ := by decide +kernel
theorem ef_5 (m : MethodId) (x0 : Addr) (x1 : Int32) : entryFrame m #[(.ref x0), (.int x1)] 4 = mkF m 0 #[.val (.ref x0), .val (.int x1), .unset, .unset] [] := by first | (simp [entryFrame, mkF, argsToLocals, Value.category]; done) | rfl
theorem d1_0 : decode jdk_29_method_65_code 0 = .ok (.iload_n 0, 1) := by decide +kernel
theorem d1_1 : decode jdk_29_method_65_code 1 = .ok (.iload_n 1, 1) := by decide +kernel
theorem d1_2 : decode jdk_29_method_65_code 2 = .ok (.if_icmp .lt 7, 3) := by decide +kernel
theorem d1_5 : decode jdk_29_method_65_code 5 = .ok (.iload_n 0, 1) := by decide +kernel
theorem d1_6 : decode jdk_29_method_65_code 6 = .ok (.goto 4, 3) := by decide +kernel
theorem d1_9 : decode jdk_29_method_65_code 9 = .ok (.iload_n 1, 1) := by decide +kernel
theorem d1_10 : decode jdk_29_method_65_code 10 = .ok (.ireturn, 1) := by decide +kernel
theorem pd_1 : parseMethodDescriptor "(II)I" = some ⟨[.int, .int], some .int⟩ := by decide +kernel
theorem ef_1 (m : MethodId) (x0 : Int32) (x1 : Int32) : entryFrame m #[(.int x0), (.int x1)] 2 = mkF m 0 #[.val (.int x0), .val (.int x1)] [] := by first | (simp [entryFrame, mkF, argsToLocals, Value.category]; done) | rfl
theorem pn_0 : plainName "com/example/coalesce/coalesce/CountCodingCodeOfPinLaw" = true := by first | (simp [plainName, overriddenIn]; done) | decide +kernel
theorem pd_0 : parseMethodDescriptor "(IIII)Z" = some ⟨[.int, .int, .int, .int], some .boolean⟩ := by decide +kernel
theorem ef_0 (m : MethodId) (x0 : Int32) (x1 : Int32) (x2 : Int32) (x3 : Int32) : entryFrame m #[(.int x0), (.int x1), (.int x2), (.int x3)] maxLocals = mkF m 0 #[.val (.int x0), .val (.int x1), .val (.int x2), .val (.int x3), .unset, .unset, .unset, .unset, .unset] [] := by first | (simp [entryFrame, mkF, argsToLocals, Value.category, maxLocals]; done) | rfl
set_option maxRecDepth 65536 in
set_option maxHeartbeats 40000000 in
def Q_rm3 (Z : State) (a1 : Addr) (h0 : Heap) (n0 : Nat) : Option Value → Heap → List Loc → Prop := fun v h L => v = none ∧ Fr n0 L ∧ h = h0
set_option maxRecDepth 65536 in
set_option maxHeartbeats 40000000 in
theorem rm3 (l : Launch) (Z : State) (a0 : Array Value) (hw : ∀ d ∈ tables_1, d.before a0 Z = true) (ws : List Jvm.Cond) (a1 : Addr) (h0 : Heap) (n0 : Nat) (Z0 : n0 ≤ h0.size) :
    Pays l (⟨"java/lang/Record", "<init>", "()V"⟩ : MethodName) jdk_30_method_1_code 1 none ws ({ frames := 1, cells := 0, slots := 0, locals := 12 } : Room) #[(.ref a1)] Z h0 (Q_rm3 Z a1 h0 n0) := by
  refine Pays.of (plainFor_of_name pn_3) ?_
  intro p e s m below meth c s₁ hx hby hml hown hnm hret hlk hZ X0 e0
  have hown : s.vm.findClass "java/lang/Record" = some m.cls := hown
  have hnm : meth.name = "<init>" := hnm
  have hml : c.maxLocals = 1 := hml
  show Ends p e below s _ _ (fun v h L => v = none ∧ Fr n0 L ∧ h = h0) s₁ _
  refine Ends.cast (ef_3 m a1) ?_
  have N0 := Fr.nil n0
  refine Ends.to (T' := s₁) (g' := (mkF m 1 #[.val (.ref a1)] [(.ref a1)])) (fun tt_ kk_ => XS.aloadN X0.here hx rfl (hb hby d3_0) rfl rfl kk_) ?_
  obtain ⟨T1, X1, e1, st1⟩ := initO X0 hx hZ hown (hw _ (List.mem_of_getElem? (i := 15) rfl)) (hw _ (List.mem_of_getElem? (i := 16) rfl)) (hw _ (List.mem_of_getElem? (i := 17) rfl)) e0 (g := (mkF m 1 #[.val (.ref a1)] [(.ref a1)])) rfl (by rw [hml]; rfl) rfl (hb hby d3_1) (by decide) (W := 0) (by show 2 * 0 + _ ≤ _; exact Nat.le_of_eq rfl) (by decide)
  refine Ends.to (T' := T1) (g' := (mkF m 4 #[.val (.ref a1)] [])) (fun tt_ kk_ => st1 tt_ kk_) ?_
  exact Ends.retV X1 hx hret (hb hby d3_4) hlk (by decide) (by decide) ⟨rfl, N0, e1⟩
set_option maxRecDepth 65536 in
set_option maxHeartbeats 40000000 in
def Q_rm2 (Z : State) (a1 : Addr) (p1 p2 : Int32) (h0 : Heap) (n0 : Nat) : Option Value → Heap → List Loc → Prop := fun v h L => v = none ∧ Fr n0 L ∧ Keep h0 h [a1] ∧ Exa Z h a1 "com/example/coalesce/coalesce/CuckooTable$CountCoding" ∧ Fld Z h a1 "com/example/coalesce/coalesce/CuckooTable$CountCoding" "pivot" "I" (.int p1) ∧ Fld Z h a1 "com/example/coalesce/coalesce/CuckooTable$CountCoding" "runRiceBits" "I" (.int p2)
set_option maxRecDepth 65536 in
set_option maxHeartbeats 40000000 in
theorem rm2 (l : Launch) (Z : State) (a0 : Array Value) (hw : ∀ d ∈ tables_1, d.before a0 Z = true) (ws : List Jvm.Cond) (a1 : Addr) (p1 p2 : Int32) (h0 : Heap) (n0 : Nat) (Z0 : n0 ≤ h0.size) (Fp : Fld Z h0 a1 "com/example/coalesce/coalesce/CuckooTable$CountCoding" "pivot" "I" (.int (0 : Int32))) (Fb : Fld Z h0 a1 "com/example/coalesce/coalesce/CuckooTable$CountCoding" "runRiceBits" "I" (.int (0 : Int32))) (E1 : Exa Z h0 a1 "com/example/coalesce/coalesce/CuckooTable$CountCoding") (g1 : n0 ≤ a1) :
    Pays l (⟨"com/example/coalesce/coalesce/CuckooTable$CountCoding", "<init>", "(II)V"⟩ : MethodName) prog_12_method_1_code 3 none ws ({ frames := 2, cells := 0, slots := 0, locals := 24 } : Room) #[(.ref a1), (.int p1), (.int p2)] Z h0 (Q_rm2 Z a1 p1 p2 h0 n0) := by
  refine Pays.of (plainFor_of_name pn_2) ?_
  intro p e s m below meth c s₁ hx hby hml hown hnm hret hlk hZ X0 e0
  have hown : s.vm.findClass "com/example/coalesce/coalesce/CuckooTable$CountCoding" = some m.cls := hown
  have hnm : meth.name = "<init>" := hnm
  have hml : c.maxLocals = 3 := hml
  show Ends p e below s _ _ (fun v h L => v = none ∧ Fr n0 L ∧ Keep h0 h [a1] ∧ Exa Z h a1 "com/example/coalesce/coalesce/CuckooTable$CountCoding" ∧ Fld Z h a1 "com/example/coalesce/coalesce/CuckooTable$CountCoding" "pivot" "I" (.int p1) ∧ Fld Z h a1 "com/example/coalesce/coalesce/CuckooTable$CountCoding" "runRiceBits" "I" (.int p2)) s₁ _
  refine Ends.cast (ef_2 m a1 p1 p2) ?_
  have N0 := Fr.nil n0
  have K1 := Keep.refl h0 [a1]
  refine Ends.to (T' := s₁) (g' := (mkF m 1 #[.val (.ref a1), .val (.int p1), .val (.int p2)] [(.ref a1)])) (fun tt_ kk_ => XS.aloadN X0.here hx rfl (hb hby d2_0) rfl rfl kk_) ?_
  obtain ⟨_, _, ⟨T2, L2, k2, n2⟩, -, X2, ⟨Lc2, hQ2, l2, y2, z2⟩, st2⟩ := X0.specialBack hx (y := (⟨"java/lang/Record", "<init>", "()V"⟩ : MethodName)) rfl hown (mvT hZ (hw _ (List.mem_of_getElem? (i := 10) rfl))) (mvT hZ (hw _ (List.mem_of_getElem? (i := 11) rfl))) (mvT hZ (hw _ (List.mem_of_getElem? (i := 14) rfl))) (by decide) (backOf (W := 0) (rm3 l Z a0 hw [] a1 h0 n0 Z0) hZ (hw _ (List.mem_of_getElem? (i := 14) rfl)) (hw _ (List.mem_of_getElem? (i := 13) rfl)) (by decide) (by decide)) (g := (mkF m 1 #[.val (.ref a1), .val (.int p1), .val (.int p2)] [(.ref a1)])) rfl (by rw [hml]; rfl) (Steps.refl _) (a := a1) (argsL := []) (rest := []) (lenOf pd_3 rfl) rfl (by show 2 * 0 + _ ≤ _; exact Nat.le_of_eq rfl) (hb hby d2_1) (fun _ _ => ⟨rfl, e0, (by decide : 0 + 0 ≤ _), (by decide : 0 + 0 ≤ _)⟩)
  dsimp only [Pt.U, Pt.locs, Pt.cells, Pt.slots] at X2 l2 y2 z2 st2 hQ2
  subst l2 y2 z2
  obtain ⟨rfl, N2q, e2q⟩ := hQ2
  have N2 := Fr.app N0 N2q
  refine Ends.to (T' := T2) (g' := (mkF m 4 #[.val (.ref a1), .val (.int p1), .val (.int p2)] [])) (fun tt_ kk_ => st2.trans kk_) ?_
  refine Ends.to (T' := T2) (g' := (mkF m 5 #[.val (.ref a1), .val (.int p1), .val (.int p2)] [(.ref a1)])) (fun tt_ kk_ => XS.aloadN X2.here hx rfl (hb hby d2_4) rfl rfl kk_) ?_
  refine Ends.to (T' := T2) (g' := (mkF m 6 #[.val (.ref a1), .val (.int p1), .val (.int p2)] [(.int p1), (.ref a1)])) (fun tt_ kk_ => XS.iloadN X2.here hx rfl (hb hby d2_5) rfl kk_) ?_
  obtain ⟨T3, h3, X3, e3, W3, st3⟩ := putF X2 hx hZ hown (host := "") (Or.inl (hw _ (List.mem_of_getElem? (i := 18) rfl))) Via.refl e2q Fp E1 (Or.inr ⟨(hw _ (List.mem_of_getElem? (i := 19) rfl)), rfl, hnm⟩) (hw _ (List.mem_of_getElem? (i := 5) rfl)) (ty := .int) (by decide) rfl rfl (g := (mkF m 6 #[.val (.ref a1), .val (.int p1), .val (.int p2)] [(.int p1), (.ref a1)])) rfl rfl (hb hby d2_6)
  have Fp := Fld.same W3 Fp
  have Fb := Fld.other W3 Fb (Or.inr (slot_ne (Or.inr (hw _ (List.mem_of_getElem? (i := 21) rfl))) (Or.inr (hw _ (List.mem_of_getElem? (i := 19) rfl))) (by decide) (t := .int) (t' := .int) (by decide) (by decide)))
  have E1 := Exa.wr W3 E1
  have K1 := Keep.wr K1 W3 (Or.inl (List.mem_of_getElem? (i := 0) rfl))
  have N3 := Fr.snoc X3 N2 g1
  refine Ends.to (T' := T3) (g' := (mkF m 9 #[.val (.ref a1), .val (.int p1), .val (.int p2)] [])) (fun tt_ kk_ => st3 tt_ kk_) ?_
  refine Ends.to (T' := T3) (g' := (mkF m 10 #[.val (.ref a1), .val (.int p1), .val (.int p2)] [(.ref a1)])) (fun tt_ kk_ => XS.aloadN X3.here hx rfl (hb hby d2_9) rfl rfl kk_) ?_
  refine Ends.to (T' := T3) (g' := (mkF m 11 #[.val (.ref a1), .val (.int p1), .val (.int p2)] [(.int p2), (.ref a1)])) (fun tt_ kk_ => XS.iloadN X3.here hx rfl (hb hby d2_10) rfl kk_) ?_
  obtain ⟨T4, h4, X4, e4, W4, st4⟩ := putF X3 hx hZ hown (host := "") (Or.inl (hw _ (List.mem_of_getElem? (i := 20) rfl))) Via.refl e3 Fb E1 (Or.inr ⟨(hw _ (List.mem_of_getElem? (i := 21) rfl)), rfl, hnm⟩) (hw _ (List.mem_of_getElem? (i := 5) rfl)) (ty := .int) (by decide) rfl rfl (g := (mkF m 11 #[.val (.ref a1), .val (.int p1), .val (.int p2)] [(.int p2), (.ref a1)])) rfl rfl (hb hby d2_11)
  have Fb := Fld.same W4 Fb
  have Fp := Fld.other W4 Fp (Or.inr (slot_ne (Or.inr (hw _ (List.mem_of_getElem? (i := 19) rfl))) (Or.inr (hw _ (List.mem_of_getElem? (i := 21) rfl))) (by decide) (t := .int) (t' := .int) (by decide) (by decide)))
  have E1 := Exa.wr W4 E1
  have K1 := Keep.wr K1 W4 (Or.inl (List.mem_of_getElem? (i := 0) rfl))
  have N4 := Fr.snoc X4 N3 g1
  refine Ends.to (T' := T4) (g' := (mkF m 14 #[.val (.ref a1), .val (.int p1), .val (.int p2)] [])) (fun tt_ kk_ => st4 tt_ kk_) ?_
  exact Ends.retV X4 hx hret (hb hby d2_14) hlk (by decide) (by decide) ⟨rfl, N4, by rw [e4]; exact ⟨K1, E1, Fp, Fb⟩⟩
def own_count (p : Int32) (q : Int64) : Int32 := if q = 0 then p else if p.toInt64 < q then q.toInt32 else p - q.toInt32
def own_code (p c : Int32) : Int64 := if c = p then 0 else if c < p then (p - c).toInt64 else c.toInt64
def own_maxi (x y : Int32) : Int32 := if x < y then y else x
set_option maxRecDepth 65536 in
set_option maxHeartbeats 40000000 in
def Q_rm6 (Z : State) (a1 : Addr) (q1 : Int64) (p1 : Int32) (h0 : Heap) (n0 : Nat) : Option Value → Heap → List Loc → Prop := fun v h L => v = some (.int (own_count p1 q1)) ∧ Fr n0 L ∧ h = h0
set_option maxRecDepth 65536 in
set_option maxHeartbeats 40000000 in
theorem rm6 (l : Launch) (Z : State) (a0 : Array Value) (hw : ∀ d ∈ tables_1, d.before a0 Z = true) (ws : List Jvm.Cond) (a1 : Addr) (q1 : Int64) (p1 : Int32) (h0 : Heap) (n0 : Nat) (Z0 : n0 ≤ h0.size) (Fp : Fld Z h0 a1 "com/example/coalesce/coalesce/CuckooTable$CountCoding" "pivot" "I" (.int p1)) :
    Pays l (⟨"com/example/coalesce/coalesce/CuckooTable$CountCoding", "countOf", "(J)I"⟩ : MethodName) prog_12_method_4_code 4 (some .int) ws ({ frames := 0, cells := 0, slots := 0, locals := 0 } : Room) #[(.ref a1), (.long q1)] Z h0 (Q_rm6 Z a1 q1 p1 h0 n0) := by
  refine Pays.of (plainFor_of_name pn_6) ?_
  intro p e s m below meth c s₁ hx hby hml hown hnm hret hlk hZ X0 e0
  have hown : s.vm.findClass "com/example/coalesce/coalesce/CuckooTable$CountCoding" = some m.cls := hown
  have hnm : meth.name = "countOf" := hnm
  have hml : c.maxLocals = 4 := hml
  show Ends p e below s _ _ (fun v h L => v = some (.int (own_count p1 q1)) ∧ Fr n0 L ∧ h = h0) s₁ _
  refine Ends.cast (ef_6 m a1 q1) ?_
  have N0 := Fr.nil n0
  refine Ends.to (T' := s₁) (g' := (mkF m 1 #[.val (.ref a1), .val (.long q1), .second, .unset] [(.long q1)])) (fun tt_ kk_ => XS.lloadN X0.here hx rfl (hb hby d6_0) rfl kk_) ?_
  refine Ends.to (T' := s₁) (g' := (mkF m 2 #[.val (.ref a1), .val (.long q1), .second, .unset] [(.long (0 : Int64)), (.long q1)])) (fun tt_ kk_ => XS.lconst X0.here hx rfl (hb hby d6_1) kk_) ?_
  refine Ends.to (T' := s₁) (g' := (mkF m 3 #[.val (.ref a1), .val (.long q1), .second, .unset] [(.int (lcmpW q1 (0 : Int64)))])) (fun tt_ kk_ => XS.lcmp X0.here hx rfl (hb hby d6_2) rfl kk_) ?_
  by_cases hc3 : q1 = (0 : Int64)
  · refine Ends.to (T' := s₁) (g' := (mkF m 6 #[.val (.ref a1), .val (.long q1), .second, .unset] [])) (fun tt_ kk_ => XS.ifNo X0.here hx rfl (hb hby d6_3) rfl ((if0 _ _).trans (teq ((lw_eq _ _).mpr hc3)).2) kk_) ?_
    refine Ends.to (T' := s₁) (g' := (mkF m 7 #[.val (.ref a1), .val (.long q1), .second, .unset] [(.ref a1)])) (fun tt_ kk_ => XS.aloadN X0.here hx rfl (hb hby d6_6) rfl rfl kk_) ?_
    obtain ⟨T5, X5, e5, st5⟩ := getF X0 hx hZ hown (host := "") (Or.inl (hw _ (List.mem_of_getElem? (i := 18) rfl))) Via.refl e0 Fp (g := (mkF m 7 #[.val (.ref a1), .val (.long q1), .second, .unset] [(.ref a1)])) rfl rfl (hb hby d6_7)
    refine Ends.to (T' := T5) (g' := (mkF m 10 #[.val (.ref a1), .val (.long q1), .second, .unset] [(.int p1)])) (fun tt_ kk_ => st5 tt_ kk_) ?_
    refine Ends.to (T' := T5) (g' := (mkF m 11 #[.val (.ref a1), .val (.long q1), .second, .val (.int p1)] [])) (fun tt_ kk_ => XS.istoreN X5.here hx rfl (hb hby d6_10) rfl (l' := #[.val (.ref a1), .val (.long q1), .second, .val (.int p1)]) rfl kk_) ?_
    refine Ends.to (T' := T5) (g' := (mkF m 38 #[.val (.ref a1), .val (.long q1), .second, .val (.int p1)] [])) (fun tt_ kk_ => XS.goto X5.here hx rfl (pc0 := 11) (pc' := 38) rfl (hb hby d6_11) (by decide) (by decide) kk_) ?_
    refine Ends.to (T' := T5) (g' := (mkF m 39 #[.val (.ref a1), .val (.long q1), .second, .val (.int p1)] [(.int p1)])) (fun tt_ kk_ => XS.iloadN X5.here hx rfl (hb hby d6_38) rfl kk_) ?_
    exact Ends.retI X5 hx hret (hb hby d6_39) hlk (by decide) (by decide) ⟨by simp [own_count, hc3], N0, e5⟩
  · refine Ends.to (T' := s₁) (g' := (mkF m 14 #[.val (.ref a1), .val (.long q1), .second, .unset] [])) (fun tt_ kk_ => XS.ifYes X0.here hx rfl (pc0 := 3) (pc' := 14) rfl (hb hby d6_3) rfl ((if0 _ _).trans (feq (fun q => hc3 ((lw_eq _ _).mp q))).2) (by decide) (by decide) kk_) ?_
    refine Ends.to (T' := s₁) (g' := (mkF m 15 #[.val (.ref a1), .val (.long q1), .second, .unset] [(.long q1)])) (fun tt_ kk_ => XS.lloadN X0.here hx rfl (hb hby d6_14) rfl kk_) ?_
    refine Ends.to (T' := s₁) (g' := (mkF m 16 #[.val (.ref a1), .val (.long q1), .second, .unset] [(.ref a1), (.long q1)])) (fun tt_ kk_ => XS.aloadN X0.here hx rfl (hb hby d6_15) rfl rfl kk_) ?_
    obtain ⟨T6, X6, e6, st6⟩ := getF X0 hx hZ hown (host := "") (Or.inl (hw _ (List.mem_of_getElem? (i := 18) rfl))) Via.refl e0 Fp (g := (mkF m 16 #[.val (.ref a1), .val (.long q1), .second, .unset] [(.ref a1), (.long q1)])) rfl rfl (hb hby d6_16)
    refine Ends.to (T' := T6) (g' := (mkF m 19 #[.val (.ref a1), .val (.long q1), .second, .unset] [(.int p1), (.long q1)])) (fun tt_ kk_ => st6 tt_ kk_) ?_
    refine Ends.to (T' := T6) (g' := (mkF m 20 #[.val (.ref a1), .val (.long q1), .second, .unset] [(.long (p1.toInt64)), (.long q1)])) (fun tt_ kk_ => XS.i2l X6.here hx rfl (hb hby d6_19) rfl kk_) ?_
    refine Ends.to (T' := T6) (g' := (mkF m 21 #[.val (.ref a1), .val (.long q1), .second, .unset] [(.int (lcmpW q1 (p1.toInt64)))])) (fun tt_ kk_ => XS.lcmp X6.here hx rfl (hb hby d6_20) rfl kk_) ?_
    by_cases hc21 : (p1.toInt64) < q1
    · refine Ends.to (T' := T6) (g' := (mkF m 35 #[.val (.ref a1), .val (.long q1), .second, .unset] [])) (fun tt_ kk_ => XS.ifYes X6.here hx rfl (pc0 := 21) (pc' := 35) rfl (hb hby d6_21) rfl ((if0 _ _).trans (tlt ((lw_gt _ _).mpr hc21)).2.2.1) (by decide) (by decide) kk_) ?_
      refine Ends.to (T' := T6) (g' := (mkF m 36 #[.val (.ref a1), .val (.long q1), .second, .unset] [(.long q1)])) (fun tt_ kk_ => XS.lloadN X6.here hx rfl (hb hby d6_35) rfl kk_) ?_
      refine Ends.to (T' := T6) (g' := (mkF m 37 #[.val (.ref a1), .val (.long q1), .second, .unset] [(.int (q1.toInt32))])) (fun tt_ kk_ => XS.l2i X6.here hx rfl (hb hby d6_36) rfl kk_) ?_
      refine Ends.to (T' := T6) (g' := (mkF m 38 #[.val (.ref a1), .val (.long q1), .second, .val (.int (q1.toInt32))] [])) (fun tt_ kk_ => XS.istoreN X6.here hx rfl (hb hby d6_37) rfl (l' := #[.val (.ref a1), .val (.long q1), .second, .val (.int (q1.toInt32))]) rfl kk_) ?_
      refine Ends.to (T' := T6) (g' := (mkF m 39 #[.val (.ref a1), .val (.long q1), .second, .val (.int (q1.toInt32))] [(.int (q1.toInt32))])) (fun tt_ kk_ => XS.iloadN X6.here hx rfl (hb hby d6_38) rfl kk_) ?_
      exact Ends.retI X6 hx hret (hb hby d6_39) hlk (by decide) (by decide) ⟨by simp [own_count, hc3, hc21], N0, e6⟩
    · refine Ends.to (T' := T6) (g' := (mkF m 24 #[.val (.ref a1), .val (.long q1), .second, .unset] [])) (fun tt_ kk_ => XS.ifNo X6.here hx rfl (hb hby d6_21) rfl ((if0 _ _).trans (flt (fun q => hc21 ((lw_gt _ _).mp q))).2.2.1) kk_) ?_
      refine Ends.to (T' := T6) (g' := (mkF m 25 #[.val (.ref a1), .val (.long q1), .second, .unset] [(.ref a1)])) (fun tt_ kk_ => XS.aloadN X6.here hx rfl (hb hby d6_24) rfl rfl kk_) ?_
      obtain ⟨T7, X7, e7, st7⟩ := getF X6 hx hZ hown (host := "") (Or.inl (hw _ (List.mem_of_getElem? (i := 18) rfl))) Via.refl e6 Fp (g := (mkF m 25 #[.val (.ref a1), .val (.long q1), .second, .unset] [(.ref a1)])) rfl rfl (hb hby d6_25)
      refine Ends.to (T' := T7) (g' := (mkF m 28 #[.val (.ref a1), .val (.long q1), .second, .unset] [(.int p1)])) (fun tt_ kk_ => st7 tt_ kk_) ?_
      refine Ends.to (T' := T7) (g' := (mkF m 29 #[.val (.ref a1), .val (.long q1), .second, .unset] [(.long q1), (.int p1)])) (fun tt_ kk_ => XS.lloadN X7.here hx rfl (hb hby d6_28) rfl kk_) ?_
      refine Ends.to (T' := T7) (g' := (mkF m 30 #[.val (.ref a1), .val (.long q1), .second, .unset] [(.int (q1.toInt32)), (.int p1)])) (fun tt_ kk_ => XS.l2i X7.here hx rfl (hb hby d6_29) rfl kk_) ?_
      refine Ends.to (T' := T7) (g' := (mkF m 31 #[.val (.ref a1), .val (.long q1), .second, .unset] [(.int (p1 - (q1.toInt32)))])) (fun tt_ kk_ => XS.isub X7.here hx rfl (hb hby d6_30) rfl kk_) ?_
      refine Ends.to (T' := T7) (g' := (mkF m 32 #[.val (.ref a1), .val (.long q1), .second, .val (.int (p1 - (q1.toInt32)))] [])) (fun tt_ kk_ => XS.istoreN X7.here hx rfl (hb hby d6_31) rfl (l' := #[.val (.ref a1), .val (.long q1), .second, .val (.int (p1 - (q1.toInt32)))]) rfl kk_) ?_
      refine Ends.to (T' := T7) (g' := (mkF m 38 #[.val (.ref a1), .val (.long q1), .second, .val (.int (p1 - (q1.toInt32)))] [])) (fun tt_ kk_ => XS.goto X7.here hx rfl (pc0 := 32) (pc' := 38) rfl (hb hby d6_32) (by decide) (by decide) kk_) ?_
      refine Ends.to (T' := T7) (g' := (mkF m 39 #[.val (.ref a1), .val (.long q1), .second, .val (.int (p1 - (q1.toInt32)))] [(.int (p1 - (q1.toInt32)))])) (fun tt_ kk_ => XS.iloadN X7.here hx rfl (hb hby d6_38) rfl kk_) ?_
      exact Ends.retI X7 hx hret (hb hby d6_39) hlk (by decide) (by decide) ⟨by simp [own_count, hc3, hc21], N0, e7⟩
set_option maxRecDepth 65536 in
set_option maxHeartbeats 40000000 in
def Q_rm5 (Z : State) (a1 : Addr) (c1 p1 : Int32) (h0 : Heap) (n0 : Nat) : Option Value → Heap → List Loc → Prop := fun v h L => v = some (.long (own_code p1 c1)) ∧ Fr n0 L ∧ h = h0
set_option maxRecDepth 65536 in
set_option maxHeartbeats 40000000 in
theorem rm5 (l : Launch) (Z : State) (a0 : Array Value) (hw : ∀ d ∈ tables_1, d.before a0 Z = true) (ws : List Jvm.Cond) (a1 : Addr) (c1 p1 : Int32) (h0 : Heap) (n0 : Nat) (Z0 : n0 ≤ h0.size) (Fp : Fld Z h0 a1 "com/example/coalesce/coalesce/CuckooTable$CountCoding" "pivot" "I" (.int p1)) :
    Pays l (⟨"com/example/coalesce/coalesce/CuckooTable$CountCoding", "codeOf", "(I)J"⟩ : MethodName) prog_12_method_3_code 4 (some .long) ws ({ frames := 0, cells := 0, slots := 0, locals := 0 } : Room) #[(.ref a1), (.int c1)] Z h0 (Q_rm5 Z a1 c1 p1 h0 n0) := by
  refine Pays.of (plainFor_of_name pn_5) ?_
  intro p e s m below meth c s₁ hx hby hml hown hnm hret hlk hZ X0 e0
  have hown : s.vm.findClass "com/example/coalesce/coalesce/CuckooTable$CountCoding" = some m.cls := hown
  have hnm : meth.name = "codeOf" := hnm
  have hml : c.maxLocals = 4 := hml
  show Ends p e below s _ _ (fun v h L => v = some (.long (own_code p1 c1)) ∧ Fr n0 L ∧ h = h0) s₁ _
  refine Ends.cast (ef_5 m a1 c1) ?_
  have N0 := Fr.nil n0
  refine Ends.to (T' := s₁) (g' := (mkF m 1 #[.val (.ref a1), .val (.int c1), .unset, .unset] [(.int c1)])) (fun tt_ kk_ => XS.iloadN X0.here hx rfl (hb hby d5_0) rfl kk_) ?_
  refine Ends.to (T' := s₁) (g' := (mkF m 2 #[.val (.ref a1), .val (.int c1), .unset, .unset] [(.ref a1), (.int c1)])) (fun tt_ kk_ => XS.aloadN X0.here hx rfl (hb hby d5_1) rfl rfl kk_) ?_
  obtain ⟨T8, X8, e8, st8⟩ := getF X0 hx hZ hown (host := "") (Or.inl (hw _ (List.mem_of_getElem? (i := 18) rfl))) Via.refl e0 Fp (g := (mkF m 2 #[.val (.ref a1), .val (.int c1), .unset, .unset] [(.ref a1), (.int c1)])) rfl rfl (hb hby d5_2)
  refine Ends.to (T' := T8) (g' := (mkF m 5 #[.val (.ref a1), .val (.int c1), .unset, .unset] [(.int p1), (.int c1)])) (fun tt_ kk_ => st8 tt_ kk_) ?_
  by_cases hc5 : c1 = p1
  · refine Ends.to (T' := T8) (g' := (mkF m 8 #[.val (.ref a1), .val (.int c1), .unset, .unset] [])) (fun tt_ kk_ => XS.icmpNo X8.here hx rfl (hb hby d5_5) rfl (teq hc5).2 kk_) ?_
    refine Ends.to (T' := T8) (g' := (mkF m 9 #[.val (.ref a1), .val (.int c1), .unset, .unset] [(.long (0 : Int64))])) (fun tt_ kk_ => XS.lconst X8.here hx rfl (hb hby d5_8) kk_) ?_
    refine Ends.to (T' := T8) (g' := (mkF m 10 #[.val (.ref a1), .val (.int c1), .val (.long (0 : Int64)), .second] [])) (fun tt_ kk_ => XS.lstoreN X8.here hx rfl (hb hby d5_9) rfl (l' := #[.val (.ref a1), .val (.int c1), .val (.long (0 : Int64)), .second]) rfl kk_) ?_
    refine Ends.to (T' := T8) (g' := (mkF m 35 #[.val (.ref a1), .val (.int c1), .val (.long (0 : Int64)), .second] [])) (fun tt_ kk_ => XS.goto X8.here hx rfl (pc0 := 10) (pc' := 35) rfl (hb hby d5_10) (by decide) (by decide) kk_) ?_
    refine Ends.to (T' := T8) (g' := (mkF m 36 #[.val (.ref a1), .val (.int c1), .val (.long (0 : Int64)), .second] [(.long (0 : Int64))])) (fun tt_ kk_ => XS.lloadN X8.here hx rfl (hb hby d5_35) rfl kk_) ?_
    exact Ends.retJ X8 hx hret (hb hby d5_36) hlk (by decide) (by decide) ⟨by simp [own_code, hc5], N0, e8⟩
  · refine Ends.to (T' := T8) (g' := (mkF m 13 #[.val (.ref a1), .val (.int c1), .unset, .unset] [])) (fun tt_ kk_ => XS.icmpYes X8.here hx rfl (pc0 := 5) (pc' := 13) rfl (hb hby d5_5) rfl (feq hc5).2 (by decide) (by decide) kk_) ?_
    refine Ends.to (T' := T8) (g' := (mkF m 14 #[.val (.ref a1), .val (.int c1), .unset, .unset] [(.int c1)])) (fun tt_ kk_ => XS.iloadN X8.here hx rfl (hb hby d5_13) rfl kk_) ?_
    refine Ends.to (T' := T8) (g' := (mkF m 15 #[.val (.ref a1), .val (.int c1), .unset, .unset] [(.ref a1), (.int c1)])) (fun tt_ kk_ => XS.aloadN X8.here hx rfl (hb hby d5_14) rfl rfl kk_) ?_
    obtain ⟨T9, X9, e9, st9⟩ := getF X8 hx hZ hown (host := "") (Or.inl (hw _ (List.mem_of_getElem? (i := 18) rfl))) Via.refl e8 Fp (g := (mkF m 15 #[.val (.ref a1), .val (.int c1), .unset, .unset] [(.ref a1), (.int c1)])) rfl rfl (hb hby d5_15)
    refine Ends.to (T' := T9) (g' := (mkF m 18 #[.val (.ref a1), .val (.int c1), .unset, .unset] [(.int p1), (.int c1)])) (fun tt_ kk_ => st9 tt_ kk_) ?_
    by_cases hc18 : c1 < p1
    · refine Ends.to (T' := T9) (g' := (mkF m 21 #[.val (.ref a1), .val (.int c1), .unset, .unset] [])) (fun tt_ kk_ => XS.icmpNo X9.here hx rfl (hb hby d5_18) rfl (tlt hc18).2.1 kk_) ?_
      refine Ends.to (T' := T9) (g' := (mkF m 22 #[.val (.ref a1), .val (.int c1), .unset, .unset] [(.ref a1)])) (fun tt_ kk_ => XS.aloadN X9.here hx rfl (hb hby d5_21) rfl rfl kk_) ?_
      obtain ⟨T10, X10, e10, st10⟩ := getF X9 hx hZ hown (host := "") (Or.inl (hw _ (List.mem_of_getElem? (i := 18) rfl))) Via.refl e9 Fp (g := (mkF m 22 #[.val (.ref a1), .val (.int c1), .unset, .unset] [(.ref a1)])) rfl rfl (hb hby d5_22)
      refine Ends.to (T' := T10) (g' := (mkF m 25 #[.val (.ref a1), .val (.int c1), .unset, .unset] [(.int p1)])) (fun tt_ kk_ => st10 tt_ kk_) ?_
      refine Ends.to (T' := T10) (g' := (mkF m 26 #[.val (.ref a1), .val (.int c1), .unset, .unset] [(.int c1), (.int p1)])) (fun tt_ kk_ => XS.iloadN X10.here hx rfl (hb hby d5_25) rfl kk_) ?_
      refine Ends.to (T' := T10) (g' := (mkF m 27 #[.val (.ref a1), .val (.int c1), .unset, .unset] [(.int (p1 - c1))])) (fun tt_ kk_ => XS.isub X10.here hx rfl (hb hby d5_26) rfl kk_) ?_
      refine Ends.to (T' := T10) (g' := (mkF m 28 #[.val (.ref a1), .val (.int c1), .unset, .unset] [(.long ((p1 - c1).toInt64))])) (fun tt_ kk_ => XS.i2l X10.here hx rfl (hb hby d5_27) rfl kk_) ?_
      refine Ends.to (T' := T10) (g' := (mkF m 29 #[.val (.ref a1), .val (.int c1), .val (.long ((p1 - c1).toInt64)), .second] [])) (fun tt_ kk_ => XS.lstoreN X10.here hx rfl (hb hby d5_28) rfl (l' := #[.val (.ref a1), .val (.int c1), .val (.long ((p1 - c1).toInt64)), .second]) rfl kk_) ?_
      refine Ends.to (T' := T10) (g' := (mkF m 35 #[.val (.ref a1), .val (.int c1), .val (.long ((p1 - c1).toInt64)), .second] [])) (fun tt_ kk_ => XS.goto X10.here hx rfl (pc0 := 29) (pc' := 35) rfl (hb hby d5_29) (by decide) (by decide) kk_) ?_
      refine Ends.to (T' := T10) (g' := (mkF m 36 #[.val (.ref a1), .val (.int c1), .val (.long ((p1 - c1).toInt64)), .second] [(.long ((p1 - c1).toInt64))])) (fun tt_ kk_ => XS.lloadN X10.here hx rfl (hb hby d5_35) rfl kk_) ?_
      exact Ends.retJ X10 hx hret (hb hby d5_36) hlk (by decide) (by decide) ⟨by simp [own_code, hc5, hc18], N0, e10⟩
    · refine Ends.to (T' := T9) (g' := (mkF m 32 #[.val (.ref a1), .val (.int c1), .unset, .unset] [])) (fun tt_ kk_ => XS.icmpYes X9.here hx rfl (pc0 := 18) (pc' := 32) rfl (hb hby d5_18) rfl (flt hc18).2.1 (by decide) (by decide) kk_) ?_
      refine Ends.to (T' := T9) (g' := (mkF m 33 #[.val (.ref a1), .val (.int c1), .unset, .unset] [(.int c1)])) (fun tt_ kk_ => XS.iloadN X9.here hx rfl (hb hby d5_32) rfl kk_) ?_
      refine Ends.to (T' := T9) (g' := (mkF m 34 #[.val (.ref a1), .val (.int c1), .unset, .unset] [(.long (c1.toInt64))])) (fun tt_ kk_ => XS.i2l X9.here hx rfl (hb hby d5_33) rfl kk_) ?_
      refine Ends.to (T' := T9) (g' := (mkF m 35 #[.val (.ref a1), .val (.int c1), .val (.long (c1.toInt64)), .second] [])) (fun tt_ kk_ => XS.lstoreN X9.here hx rfl (hb hby d5_34) rfl (l' := #[.val (.ref a1), .val (.int c1), .val (.long (c1.toInt64)), .second]) rfl kk_) ?_
      refine Ends.to (T' := T9) (g' := (mkF m 36 #[.val (.ref a1), .val (.int c1), .val (.long (c1.toInt64)), .second] [(.long (c1.toInt64))])) (fun tt_ kk_ => XS.lloadN X9.here hx rfl (hb hby d5_35) rfl kk_) ?_
      exact Ends.retJ X9 hx hret (hb hby d5_36) hlk (by decide) (by decide) ⟨by simp [own_code, hc5, hc18], N0, e9⟩
set_option maxRecDepth 65536 in
set_option maxHeartbeats 40000000 in
def Q_rm1 (Z : State) (p1 p2 : Int32) (h0 : Heap) (n0 : Nat) : Option Value → Heap → List Loc → Prop := fun v h L => v = some (.int (own_maxi p1 p2)) ∧ Fr n0 L ∧ h = h0
set_option maxRecDepth 65536 in
set_option maxHeartbeats 40000000 in
theorem rm1 (l : Launch) (Z : State) (a0 : Array Value) (hw : ∀ d ∈ tables_1, d.before a0 Z = true) (ws : List Jvm.Cond) (p1 p2 : Int32) (h0 : Heap) (n0 : Nat) (Z0 : n0 ≤ h0.size) :
    Pays l (⟨"java/lang/Math", "max", "(II)I"⟩ : MethodName) jdk_29_method_65_code 2 (some .int) ws ({ frames := 0, cells := 0, slots := 0, locals := 0 } : Room) #[(.int p1), (.int p2)] Z h0 (Q_rm1 Z p1 p2 h0 n0) := by
  refine Pays.of (Jvm.Free.JP.mathPlain rfl (by decide +kernel)) ?_
  intro p e s m below meth c s₁ hx hby hml hown hnm hret hlk hZ X0 e0
  have hown : s.vm.findClass "java/lang/Math" = some m.cls := hown
  have hnm : meth.name = "max" := hnm
  have hml : c.maxLocals = 2 := hml
  show Ends p e below s _ _ (fun v h L => v = some (.int (own_maxi p1 p2)) ∧ Fr n0 L ∧ h = h0) s₁ _
  refine Ends.cast (ef_1 m p1 p2) ?_
  have N0 := Fr.nil n0
  refine Ends.to (T' := s₁) (g' := (mkF m 1 #[.val (.int p1), .val (.int p2)] [(.int p1)])) (fun tt_ kk_ => XS.iloadN X0.here hx rfl (hb hby d1_0) rfl kk_) ?_
  refine Ends.to (T' := s₁) (g' := (mkF m 2 #[.val (.int p1), .val (.int p2)] [(.int p2), (.int p1)])) (fun tt_ kk_ => XS.iloadN X0.here hx rfl (hb hby d1_1) rfl kk_) ?_
  by_cases hc2 : p1 < p2
  · refine Ends.to (T' := s₁) (g' := (mkF m 9 #[.val (.int p1), .val (.int p2)] [])) (fun tt_ kk_ => XS.icmpYes X0.here hx rfl (pc0 := 2) (pc' := 9) rfl (hb hby d1_2) rfl (tlt hc2).1 (by decide) (by decide) kk_) ?_
    refine Ends.to (T' := s₁) (g' := (mkF m 10 #[.val (.int p1), .val (.int p2)] [(.int p2)])) (fun tt_ kk_ => XS.iloadN X0.here hx rfl (hb hby d1_9) rfl kk_) ?_
    exact Ends.retI X0 hx hret (hb hby d1_10) hlk (by decide) (by decide) ⟨by simp [own_maxi, hc2], N0, e0⟩
  · refine Ends.to (T' := s₁) (g' := (mkF m 5 #[.val (.int p1), .val (.int p2)] [])) (fun tt_ kk_ => XS.icmpNo X0.here hx rfl (hb hby d1_2) rfl (flt hc2).1 kk_) ?_
    refine Ends.to (T' := s₁) (g' := (mkF m 6 #[.val (.int p1), .val (.int p2)] [(.int p1)])) (fun tt_ kk_ => XS.iloadN X0.here hx rfl (hb hby d1_5) rfl kk_) ?_
    refine Ends.to (T' := s₁) (g' := (mkF m 10 #[.val (.int p1), .val (.int p2)] [(.int p1)])) (fun tt_ kk_ => XS.goto X0.here hx rfl (pc0 := 6) (pc' := 10) rfl (hb hby d1_6) (by decide) (by decide) kk_) ?_
    exact Ends.retI X0 hx hret (hb hby d1_10) hlk (by decide) (by decide) ⟨by simp [own_maxi, hc2], N0, e0⟩
theorem own_trip {p : Int32} {v : Int64} (rp : 0 ≤ p.toInt) (rv : 0 ≤ v.toInt ∧ v.toInt < 2147483648) : own_code p (own_count p v) = v ∧ 0 ≤ (own_count p v).toInt := by
  have pr := rng32 p
  by_cases h0 : v = 0
  · subst h0; simp [own_code, own_count, rp]
  have hv0 : v.toInt ≠ 0 := fun q => h0 (Int64.toInt_inj.mp (by rw [q]; rfl))
  have e1 : v.toInt32.toInt = v.toInt := Jvm.Kit.i32_of_i64 (by omega) (by omega)
  by_cases h1 : p.toInt64 < v
  · have h2 : p.toInt < v.toInt := by have := Int64.lt_iff_toInt_lt.mp h1; rwa [Jvm.Kit.i64_of_i32] at this
    have n1 : ¬ v.toInt32 = p := fun q => by rw [q] at e1; omega
    have n2 : ¬ v.toInt32 < p := fun q => by have := Int32.lt_iff_toInt_lt.mp q; omega
    simp only [own_code, own_count, if_neg h0, if_pos h1, if_neg n1, if_neg n2]
    refine ⟨Int64.toInt_inj.mp ?_, by omega⟩
    rw [Jvm.Kit.i64_of_i32, e1]
  · have h2 : v.toInt ≤ p.toInt := by
      have : ¬ p.toInt64.toInt < v.toInt := fun q => h1 (Int64.lt_iff_toInt_lt.mpr q)
      rw [Jvm.Kit.i64_of_i32] at this; omega
    have e2 : (p - v.toInt32).toInt = p.toInt - v.toInt := by rw [Jvm.Kit.i32_sub (by omega) (by omega), e1]
    have n1 : ¬ p - v.toInt32 = p := fun q => by rw [q] at e2; omega
    have n2 : p - v.toInt32 < p := Int32.lt_iff_toInt_lt.mpr (by omega)
    simp only [own_code, own_count, if_neg h0, if_neg h1, if_neg n1, if_pos n2]
    refine ⟨Int64.toInt_inj.mp ?_, by omega⟩
    rw [Jvm.Kit.i64_of_i32, Jvm.Kit.i32_sub (by omega) (by omega), e2]; omega
theorem own_trip2 {p c : Int32} (rp : 0 ≤ p.toInt) (rc : 0 ≤ c.toInt) : own_count p (own_code p c) = c ∧ 0 ≤ (own_code p c).toInt ∧ (own_code p c = 0 ↔ c = p) := by
  have pr := rng32 p
  have cr := rng32 c
  by_cases h0 : c = p
  · subst h0; simp [own_code, own_count]
  have hc : c.toInt ≠ p.toInt := fun q => h0 (Int32.toInt_inj.mp q)
  by_cases h1 : c < p
  · have h2 := Int32.lt_iff_toInt_lt.mp h1
    have e2 : (p - c).toInt = p.toInt - c.toInt := Jvm.Kit.i32_sub (by omega) (by omega)
    have e3 : (p - c).toInt64.toInt = p.toInt - c.toInt := by rw [Jvm.Kit.i64_of_i32, e2]
    have n1 : ¬ (p - c).toInt64 = 0 := fun q => by rw [q] at e3; have : (0 : Int64).toInt = 0 := rfl; omega
    have n2 : ¬ p.toInt64 < (p - c).toInt64 := fun q => by have := Int64.lt_iff_toInt_lt.mp q; rw [e3, Jvm.Kit.i64_of_i32] at this; omega
    have e4 : (p - c).toInt64.toInt32.toInt = p.toInt - c.toInt := by rw [Jvm.Kit.i32_of_i64 (by omega) (by omega), e3]
    simp only [own_code, own_count, if_neg h0, if_pos h1, if_neg n1, if_neg n2]
    refine ⟨Int32.toInt_inj.mp ?_, by omega, by simp [n1, h0]⟩
    rw [Jvm.Kit.i32_sub (by omega) (by omega), e4]; omega
  · have h2 : ¬ c.toInt < p.toInt := fun q => h1 (Int32.lt_iff_toInt_lt.mpr q)
    have e3 : c.toInt64.toInt = c.toInt := Jvm.Kit.i64_of_i32 c
    have n1 : ¬ c.toInt64 = 0 := fun q => by rw [q] at e3; have : (0 : Int64).toInt = 0 := rfl; omega
    have n2 : p.toInt64 < c.toInt64 := Int64.lt_iff_toInt_lt.mpr (by rw [e3, Jvm.Kit.i64_of_i32]; omega)
    simp only [own_code, own_count, if_neg h0, if_neg h1, if_neg n1, if_pos n2]
    refine ⟨Int32.toInt_inj.mp ?_, by omega, by simp [n1, h0]⟩
    rw [Jvm.Kit.i32_of_i64 (by omega) (by omega), e3]
theorem own_nn {x : Int32} (h : 0 ≤ x.toInt) : ¬ x < 0 := fun q => by have := Int32.lt_iff_toInt_lt.mp q; simp at this; omega
theorem own_nnL {x : Int64} (h : 0 ≤ x.toInt) : ¬ x < 0 := fun q => by have := Int64.lt_iff_toInt_lt.mp q; simp at this; omega
theorem own_31 {x y : Int32} (h : x &&& 2147483647 = y) : 0 ≤ y.toInt := by
  have e := Jvm.Kit.i32_mask x 2147483647 (k := 31) (by decide) (by decide)
  rw [h] at e; omega
theorem own_255 {x y : Int32} (h : x &&& 255 = y) : 0 ≤ y.toInt := by
  have e := Jvm.Kit.i32_mask x 255 (k := 8) (by decide) (by decide)
  rw [h] at e; omega
theorem own_maxi0 {x y : Int32} (h : own_maxi 0 x = y) : 0 ≤ y.toInt := by
  subst h
  unfold own_maxi
  split
  · rename_i q; have := Int32.lt_iff_toInt_lt.mp q; simp at this; omega
  · decide
set_option maxRecDepth 65536 in
set_option maxHeartbeats 40000000 in
def Q_rm0 (Z : State) (p1 p2 p3 p4 : Int32) (h0 : Heap) (n0 : Nat) : Option Value → Heap → List Loc → Prop := fun v h L => v = some (.int 1) ∧ Fr n0 L
set_option maxRecDepth 65536 in
set_option maxHeartbeats 40000000 in
theorem rm0 (l : Launch) (Z : State) (a0 : Array Value) (hw : ∀ d ∈ tables_1, d.before a0 Z = true) (ws : List Jvm.Cond) (p1 p2 p3 p4 : Int32) (h0 : Heap) (n0 : Nat) (Z0 : n0 ≤ h0.size) :
    Pays l x code maxLocals ret ws room_1 #[(.int p1), (.int p2), (.int p3), (.int p4)] Z h0 (Q_rm0 Z p1 p2 p3 p4 h0 n0) := by
  refine Pays.of (plainFor_of_name pn_0) ?_
  intro p e s m below meth c s₁ hx hby hml hown hnm hret hlk hZ X0 e0
  have hown : s.vm.findClass "com/example/coalesce/coalesce/CountCodingCodeOfPinLaw" = some m.cls := hown
  have hnm : meth.name = "law" := hnm
  have hml : c.maxLocals = 9 := hml
  show Ends p e below s _ _ (fun v h L => v = some (.int 1) ∧ Fr n0 L) s₁ _
  refine Ends.cast (ef_0 m p1 p2 p3 p4) ?_
  have N0 := Fr.nil n0
  have Zs := Z0
  refine Ends.to (T' := s₁) (g' := (mkF m 1 #[.val (.int p1), .val (.int p2), .val (.int p3), .val (.int p4), .unset, .unset, .unset, .unset, .unset] [(.int p1)])) (fun tt_ kk_ => XS.iloadN X0.here hx rfl (hb hby at_0) rfl kk_) ?_
  refine Ends.to (T' := s₁) (g' := (mkF m 4 #[.val (.int p1), .val (.int p2), .val (.int p3), .val (.int p4), .unset, .unset, .unset, .unset, .unset] [(.int (255 : Int32)), (.int p1)])) (fun tt_ kk_ => XS.sipush X0.here hx rfl (hb hby at_1) kk_) ?_
  refine Ends.to (T' := s₁) (g' := (mkF m 5 #[.val (.int p1), .val (.int p2), .val (.int p3), .val (.int p4), .unset, .unset, .unset, .unset, .unset] [(.int (p1 &&& (255 : Int32)))])) (fun tt_ kk_ => XS.iand X0.here hx rfl (hb hby at_4) rfl kk_) ?_
  refine Ends.to (T' := s₁) (g' := (mkF m 7 #[.val (.int p1), .val (.int p2), .val (.int p3), .val (.int p4), .val (.int (p1 &&& (255 : Int32))), .unset, .unset, .unset, .unset] [])) (fun tt_ kk_ => XS.istore X0.here hx rfl (hb hby at_5) rfl (l' := #[.val (.int p1), .val (.int p2), .val (.int p3), .val (.int p4), .val (.int (p1 &&& (255 : Int32))), .unset, .unset, .unset, .unset]) rfl kk_) ?_
  generalize hpv : (p1 &&& (255 : Int32)) = pv
  have rp := own_255 hpv
  refine Ends.to (T' := s₁) (g' := (mkF m 8 #[.val (.int p1), .val (.int p2), .val (.int p3), .val (.int p4), .val (.int pv), .unset, .unset, .unset, .unset] [(.int p3)])) (fun tt_ kk_ => XS.iloadN X0.here hx rfl (hb hby at_7) rfl kk_) ?_
  refine Ends.to (T' := s₁) (g' := (mkF m 9 #[.val (.int p1), .val (.int p2), .val (.int p3), .val (.int p4), .val (.int pv), .unset, .unset, .unset, .unset] [(.int (1 : Int32)), (.int p3)])) (fun tt_ kk_ => XS.iconst X0.here hx rfl (hb hby at_8) kk_) ?_
  refine Ends.to (T' := s₁) (g' := (mkF m 10 #[.val (.int p1), .val (.int p2), .val (.int p3), .val (.int p4), .val (.int pv), .unset, .unset, .unset, .unset] [(.int (p3 &&& (1 : Int32)))])) (fun tt_ kk_ => XS.iand X0.here hx rfl (hb hby at_9) rfl kk_) ?_
  by_cases hc10 : (p3 &&& (1 : Int32)) = (0 : Int32)
  · refine Ends.to (T' := s₁) (g' := (mkF m 13 #[.val (.int p1), .val (.int p2), .val (.int p3), .val (.int p4), .val (.int pv), .unset, .unset, .unset, .unset] [])) (fun tt_ kk_ => XS.ifNo X0.here hx rfl (hb hby at_10) rfl ((if0 _ _).trans (teq hc10).2) kk_) ?_
    refine Ends.to (T' := s₁) (g' := (mkF m 14 #[.val (.int p1), .val (.int p2), .val (.int p3), .val (.int p4), .val (.int pv), .unset, .unset, .unset, .unset] [(.int (0 : Int32))])) (fun tt_ kk_ => XS.iconst X0.here hx rfl (hb hby at_13) kk_) ?_
    refine Ends.to (T' := s₁) (g' := (mkF m 16 #[.val (.int p1), .val (.int p2), .val (.int p3), .val (.int p4), .val (.int pv), .unset, .unset, .unset, .unset] [(.int pv), (.int (0 : Int32))])) (fun tt_ kk_ => XS.iload X0.here hx rfl (hb hby at_14) rfl kk_) ?_
    refine Ends.to (T' := s₁) (g' := (mkF m 17 #[.val (.int p1), .val (.int p2), .val (.int p3), .val (.int p4), .val (.int pv), .unset, .unset, .unset, .unset] [(.int p2), (.int pv), (.int (0 : Int32))])) (fun tt_ kk_ => XS.iloadN X0.here hx rfl (hb hby at_16) rfl kk_) ?_
    refine Ends.to (T' := s₁) (g' := (mkF m 19 #[.val (.int p1), .val (.int p2), .val (.int p3), .val (.int p4), .val (.int pv), .unset, .unset, .unset, .unset] [(.int (16 : Int32)), (.int p2), (.int pv), (.int (0 : Int32))])) (fun tt_ kk_ => XS.bipush X0.here hx rfl (hb hby at_17) kk_) ?_
    refine Ends.to (T' := s₁) (g' := (mkF m 20 #[.val (.int p1), .val (.int p2), .val (.int p3), .val (.int p4), .val (.int pv), .unset, .unset, .unset, .unset] [(.int (p2 % (16 : Int32))), (.int pv), (.int (0 : Int32))])) (fun tt_ kk_ => Jvm.RoadKit.iremM X0 hx rfl (hb hby at_19) rfl (by decide) kk_) ?_
    refine Ends.to (T' := s₁) (g' := (mkF m 21 #[.val (.int p1), .val (.int p2), .val (.int p3), .val (.int p4), .val (.int pv), .unset, .unset, .unset, .unset] [(.int (pv + (p2 % (16 : Int32)))), (.int (0 : Int32))])) (fun tt_ kk_ => XS.iadd X0.here hx rfl (hb hby at_20) rfl kk_) ?_
    obtain ⟨_, _, ⟨T11, L11, k11, n11⟩, -, X11, ⟨Lc11, hQ11, l11, y11, z11⟩, st11⟩ := Jvm.LawKit.callS X0 hx (y := (⟨"java/lang/Math", "max", "(II)I"⟩ : MethodName)) hown (mvT hZ (hw _ (List.mem_of_getElem? (i := 0) rfl))) (mvT hZ (hw _ (List.mem_of_getElem? (i := 1) rfl))) (mvT hZ (hw _ (List.mem_of_getElem? (i := 2) rfl))) (mvT hZ (hw _ (List.mem_of_getElem? (i := 3) rfl))) (by decide) (backOf (W := 0) (rm1 l Z a0 hw [] (0 : Int32) (pv + (p2 % (16 : Int32))) h0 n0 Zs) hZ (hw _ (List.mem_of_getElem? (i := 3) rfl)) (hw _ (List.mem_of_getElem? (i := 2) rfl)) (by decide) (by decide)) (g := (mkF m 21 #[.val (.int p1), .val (.int p2), .val (.int p3), .val (.int p4), .val (.int pv), .unset, .unset, .unset, .unset] [(.int (pv + (p2 % (16 : Int32)))), (.int (0 : Int32))])) rfl (by rw [hml]; rfl) (argsL := [(.int (0 : Int32)), (.int (pv + (p2 % (16 : Int32))))]) (rest := []) (lenOf pd_1 rfl) rfl (by show 2 * 0 + _ ≤ _; exact Nat.le_of_eq rfl) (hb hby at_21) (fun _ _ => ⟨rfl, e0, (by decide : 0 + 0 ≤ _), (by decide : 0 + 0 ≤ _)⟩)
    dsimp only [Pt.U, Pt.locs, Pt.cells, Pt.slots] at X11 l11 y11 z11 st11 hQ11
    subst l11 y11 z11
    obtain ⟨rfl, N11q, e11q⟩ := hQ11
    have N11 := Fr.app N0 N11q
    refine Ends.to (T' := T11) (g' := (mkF m 24 #[.val (.int p1), .val (.int p2), .val (.int p3), .val (.int p4), .val (.int pv), .unset, .unset, .unset, .unset] [(.int (own_maxi (0 : Int32) (pv + (p2 % (16 : Int32)))))])) (fun tt_ kk_ => st11 tt_ kk_) ?_
    refine Ends.to (T' := T11) (g' := (mkF m 26 #[.val (.int p1), .val (.int p2), .val (.int p3), .val (.int p4), .val (.int pv), .val (.int (own_maxi (0 : Int32) (pv + (p2 % (16 : Int32))))), .unset, .unset, .unset] [])) (fun tt_ kk_ => XS.istore X11.here hx rfl (hb hby at_24) rfl (l' := #[.val (.int p1), .val (.int p2), .val (.int p3), .val (.int p4), .val (.int pv), .val (.int (own_maxi (0 : Int32) (pv + (p2 % (16 : Int32))))), .unset, .unset, .unset]) rfl kk_) ?_
    generalize hct : (own_maxi (0 : Int32) (pv + (p2 % (16 : Int32)))) = ct
    refine Ends.to (T' := T11) (g' := (mkF m 35 #[.val (.int p1), .val (.int p2), .val (.int p3), .val (.int p4), .val (.int pv), .val (.int ct), .unset, .unset, .unset] [])) (fun tt_ kk_ => XS.goto X11.here hx rfl (pc0 := 26) (pc' := 35) rfl (hb hby at_26) (by decide) (by decide) kk_) ?_
    have rc := own_maxi0 hct
    obtain ⟨T12, h12, X12, e12, E12, A12, D12, -, st12⟩ := newO X11 hx hZ hown (hw _ (List.mem_of_getElem? (i := 4) rfl)) (hw _ (List.mem_of_getElem? (i := 5) rfl)) (hw _ (List.mem_of_getElem? (i := 6) rfl)) e11q (g := (mkF m 35 #[.val (.int p1), .val (.int p2), .val (.int p3), .val (.int p4), .val (.int pv), .val (.int ct), .unset, .unset, .unset] [])) rfl (hb hby at_35) (by decide) (by decide)
    obtain ⟨b1, g_b1⟩ : ∃ z, z = h0.size := ⟨_, rfl⟩
    rw [← g_b1] at A12 D12 st12
    have f_b1 : n0 ≤ b1 := Nat.le_trans Zs (Nat.le_of_eq g_b1.symm)
    have Zs := Nat.le_trans Zs E12.1
    have A_b1 := A12
    have F_b1_pivot : Fld Z h12 b1 "com/example/coalesce/coalesce/CuckooTable$CountCoding" "pivot" "I" (.int (0 : Int32)) := D12 (Or.inr (hw _ (List.mem_of_getElem? (i := 19) rfl))) (ty := .int) (by decide)
    have F_b1_runRiceBits : Fld Z h12 b1 "com/example/coalesce/coalesce/CuckooTable$CountCoding" "runRiceBits" "I" (.int (0 : Int32)) := D12 (Or.inr (hw _ (List.mem_of_getElem? (i := 21) rfl))) (ty := .int) (by decide)
    refine Ends.to (T' := T12) (g' := (mkF m 38 #[.val (.int p1), .val (.int p2), .val (.int p3), .val (.int p4), .val (.int pv), .val (.int ct), .unset, .unset, .unset] [(.ref b1)])) (fun tt_ kk_ => st12 tt_ kk_) ?_
    refine Ends.to (T' := T12) (g' := (mkF m 39 #[.val (.int p1), .val (.int p2), .val (.int p3), .val (.int p4), .val (.int pv), .val (.int ct), .unset, .unset, .unset] [(.ref b1), (.ref b1)])) (fun tt_ kk_ => XS.dup X12.here hx rfl (hb hby at_38) rfl rfl kk_) ?_
    refine Ends.to (T' := T12) (g' := (mkF m 41 #[.val (.int p1), .val (.int p2), .val (.int p3), .val (.int p4), .val (.int pv), .val (.int ct), .unset, .unset, .unset] [(.int pv), (.ref b1), (.ref b1)])) (fun tt_ kk_ => XS.iload X12.here hx rfl (hb hby at_39) rfl kk_) ?_
    refine Ends.to (T' := T12) (g' := (mkF m 42 #[.val (.int p1), .val (.int p2), .val (.int p3), .val (.int p4), .val (.int pv), .val (.int ct), .unset, .unset, .unset] [(.int p4), (.int pv), (.ref b1), (.ref b1)])) (fun tt_ kk_ => XS.iloadN X12.here hx rfl (hb hby at_41) rfl kk_) ?_
    obtain ⟨_, _, ⟨T13, L13, k13, n13⟩, -, X13, ⟨Lc13, hQ13, l13, y13, z13⟩, st13⟩ := X12.specialBack hx (y := (⟨"com/example/coalesce/coalesce/CuckooTable$CountCoding", "<init>", "(II)V"⟩ : MethodName)) rfl hown (mvT hZ (hw _ (List.mem_of_getElem? (i := 7) rfl))) (mvT hZ (hw _ (List.mem_of_getElem? (i := 8) rfl))) (mvT hZ (hw _ (List.mem_of_getElem? (i := 9) rfl))) (by decide) (backOf (W := 1) (rm2 l Z a0 hw [] b1 pv p4 h12 n0 Zs F_b1_pivot F_b1_runRiceBits A_b1 f_b1) hZ (hw _ (List.mem_of_getElem? (i := 9) rfl)) (hw _ (List.mem_of_getElem? (i := 6) rfl)) (by decide) (by decide)) (g := (mkF m 42 #[.val (.int p1), .val (.int p2), .val (.int p3), .val (.int p4), .val (.int pv), .val (.int ct), .unset, .unset, .unset] [(.int p4), (.int pv), (.ref b1), (.ref b1)])) rfl (by rw [hml]; rfl) (Steps.refl _) (a := b1) (argsL := [(.int pv), (.int p4)]) (rest := [(.ref b1)]) (lenOf pd_2 rfl) rfl (by show 2 * 0 + _ ≤ _; exact Nat.le_of_eq rfl) (hb hby at_42) (fun _ _ => ⟨rfl, e12, (by decide : 1 + 0 ≤ _), (by decide : 2 + 0 ≤ _)⟩)
    dsimp only [Pt.U, Pt.locs, Pt.cells, Pt.slots] at X13 l13 y13 z13 st13 hQ13
    subst l13 y13 z13
    obtain ⟨rfl, N13q, K13, E13x, G13pivot, G13runRiceBits⟩ := hQ13
    have N13 := Fr.app N11 N13q
    have Zs := Nat.le_trans Zs K13.1
    have A_b1 := Exa.keep A_b1 K13
    have F_b1_pivot := G13pivot
    have F_b1_runRiceBits := G13runRiceBits
    refine Ends.to (T' := T13) (g' := (mkF m 45 #[.val (.int p1), .val (.int p2), .val (.int p3), .val (.int p4), .val (.int pv), .val (.int ct), .unset, .unset, .unset] [(.ref b1)])) (fun tt_ kk_ => st13.trans kk_) ?_
    refine Ends.to (T' := T13) (g' := (mkF m 47 #[.val (.int p1), .val (.int p2), .val (.int p3), .val (.int p4), .val (.int pv), .val (.int ct), .val (.ref b1), .unset, .unset] [])) (fun tt_ kk_ => XS.astore X13.here hx rfl (hb hby at_45) rfl rfl (l' := #[.val (.int p1), .val (.int p2), .val (.int p3), .val (.int p4), .val (.int pv), .val (.int ct), .val (.ref b1), .unset, .unset]) rfl kk_) ?_
    refine Ends.to (T' := T13) (g' := (mkF m 49 #[.val (.int p1), .val (.int p2), .val (.int p3), .val (.int p4), .val (.int pv), .val (.int ct), .val (.ref b1), .unset, .unset] [(.ref b1)])) (fun tt_ kk_ => XS.aload X13.here hx rfl (hb hby at_47) rfl rfl kk_) ?_
    refine Ends.to (T' := T13) (g' := (mkF m 51 #[.val (.int p1), .val (.int p2), .val (.int p3), .val (.int p4), .val (.int pv), .val (.int ct), .val (.ref b1), .unset, .unset] [(.int ct), (.ref b1)])) (fun tt_ kk_ => XS.iload X13.here hx rfl (hb hby at_49) rfl kk_) ?_
    obtain ⟨cq14, kq14, q14a, q14b, q14c⟩ := isOf hZ rfl A_b1
    obtain ⟨_, _, ⟨T14, L14, k14, n14⟩, -, X14, ⟨Lc14, hQ14, l14, y14, z14⟩, st14⟩ := X13.virtualBack hx (y := (⟨"com/example/coalesce/coalesce/CuckooTable$CountCoding", "codeOf", "(I)J"⟩ : MethodName)) (z := (⟨"com/example/coalesce/coalesce/CuckooTable$CountCoding", "codeOf", "(I)J"⟩ : MethodName)) hown (mvT hZ (hw _ (List.mem_of_getElem? (i := 22) rfl))) (mvT hZ (hw _ (List.mem_of_getElem? (i := 23) rfl))) (notFace_of_selects (args := #[]) (mvT hZ (hw _ (List.mem_of_getElem? (i := 25) rfl)))) (mvT hZ (hw _ (List.mem_of_getElem? (i := 25) rfl))) (mvT hZ (hw _ (List.mem_of_getElem? (i := 24) rfl))) (by decide) (backOf (W := 0) (rm5 l Z a0 hw [] b1 ct pv T13.heap n0 Zs F_b1_pivot) hZ (hw _ (List.mem_of_getElem? (i := 26) rfl)) (hw _ (List.mem_of_getElem? (i := 6) rfl)) (by decide) (by decide)) q14a q14c (g := (mkF m 51 #[.val (.int p1), .val (.int p2), .val (.int p3), .val (.int p4), .val (.int pv), .val (.int ct), .val (.ref b1), .unset, .unset] [(.int ct), (.ref b1)])) rfl (by rw [hml]; rfl) (Steps.refl _) (argsL := [(.int ct)]) (rest := []) (lenOf pd_5 rfl) rfl (by show 2 * 0 + _ ≤ _; exact Nat.le_of_eq rfl) (hb hby at_51) (fun _ _ => ⟨rfl, rfl, (by decide : 1 + 0 ≤ _), (by decide : 2 + 0 ≤ _)⟩)
    dsimp only [Pt.U, Pt.locs, Pt.cells, Pt.slots] at X14 l14 y14 z14 st14 hQ14
    subst l14 y14 z14
    obtain ⟨rfl, N14q, e14q⟩ := hQ14
    have N14 := Fr.app N13 N14q
    refine Ends.to (T' := T14) (g' := (mkF m 54 #[.val (.int p1), .val (.int p2), .val (.int p3), .val (.int p4), .val (.int pv), .val (.int ct), .val (.ref b1), .unset, .unset] [(.long (own_code pv ct))])) (fun tt_ kk_ => st14.trans kk_) ?_
    refine Ends.to (T' := T14) (g' := (mkF m 56 #[.val (.int p1), .val (.int p2), .val (.int p3), .val (.int p4), .val (.int pv), .val (.int ct), .val (.ref b1), .val (.long (own_code pv ct)), .second] [])) (fun tt_ kk_ => XS.lstore X14.here hx rfl (hb hby at_54) rfl (l' := #[.val (.int p1), .val (.int p2), .val (.int p3), .val (.int p4), .val (.int pv), .val (.int ct), .val (.ref b1), .val (.long (own_code pv ct)), .second]) rfl kk_) ?_
    refine Ends.to (T' := T14) (g' := (mkF m 58 #[.val (.int p1), .val (.int p2), .val (.int p3), .val (.int p4), .val (.int pv), .val (.int ct), .val (.ref b1), .val (.long (own_code pv ct)), .second] [(.long (own_code pv ct))])) (fun tt_ kk_ => XS.lload X14.here hx rfl (hb hby at_56) rfl kk_) ?_
    refine Ends.to (T' := T14) (g' := (mkF m 59 #[.val (.int p1), .val (.int p2), .val (.int p3), .val (.int p4), .val (.int pv), .val (.int ct), .val (.ref b1), .val (.long (own_code pv ct)), .second] [(.long (0 : Int64)), (.long (own_code pv ct))])) (fun tt_ kk_ => XS.lconst X14.here hx rfl (hb hby at_58) kk_) ?_
    refine Ends.to (T' := T14) (g' := (mkF m 60 #[.val (.int p1), .val (.int p2), .val (.int p3), .val (.int p4), .val (.int pv), .val (.int ct), .val (.ref b1), .val (.long (own_code pv ct)), .second] [(.int (lcmpW (own_code pv ct) (0 : Int64)))])) (fun tt_ kk_ => XS.lcmp X14.here hx rfl (hb hby at_59) rfl kk_) ?_
    refine Ends.to (T' := T14) (g' := (mkF m 65 #[.val (.int p1), .val (.int p2), .val (.int p3), .val (.int p4), .val (.int pv), .val (.int ct), .val (.ref b1), .val (.long (own_code pv ct)), .second] [])) (fun tt_ kk_ => XS.ifYes X14.here hx rfl (pc0 := 60) (pc' := 65) rfl (hb hby at_60) rfl ((if0 _ _).trans (flt (fun q => (own_nnL (own_trip2 rp rc).2.1) ((lw_lt _ _).mp q))).2.1) (by decide) (by decide) kk_) ?_
    refine Ends.to (T' := T14) (g' := (mkF m 67 #[.val (.int p1), .val (.int p2), .val (.int p3), .val (.int p4), .val (.int pv), .val (.int ct), .val (.ref b1), .val (.long (own_code pv ct)), .second] [(.long (own_code pv ct))])) (fun tt_ kk_ => XS.lload X14.here hx rfl (hb hby at_65) rfl kk_) ?_
    refine Ends.to (T' := T14) (g' := (mkF m 68 #[.val (.int p1), .val (.int p2), .val (.int p3), .val (.int p4), .val (.int pv), .val (.int ct), .val (.ref b1), .val (.long (own_code pv ct)), .second] [(.long (0 : Int64)), (.long (own_code pv ct))])) (fun tt_ kk_ => XS.lconst X14.here hx rfl (hb hby at_67) kk_) ?_
    refine Ends.to (T' := T14) (g' := (mkF m 69 #[.val (.int p1), .val (.int p2), .val (.int p3), .val (.int p4), .val (.int pv), .val (.int ct), .val (.ref b1), .val (.long (own_code pv ct)), .second] [(.int (lcmpW (own_code pv ct) (0 : Int64)))])) (fun tt_ kk_ => XS.lcmp X14.here hx rfl (hb hby at_68) rfl kk_) ?_
    by_cases hc69 : (own_code pv ct) = (0 : Int64)
    · refine Ends.to (T' := T14) (g' := (mkF m 72 #[.val (.int p1), .val (.int p2), .val (.int p3), .val (.int p4), .val (.int pv), .val (.int ct), .val (.ref b1), .val (.long (own_code pv ct)), .second] [])) (fun tt_ kk_ => XS.ifNo X14.here hx rfl (hb hby at_69) rfl ((if0 _ _).trans (teq ((lw_eq _ _).mpr hc69)).2) kk_) ?_
      refine Ends.to (T' := T14) (g' := (mkF m 73 #[.val (.int p1), .val (.int p2), .val (.int p3), .val (.int p4), .val (.int pv), .val (.int ct), .val (.ref b1), .val (.long (own_code pv ct)), .second] [(.int (1 : Int32))])) (fun tt_ kk_ => XS.iconst X14.here hx rfl (hb hby at_72) kk_) ?_
      refine Ends.to (T' := T14) (g' := (mkF m 77 #[.val (.int p1), .val (.int p2), .val (.int p3), .val (.int p4), .val (.int pv), .val (.int ct), .val (.ref b1), .val (.long (own_code pv ct)), .second] [(.int (1 : Int32))])) (fun tt_ kk_ => XS.goto X14.here hx rfl (pc0 := 73) (pc' := 77) rfl (hb hby at_73) (by decide) (by decide) kk_) ?_
      refine Ends.to (T' := T14) (g' := (mkF m 79 #[.val (.int p1), .val (.int p2), .val (.int p3), .val (.int p4), .val (.int pv), .val (.int ct), .val (.ref b1), .val (.long (own_code pv ct)), .second] [(.int ct), (.int (1 : Int32))])) (fun tt_ kk_ => XS.iload X14.here hx rfl (hb hby at_77) rfl kk_) ?_
      refine Ends.to (T' := T14) (g' := (mkF m 81 #[.val (.int p1), .val (.int p2), .val (.int p3), .val (.int p4), .val (.int pv), .val (.int ct), .val (.ref b1), .val (.long (own_code pv ct)), .second] [(.int pv), (.int ct), (.int (1 : Int32))])) (fun tt_ kk_ => XS.iload X14.here hx rfl (hb hby at_79) rfl kk_) ?_
      refine Ends.to (T' := T14) (g' := (mkF m 84 #[.val (.int p1), .val (.int p2), .val (.int p3), .val (.int p4), .val (.int pv), .val (.int ct), .val (.ref b1), .val (.long (own_code pv ct)), .second] [(.int (1 : Int32))])) (fun tt_ kk_ => XS.icmpNo X14.here hx rfl (hb hby at_81) rfl (teq ((own_trip2 rp rc).2.2.mp hc69)).2 kk_) ?_
      refine Ends.to (T' := T14) (g' := (mkF m 85 #[.val (.int p1), .val (.int p2), .val (.int p3), .val (.int p4), .val (.int pv), .val (.int ct), .val (.ref b1), .val (.long (own_code pv ct)), .second] [(.int (1 : Int32)), (.int (1 : Int32))])) (fun tt_ kk_ => XS.iconst X14.here hx rfl (hb hby at_84) kk_) ?_
      refine Ends.to (T' := T14) (g' := (mkF m 89 #[.val (.int p1), .val (.int p2), .val (.int p3), .val (.int p4), .val (.int pv), .val (.int ct), .val (.ref b1), .val (.long (own_code pv ct)), .second] [(.int (1 : Int32)), (.int (1 : Int32))])) (fun tt_ kk_ => XS.goto X14.here hx rfl (pc0 := 85) (pc' := 89) rfl (hb hby at_85) (by decide) (by decide) kk_) ?_
      refine Ends.to (T' := T14) (g' := (mkF m 94 #[.val (.int p1), .val (.int p2), .val (.int p3), .val (.int p4), .val (.int pv), .val (.int ct), .val (.ref b1), .val (.long (own_code pv ct)), .second] [])) (fun tt_ kk_ => XS.icmpYes X14.here hx rfl (pc0 := 89) (pc' := 94) rfl (hb hby at_89) rfl (teq (by decide)).1 (by decide) (by decide) kk_) ?_
      refine Ends.to (T' := T14) (g' := (mkF m 96 #[.val (.int p1), .val (.int p2), .val (.int p3), .val (.int p4), .val (.int pv), .val (.int ct), .val (.ref b1), .val (.long (own_code pv ct)), .second] [(.ref b1)])) (fun tt_ kk_ => XS.aload X14.here hx rfl (hb hby at_94) rfl rfl kk_) ?_
      refine Ends.to (T' := T14) (g' := (mkF m 98 #[.val (.int p1), .val (.int p2), .val (.int p3), .val (.int p4), .val (.int pv), .val (.int ct), .val (.ref b1), .val (.long (own_code pv ct)), .second] [(.long (own_code pv ct)), (.ref b1)])) (fun tt_ kk_ => XS.lload X14.here hx rfl (hb hby at_96) rfl kk_) ?_
      obtain ⟨cq15, kq15, q15a, q15b, q15c⟩ := isOf hZ e14q A_b1
      obtain ⟨_, _, ⟨T15, L15, k15, n15⟩, -, X15, ⟨Lc15, hQ15, l15, y15, z15⟩, st15⟩ := X14.virtualBack hx (y := (⟨"com/example/coalesce/coalesce/CuckooTable$CountCoding", "countOf", "(J)I"⟩ : MethodName)) (z := (⟨"com/example/coalesce/coalesce/CuckooTable$CountCoding", "countOf", "(J)I"⟩ : MethodName)) hown (mvT hZ (hw _ (List.mem_of_getElem? (i := 27) rfl))) (mvT hZ (hw _ (List.mem_of_getElem? (i := 28) rfl))) (notFace_of_selects (args := #[]) (mvT hZ (hw _ (List.mem_of_getElem? (i := 30) rfl)))) (mvT hZ (hw _ (List.mem_of_getElem? (i := 30) rfl))) (mvT hZ (hw _ (List.mem_of_getElem? (i := 29) rfl))) (by decide) (backOf (W := 0) (rm6 l Z a0 hw [] b1 (own_code pv ct) pv T13.heap n0 Zs F_b1_pivot) hZ (hw _ (List.mem_of_getElem? (i := 31) rfl)) (hw _ (List.mem_of_getElem? (i := 6) rfl)) (by decide) (by decide)) q15a q15c (g := (mkF m 98 #[.val (.int p1), .val (.int p2), .val (.int p3), .val (.int p4), .val (.int pv), .val (.int ct), .val (.ref b1), .val (.long (own_code pv ct)), .second] [(.long (own_code pv ct)), (.ref b1)])) rfl (by rw [hml]; rfl) (Steps.refl _) (argsL := [(.long (own_code pv ct))]) (rest := []) (lenOf pd_6 rfl) rfl (by show 2 * 0 + _ ≤ _; exact Nat.le_of_eq rfl) (hb hby at_98) (fun _ _ => ⟨rfl, e14q, (by decide : 1 + 0 ≤ _), (by decide : 2 + 0 ≤ _)⟩)
      dsimp only [Pt.U, Pt.locs, Pt.cells, Pt.slots] at X15 l15 y15 z15 st15 hQ15
      subst l15 y15 z15
      obtain ⟨rfl, N15q, e15q⟩ := hQ15
      have N15 := Fr.app N14 N15q
      refine Ends.to (T' := T15) (g' := (mkF m 101 #[.val (.int p1), .val (.int p2), .val (.int p3), .val (.int p4), .val (.int pv), .val (.int ct), .val (.ref b1), .val (.long (own_code pv ct)), .second] [(.int (own_count pv (own_code pv ct)))])) (fun tt_ kk_ => st15.trans kk_) ?_
      refine Ends.to (T' := T15) (g' := (mkF m 103 #[.val (.int p1), .val (.int p2), .val (.int p3), .val (.int p4), .val (.int pv), .val (.int ct), .val (.ref b1), .val (.long (own_code pv ct)), .second] [(.int ct), (.int (own_count pv (own_code pv ct)))])) (fun tt_ kk_ => XS.iload X15.here hx rfl (hb hby at_101) rfl kk_) ?_
      refine Ends.to (T' := T15) (g' := (mkF m 106 #[.val (.int p1), .val (.int p2), .val (.int p3), .val (.int p4), .val (.int pv), .val (.int ct), .val (.ref b1), .val (.long (own_code pv ct)), .second] [])) (fun tt_ kk_ => XS.icmpNo X15.here hx rfl (hb hby at_103) rfl (teq (own_trip2 rp rc).1).2 kk_) ?_
      refine Ends.to (T' := T15) (g' := (mkF m 107 #[.val (.int p1), .val (.int p2), .val (.int p3), .val (.int p4), .val (.int pv), .val (.int ct), .val (.ref b1), .val (.long (own_code pv ct)), .second] [(.int (1 : Int32))])) (fun tt_ kk_ => XS.iconst X15.here hx rfl (hb hby at_106) kk_) ?_
      refine Ends.to (T' := T15) (g' := (mkF m 111 #[.val (.int p1), .val (.int p2), .val (.int p3), .val (.int p4), .val (.int pv), .val (.int ct), .val (.ref b1), .val (.long (own_code pv ct)), .second] [(.int (1 : Int32))])) (fun tt_ kk_ => XS.goto X15.here hx rfl (pc0 := 107) (pc' := 111) rfl (hb hby at_107) (by decide) (by decide) kk_) ?_
      exact Ends.retN (t := .boolean) (by simp) X15 hx hret (hb hby at_111) hlk (by decide) (by decide) ⟨by decide, N15⟩
    · refine Ends.to (T' := T14) (g' := (mkF m 76 #[.val (.int p1), .val (.int p2), .val (.int p3), .val (.int p4), .val (.int pv), .val (.int ct), .val (.ref b1), .val (.long (own_code pv ct)), .second] [])) (fun tt_ kk_ => XS.ifYes X14.here hx rfl (pc0 := 69) (pc' := 76) rfl (hb hby at_69) rfl ((if0 _ _).trans (feq (fun q => hc69 ((lw_eq _ _).mp q))).2) (by decide) (by decide) kk_) ?_
      refine Ends.to (T' := T14) (g' := (mkF m 77 #[.val (.int p1), .val (.int p2), .val (.int p3), .val (.int p4), .val (.int pv), .val (.int ct), .val (.ref b1), .val (.long (own_code pv ct)), .second] [(.int (0 : Int32))])) (fun tt_ kk_ => XS.iconst X14.here hx rfl (hb hby at_76) kk_) ?_
      refine Ends.to (T' := T14) (g' := (mkF m 79 #[.val (.int p1), .val (.int p2), .val (.int p3), .val (.int p4), .val (.int pv), .val (.int ct), .val (.ref b1), .val (.long (own_code pv ct)), .second] [(.int ct), (.int (0 : Int32))])) (fun tt_ kk_ => XS.iload X14.here hx rfl (hb hby at_77) rfl kk_) ?_
      refine Ends.to (T' := T14) (g' := (mkF m 81 #[.val (.int p1), .val (.int p2), .val (.int p3), .val (.int p4), .val (.int pv), .val (.int ct), .val (.ref b1), .val (.long (own_code pv ct)), .second] [(.int pv), (.int ct), (.int (0 : Int32))])) (fun tt_ kk_ => XS.iload X14.here hx rfl (hb hby at_79) rfl kk_) ?_
      refine Ends.to (T' := T14) (g' := (mkF m 88 #[.val (.int p1), .val (.int p2), .val (.int p3), .val (.int p4), .val (.int pv), .val (.int ct), .val (.ref b1), .val (.long (own_code pv ct)), .second] [(.int (0 : Int32))])) (fun tt_ kk_ => XS.icmpYes X14.here hx rfl (pc0 := 81) (pc' := 88) rfl (hb hby at_81) rfl (feq (fun q => hc69 ((own_trip2 rp rc).2.2.mpr q))).2 (by decide) (by decide) kk_) ?_
      refine Ends.to (T' := T14) (g' := (mkF m 89 #[.val (.int p1), .val (.int p2), .val (.int p3), .val (.int p4), .val (.int pv), .val (.int ct), .val (.ref b1), .val (.long (own_code pv ct)), .second] [(.int (0 : Int32)), (.int (0 : Int32))])) (fun tt_ kk_ => XS.iconst X14.here hx rfl (hb hby at_88) kk_) ?_
      refine Ends.to (T' := T14) (g' := (mkF m 94 #[.val (.int p1), .val (.int p2), .val (.int p3), .val (.int p4), .val (.int pv), .val (.int ct), .val (.ref b1), .val (.long (own_code pv ct)), .second] [])) (fun tt_ kk_ => XS.icmpYes X14.here hx rfl (pc0 := 89) (pc' := 94) rfl (hb hby at_89) rfl (teq (by decide)).1 (by decide) (by decide) kk_) ?_
      refine Ends.to (T' := T14) (g' := (mkF m 96 #[.val (.int p1), .val (.int p2), .val (.int p3), .val (.int p4), .val (.int pv), .val (.int ct), .val (.ref b1), .val (.long (own_code pv ct)), .second] [(.ref b1)])) (fun tt_ kk_ => XS.aload X14.here hx rfl (hb hby at_94) rfl rfl kk_) ?_
      refine Ends.to (T' := T14) (g' := (mkF m 98 #[.val (.int p1), .val (.int p2), .val (.int p3), .val (.int p4), .val (.int pv), .val (.int ct), .val (.ref b1), .val (.long (own_code pv ct)), .second] [(.long (own_code pv ct)), (.ref b1)])) (fun tt_ kk_ => XS.lload X14.here hx rfl (hb hby at_96) rfl kk_) ?_
      obtain ⟨cq16, kq16, q16a, q16b, q16c⟩ := isOf hZ e14q A_b1
      obtain ⟨_, _, ⟨T16, L16, k16, n16⟩, -, X16, ⟨Lc16, hQ16, l16, y16, z16⟩, st16⟩ := X14.virtualBack hx (y := (⟨"com/example/coalesce/coalesce/CuckooTable$CountCoding", "countOf", "(J)I"⟩ : MethodName)) (z := (⟨"com/example/coalesce/coalesce/CuckooTable$CountCoding", "countOf", "(J)I"⟩ : MethodName)) hown (mvT hZ (hw _ (List.mem_of_getElem? (i := 27) rfl))) (mvT hZ (hw _ (List.mem_of_getElem? (i := 28) rfl))) (notFace_of_selects (args := #[]) (mvT hZ (hw _ (List.mem_of_getElem? (i := 30) rfl)))) (mvT hZ (hw _ (List.mem_of_getElem? (i := 30) rfl))) (mvT hZ (hw _ (List.mem_of_getElem? (i := 29) rfl))) (by decide) (backOf (W := 0) (rm6 l Z a0 hw [] b1 (own_code pv ct) pv T13.heap n0 Zs F_b1_pivot) hZ (hw _ (List.mem_of_getElem? (i := 31) rfl)) (hw _ (List.mem_of_getElem? (i := 6) rfl)) (by decide) (by decide)) q16a q16c (g := (mkF m 98 #[.val (.int p1), .val (.int p2), .val (.int p3), .val (.int p4), .val (.int pv), .val (.int ct), .val (.ref b1), .val (.long (own_code pv ct)), .second] [(.long (own_code pv ct)), (.ref b1)])) rfl (by rw [hml]; rfl) (Steps.refl _) (argsL := [(.long (own_code pv ct))]) (rest := []) (lenOf pd_6 rfl) rfl (by show 2 * 0 + _ ≤ _; exact Nat.le_of_eq rfl) (hb hby at_98) (fun _ _ => ⟨rfl, e14q, (by decide : 1 + 0 ≤ _), (by decide : 2 + 0 ≤ _)⟩)
      dsimp only [Pt.U, Pt.locs, Pt.cells, Pt.slots] at X16 l16 y16 z16 st16 hQ16
      subst l16 y16 z16
      obtain ⟨rfl, N16q, e16q⟩ := hQ16
      have N16 := Fr.app N14 N16q
      refine Ends.to (T' := T16) (g' := (mkF m 101 #[.val (.int p1), .val (.int p2), .val (.int p3), .val (.int p4), .val (.int pv), .val (.int ct), .val (.ref b1), .val (.long (own_code pv ct)), .second] [(.int (own_count pv (own_code pv ct)))])) (fun tt_ kk_ => st16.trans kk_) ?_
      refine Ends.to (T' := T16) (g' := (mkF m 103 #[.val (.int p1), .val (.int p2), .val (.int p3), .val (.int p4), .val (.int pv), .val (.int ct), .val (.ref b1), .val (.long (own_code pv ct)), .second] [(.int ct), (.int (own_count pv (own_code pv ct)))])) (fun tt_ kk_ => XS.iload X16.here hx rfl (hb hby at_101) rfl kk_) ?_
      refine Ends.to (T' := T16) (g' := (mkF m 106 #[.val (.int p1), .val (.int p2), .val (.int p3), .val (.int p4), .val (.int pv), .val (.int ct), .val (.ref b1), .val (.long (own_code pv ct)), .second] [])) (fun tt_ kk_ => XS.icmpNo X16.here hx rfl (hb hby at_103) rfl (teq (own_trip2 rp rc).1).2 kk_) ?_
      refine Ends.to (T' := T16) (g' := (mkF m 107 #[.val (.int p1), .val (.int p2), .val (.int p3), .val (.int p4), .val (.int pv), .val (.int ct), .val (.ref b1), .val (.long (own_code pv ct)), .second] [(.int (1 : Int32))])) (fun tt_ kk_ => XS.iconst X16.here hx rfl (hb hby at_106) kk_) ?_
      refine Ends.to (T' := T16) (g' := (mkF m 111 #[.val (.int p1), .val (.int p2), .val (.int p3), .val (.int p4), .val (.int pv), .val (.int ct), .val (.ref b1), .val (.long (own_code pv ct)), .second] [(.int (1 : Int32))])) (fun tt_ kk_ => XS.goto X16.here hx rfl (pc0 := 107) (pc' := 111) rfl (hb hby at_107) (by decide) (by decide) kk_) ?_
      exact Ends.retN (t := .boolean) (by simp) X16 hx hret (hb hby at_111) hlk (by decide) (by decide) ⟨by decide, N16⟩
  · refine Ends.to (T' := s₁) (g' := (mkF m 29 #[.val (.int p1), .val (.int p2), .val (.int p3), .val (.int p4), .val (.int pv), .unset, .unset, .unset, .unset] [])) (fun tt_ kk_ => XS.ifYes X0.here hx rfl (pc0 := 10) (pc' := 29) rfl (hb hby at_10) rfl ((if0 _ _).trans (feq hc10).2) (by decide) (by decide) kk_) ?_
    refine Ends.to (T' := s₁) (g' := (mkF m 30 #[.val (.int p1), .val (.int p2), .val (.int p3), .val (.int p4), .val (.int pv), .unset, .unset, .unset, .unset] [(.int p2)])) (fun tt_ kk_ => XS.iloadN X0.here hx rfl (hb hby at_29) rfl kk_) ?_
    refine Ends.to (T' := s₁) (g' := (mkF m 32 #[.val (.int p1), .val (.int p2), .val (.int p3), .val (.int p4), .val (.int pv), .unset, .unset, .unset, .unset] [(.int (2147483647 : Int32)), (.int p2)])) (fun tt_ kk_ => X0.ldcInt hx hown (mvT hZ (hw _ (List.mem_of_getElem? (i := 32) rfl))) (g := (mkF m 30 #[.val (.int p1), .val (.int p2), .val (.int p3), .val (.int p4), .val (.int pv), .unset, .unset, .unset, .unset] [(.int p2)])) rfl (hb hby at_30) _ kk_) ?_
    refine Ends.to (T' := s₁) (g' := (mkF m 33 #[.val (.int p1), .val (.int p2), .val (.int p3), .val (.int p4), .val (.int pv), .unset, .unset, .unset, .unset] [(.int (p2 &&& (2147483647 : Int32)))])) (fun tt_ kk_ => XS.iand X0.here hx rfl (hb hby at_32) rfl kk_) ?_
    refine Ends.to (T' := s₁) (g' := (mkF m 35 #[.val (.int p1), .val (.int p2), .val (.int p3), .val (.int p4), .val (.int pv), .val (.int (p2 &&& (2147483647 : Int32))), .unset, .unset, .unset] [])) (fun tt_ kk_ => XS.istore X0.here hx rfl (hb hby at_33) rfl (l' := #[.val (.int p1), .val (.int p2), .val (.int p3), .val (.int p4), .val (.int pv), .val (.int (p2 &&& (2147483647 : Int32))), .unset, .unset, .unset]) rfl kk_) ?_
    generalize hct : (p2 &&& (2147483647 : Int32)) = ct
    have rc := own_31 hct
    obtain ⟨T17, h17, X17, e17, E17, A17, D17, -, st17⟩ := newO X0 hx hZ hown (hw _ (List.mem_of_getElem? (i := 4) rfl)) (hw _ (List.mem_of_getElem? (i := 5) rfl)) (hw _ (List.mem_of_getElem? (i := 6) rfl)) e0 (g := (mkF m 35 #[.val (.int p1), .val (.int p2), .val (.int p3), .val (.int p4), .val (.int pv), .val (.int ct), .unset, .unset, .unset] [])) rfl (hb hby at_35) (by decide) (by decide)
    obtain ⟨b1, g_b1⟩ : ∃ z, z = h0.size := ⟨_, rfl⟩
    rw [← g_b1] at A17 D17 st17
    have f_b1 : n0 ≤ b1 := Nat.le_trans Zs (Nat.le_of_eq g_b1.symm)
    have Zs := Nat.le_trans Zs E17.1
    have A_b1 := A17
    have F_b1_pivot : Fld Z h17 b1 "com/example/coalesce/coalesce/CuckooTable$CountCoding" "pivot" "I" (.int (0 : Int32)) := D17 (Or.inr (hw _ (List.mem_of_getElem? (i := 19) rfl))) (ty := .int) (by decide)
    have F_b1_runRiceBits : Fld Z h17 b1 "com/example/coalesce/coalesce/CuckooTable$CountCoding" "runRiceBits" "I" (.int (0 : Int32)) := D17 (Or.inr (hw _ (List.mem_of_getElem? (i := 21) rfl))) (ty := .int) (by decide)
    refine Ends.to (T' := T17) (g' := (mkF m 38 #[.val (.int p1), .val (.int p2), .val (.int p3), .val (.int p4), .val (.int pv), .val (.int ct), .unset, .unset, .unset] [(.ref b1)])) (fun tt_ kk_ => st17 tt_ kk_) ?_
    refine Ends.to (T' := T17) (g' := (mkF m 39 #[.val (.int p1), .val (.int p2), .val (.int p3), .val (.int p4), .val (.int pv), .val (.int ct), .unset, .unset, .unset] [(.ref b1), (.ref b1)])) (fun tt_ kk_ => XS.dup X17.here hx rfl (hb hby at_38) rfl rfl kk_) ?_
    refine Ends.to (T' := T17) (g' := (mkF m 41 #[.val (.int p1), .val (.int p2), .val (.int p3), .val (.int p4), .val (.int pv), .val (.int ct), .unset, .unset, .unset] [(.int pv), (.ref b1), (.ref b1)])) (fun tt_ kk_ => XS.iload X17.here hx rfl (hb hby at_39) rfl kk_) ?_
    refine Ends.to (T' := T17) (g' := (mkF m 42 #[.val (.int p1), .val (.int p2), .val (.int p3), .val (.int p4), .val (.int pv), .val (.int ct), .unset, .unset, .unset] [(.int p4), (.int pv), (.ref b1), (.ref b1)])) (fun tt_ kk_ => XS.iloadN X17.here hx rfl (hb hby at_41) rfl kk_) ?_
    obtain ⟨_, _, ⟨T18, L18, k18, n18⟩, -, X18, ⟨Lc18, hQ18, l18, y18, z18⟩, st18⟩ := X17.specialBack hx (y := (⟨"com/example/coalesce/coalesce/CuckooTable$CountCoding", "<init>", "(II)V"⟩ : MethodName)) rfl hown (mvT hZ (hw _ (List.mem_of_getElem? (i := 7) rfl))) (mvT hZ (hw _ (List.mem_of_getElem? (i := 8) rfl))) (mvT hZ (hw _ (List.mem_of_getElem? (i := 9) rfl))) (by decide) (backOf (W := 1) (rm2 l Z a0 hw [] b1 pv p4 h17 n0 Zs F_b1_pivot F_b1_runRiceBits A_b1 f_b1) hZ (hw _ (List.mem_of_getElem? (i := 9) rfl)) (hw _ (List.mem_of_getElem? (i := 6) rfl)) (by decide) (by decide)) (g := (mkF m 42 #[.val (.int p1), .val (.int p2), .val (.int p3), .val (.int p4), .val (.int pv), .val (.int ct), .unset, .unset, .unset] [(.int p4), (.int pv), (.ref b1), (.ref b1)])) rfl (by rw [hml]; rfl) (Steps.refl _) (a := b1) (argsL := [(.int pv), (.int p4)]) (rest := [(.ref b1)]) (lenOf pd_2 rfl) rfl (by show 2 * 0 + _ ≤ _; exact Nat.le_of_eq rfl) (hb hby at_42) (fun _ _ => ⟨rfl, e17, (by decide : 1 + 0 ≤ _), (by decide : 2 + 0 ≤ _)⟩)
    dsimp only [Pt.U, Pt.locs, Pt.cells, Pt.slots] at X18 l18 y18 z18 st18 hQ18
    subst l18 y18 z18
    obtain ⟨rfl, N18q, K18, E18x, G18pivot, G18runRiceBits⟩ := hQ18
    have N18 := Fr.app N0 N18q
    have Zs := Nat.le_trans Zs K18.1
    have A_b1 := Exa.keep A_b1 K18
    have F_b1_pivot := G18pivot
    have F_b1_runRiceBits := G18runRiceBits
    refine Ends.to (T' := T18) (g' := (mkF m 45 #[.val (.int p1), .val (.int p2), .val (.int p3), .val (.int p4), .val (.int pv), .val (.int ct), .unset, .unset, .unset] [(.ref b1)])) (fun tt_ kk_ => st18.trans kk_) ?_
    refine Ends.to (T' := T18) (g' := (mkF m 47 #[.val (.int p1), .val (.int p2), .val (.int p3), .val (.int p4), .val (.int pv), .val (.int ct), .val (.ref b1), .unset, .unset] [])) (fun tt_ kk_ => XS.astore X18.here hx rfl (hb hby at_45) rfl rfl (l' := #[.val (.int p1), .val (.int p2), .val (.int p3), .val (.int p4), .val (.int pv), .val (.int ct), .val (.ref b1), .unset, .unset]) rfl kk_) ?_
    refine Ends.to (T' := T18) (g' := (mkF m 49 #[.val (.int p1), .val (.int p2), .val (.int p3), .val (.int p4), .val (.int pv), .val (.int ct), .val (.ref b1), .unset, .unset] [(.ref b1)])) (fun tt_ kk_ => XS.aload X18.here hx rfl (hb hby at_47) rfl rfl kk_) ?_
    refine Ends.to (T' := T18) (g' := (mkF m 51 #[.val (.int p1), .val (.int p2), .val (.int p3), .val (.int p4), .val (.int pv), .val (.int ct), .val (.ref b1), .unset, .unset] [(.int ct), (.ref b1)])) (fun tt_ kk_ => XS.iload X18.here hx rfl (hb hby at_49) rfl kk_) ?_
    obtain ⟨cq19, kq19, q19a, q19b, q19c⟩ := isOf hZ rfl A_b1
    obtain ⟨_, _, ⟨T19, L19, k19, n19⟩, -, X19, ⟨Lc19, hQ19, l19, y19, z19⟩, st19⟩ := X18.virtualBack hx (y := (⟨"com/example/coalesce/coalesce/CuckooTable$CountCoding", "codeOf", "(I)J"⟩ : MethodName)) (z := (⟨"com/example/coalesce/coalesce/CuckooTable$CountCoding", "codeOf", "(I)J"⟩ : MethodName)) hown (mvT hZ (hw _ (List.mem_of_getElem? (i := 22) rfl))) (mvT hZ (hw _ (List.mem_of_getElem? (i := 23) rfl))) (notFace_of_selects (args := #[]) (mvT hZ (hw _ (List.mem_of_getElem? (i := 25) rfl)))) (mvT hZ (hw _ (List.mem_of_getElem? (i := 25) rfl))) (mvT hZ (hw _ (List.mem_of_getElem? (i := 24) rfl))) (by decide) (backOf (W := 0) (rm5 l Z a0 hw [] b1 ct pv T18.heap n0 Zs F_b1_pivot) hZ (hw _ (List.mem_of_getElem? (i := 26) rfl)) (hw _ (List.mem_of_getElem? (i := 6) rfl)) (by decide) (by decide)) q19a q19c (g := (mkF m 51 #[.val (.int p1), .val (.int p2), .val (.int p3), .val (.int p4), .val (.int pv), .val (.int ct), .val (.ref b1), .unset, .unset] [(.int ct), (.ref b1)])) rfl (by rw [hml]; rfl) (Steps.refl _) (argsL := [(.int ct)]) (rest := []) (lenOf pd_5 rfl) rfl (by show 2 * 0 + _ ≤ _; exact Nat.le_of_eq rfl) (hb hby at_51) (fun _ _ => ⟨rfl, rfl, (by decide : 1 + 0 ≤ _), (by decide : 2 + 0 ≤ _)⟩)
    dsimp only [Pt.U, Pt.locs, Pt.cells, Pt.slots] at X19 l19 y19 z19 st19 hQ19
    subst l19 y19 z19
    obtain ⟨rfl, N19q, e19q⟩ := hQ19
    have N19 := Fr.app N18 N19q
    refine Ends.to (T' := T19) (g' := (mkF m 54 #[.val (.int p1), .val (.int p2), .val (.int p3), .val (.int p4), .val (.int pv), .val (.int ct), .val (.ref b1), .unset, .unset] [(.long (own_code pv ct))])) (fun tt_ kk_ => st19.trans kk_) ?_
    refine Ends.to (T' := T19) (g' := (mkF m 56 #[.val (.int p1), .val (.int p2), .val (.int p3), .val (.int p4), .val (.int pv), .val (.int ct), .val (.ref b1), .val (.long (own_code pv ct)), .second] [])) (fun tt_ kk_ => XS.lstore X19.here hx rfl (hb hby at_54) rfl (l' := #[.val (.int p1), .val (.int p2), .val (.int p3), .val (.int p4), .val (.int pv), .val (.int ct), .val (.ref b1), .val (.long (own_code pv ct)), .second]) rfl kk_) ?_
    refine Ends.to (T' := T19) (g' := (mkF m 58 #[.val (.int p1), .val (.int p2), .val (.int p3), .val (.int p4), .val (.int pv), .val (.int ct), .val (.ref b1), .val (.long (own_code pv ct)), .second] [(.long (own_code pv ct))])) (fun tt_ kk_ => XS.lload X19.here hx rfl (hb hby at_56) rfl kk_) ?_
    refine Ends.to (T' := T19) (g' := (mkF m 59 #[.val (.int p1), .val (.int p2), .val (.int p3), .val (.int p4), .val (.int pv), .val (.int ct), .val (.ref b1), .val (.long (own_code pv ct)), .second] [(.long (0 : Int64)), (.long (own_code pv ct))])) (fun tt_ kk_ => XS.lconst X19.here hx rfl (hb hby at_58) kk_) ?_
    refine Ends.to (T' := T19) (g' := (mkF m 60 #[.val (.int p1), .val (.int p2), .val (.int p3), .val (.int p4), .val (.int pv), .val (.int ct), .val (.ref b1), .val (.long (own_code pv ct)), .second] [(.int (lcmpW (own_code pv ct) (0 : Int64)))])) (fun tt_ kk_ => XS.lcmp X19.here hx rfl (hb hby at_59) rfl kk_) ?_
    refine Ends.to (T' := T19) (g' := (mkF m 65 #[.val (.int p1), .val (.int p2), .val (.int p3), .val (.int p4), .val (.int pv), .val (.int ct), .val (.ref b1), .val (.long (own_code pv ct)), .second] [])) (fun tt_ kk_ => XS.ifYes X19.here hx rfl (pc0 := 60) (pc' := 65) rfl (hb hby at_60) rfl ((if0 _ _).trans (flt (fun q => (own_nnL (own_trip2 rp rc).2.1) ((lw_lt _ _).mp q))).2.1) (by decide) (by decide) kk_) ?_
    refine Ends.to (T' := T19) (g' := (mkF m 67 #[.val (.int p1), .val (.int p2), .val (.int p3), .val (.int p4), .val (.int pv), .val (.int ct), .val (.ref b1), .val (.long (own_code pv ct)), .second] [(.long (own_code pv ct))])) (fun tt_ kk_ => XS.lload X19.here hx rfl (hb hby at_65) rfl kk_) ?_
    refine Ends.to (T' := T19) (g' := (mkF m 68 #[.val (.int p1), .val (.int p2), .val (.int p3), .val (.int p4), .val (.int pv), .val (.int ct), .val (.ref b1), .val (.long (own_code pv ct)), .second] [(.long (0 : Int64)), (.long (own_code pv ct))])) (fun tt_ kk_ => XS.lconst X19.here hx rfl (hb hby at_67) kk_) ?_
    refine Ends.to (T' := T19) (g' := (mkF m 69 #[.val (.int p1), .val (.int p2), .val (.int p3), .val (.int p4), .val (.int pv), .val (.int ct), .val (.ref b1), .val (.long (own_code pv ct)), .second] [(.int (lcmpW (own_code pv ct) (0 : Int64)))])) (fun tt_ kk_ => XS.lcmp X19.here hx rfl (hb hby at_68) rfl kk_) ?_
    by_cases hc69 : (own_code pv ct) = (0 : Int64)
    · refine Ends.to (T' := T19) (g' := (mkF m 72 #[.val (.int p1), .val (.int p2), .val (.int p3), .val (.int p4), .val (.int pv), .val (.int ct), .val (.ref b1), .val (.long (own_code pv ct)), .second] [])) (fun tt_ kk_ => XS.ifNo X19.here hx rfl (hb hby at_69) rfl ((if0 _ _).trans (teq ((lw_eq _ _).mpr hc69)).2) kk_) ?_
      refine Ends.to (T' := T19) (g' := (mkF m 73 #[.val (.int p1), .val (.int p2), .val (.int p3), .val (.int p4), .val (.int pv), .val (.int ct), .val (.ref b1), .val (.long (own_code pv ct)), .second] [(.int (1 : Int32))])) (fun tt_ kk_ => XS.iconst X19.here hx rfl (hb hby at_72) kk_) ?_
      refine Ends.to (T' := T19) (g' := (mkF m 77 #[.val (.int p1), .val (.int p2), .val (.int p3), .val (.int p4), .val (.int pv), .val (.int ct), .val (.ref b1), .val (.long (own_code pv ct)), .second] [(.int (1 : Int32))])) (fun tt_ kk_ => XS.goto X19.here hx rfl (pc0 := 73) (pc' := 77) rfl (hb hby at_73) (by decide) (by decide) kk_) ?_
      refine Ends.to (T' := T19) (g' := (mkF m 79 #[.val (.int p1), .val (.int p2), .val (.int p3), .val (.int p4), .val (.int pv), .val (.int ct), .val (.ref b1), .val (.long (own_code pv ct)), .second] [(.int ct), (.int (1 : Int32))])) (fun tt_ kk_ => XS.iload X19.here hx rfl (hb hby at_77) rfl kk_) ?_
      refine Ends.to (T' := T19) (g' := (mkF m 81 #[.val (.int p1), .val (.int p2), .val (.int p3), .val (.int p4), .val (.int pv), .val (.int ct), .val (.ref b1), .val (.long (own_code pv ct)), .second] [(.int pv), (.int ct), (.int (1 : Int32))])) (fun tt_ kk_ => XS.iload X19.here hx rfl (hb hby at_79) rfl kk_) ?_
      refine Ends.to (T' := T19) (g' := (mkF m 84 #[.val (.int p1), .val (.int p2), .val (.int p3), .val (.int p4), .val (.int pv), .val (.int ct), .val (.ref b1), .val (.long (own_code pv ct)), .second] [(.int (1 : Int32))])) (fun tt_ kk_ => XS.icmpNo X19.here hx rfl (hb hby at_81) rfl (teq ((own_trip2 rp rc).2.2.mp hc69)).2 kk_) ?_
      refine Ends.to (T' := T19) (g' := (mkF m 85 #[.val (.int p1), .val (.int p2), .val (.int p3), .val (.int p4), .val (.int pv), .val (.int ct), .val (.ref b1), .val (.long (own_code pv ct)), .second] [(.int (1 : Int32)), (.int (1 : Int32))])) (fun tt_ kk_ => XS.iconst X19.here hx rfl (hb hby at_84) kk_) ?_
      refine Ends.to (T' := T19) (g' := (mkF m 89 #[.val (.int p1), .val (.int p2), .val (.int p3), .val (.int p4), .val (.int pv), .val (.int ct), .val (.ref b1), .val (.long (own_code pv ct)), .second] [(.int (1 : Int32)), (.int (1 : Int32))])) (fun tt_ kk_ => XS.goto X19.here hx rfl (pc0 := 85) (pc' := 89) rfl (hb hby at_85) (by decide) (by decide) kk_) ?_
      refine Ends.to (T' := T19) (g' := (mkF m 94 #[.val (.int p1), .val (.int p2), .val (.int p3), .val (.int p4), .val (.int pv), .val (.int ct), .val (.ref b1), .val (.long (own_code pv ct)), .second] [])) (fun tt_ kk_ => XS.icmpYes X19.here hx rfl (pc0 := 89) (pc' := 94) rfl (hb hby at_89) rfl (teq (by decide)).1 (by decide) (by decide) kk_) ?_
      refine Ends.to (T' := T19) (g' := (mkF m 96 #[.val (.int p1), .val (.int p2), .val (.int p3), .val (.int p4), .val (.int pv), .val (.int ct), .val (.ref b1), .val (.long (own_code pv ct)), .second] [(.ref b1)])) (fun tt_ kk_ => XS.aload X19.here hx rfl (hb hby at_94) rfl rfl kk_) ?_
      refine Ends.to (T' := T19) (g' := (mkF m 98 #[.val (.int p1), .val (.int p2), .val (.int p3), .val (.int p4), .val (.int pv), .val (.int ct), .val (.ref b1), .val (.long (own_code pv ct)), .second] [(.long (own_code pv ct)), (.ref b1)])) (fun tt_ kk_ => XS.lload X19.here hx rfl (hb hby at_96) rfl kk_) ?_
      obtain ⟨cq20, kq20, q20a, q20b, q20c⟩ := isOf hZ e19q A_b1
      obtain ⟨_, _, ⟨T20, L20, k20, n20⟩, -, X20, ⟨Lc20, hQ20, l20, y20, z20⟩, st20⟩ := X19.virtualBack hx (y := (⟨"com/example/coalesce/coalesce/CuckooTable$CountCoding", "countOf", "(J)I"⟩ : MethodName)) (z := (⟨"com/example/coalesce/coalesce/CuckooTable$CountCoding", "countOf", "(J)I"⟩ : MethodName)) hown (mvT hZ (hw _ (List.mem_of_getElem? (i := 27) rfl))) (mvT hZ (hw _ (List.mem_of_getElem? (i := 28) rfl))) (notFace_of_selects (args := #[]) (mvT hZ (hw _ (List.mem_of_getElem? (i := 30) rfl)))) (mvT hZ (hw _ (List.mem_of_getElem? (i := 30) rfl))) (mvT hZ (hw _ (List.mem_of_getElem? (i := 29) rfl))) (by decide) (backOf (W := 0) (rm6 l Z a0 hw [] b1 (own_code pv ct) pv T18.heap n0 Zs F_b1_pivot) hZ (hw _ (List.mem_of_getElem? (i := 31) rfl)) (hw _ (List.mem_of_getElem? (i := 6) rfl)) (by decide) (by decide)) q20a q20c (g := (mkF m 98 #[.val (.int p1), .val (.int p2), .val (.int p3), .val (.int p4), .val (.int pv), .val (.int ct), .val (.ref b1), .val (.long (own_code pv ct)), .second] [(.long (own_code pv ct)), (.ref b1)])) rfl (by rw [hml]; rfl) (Steps.refl _) (argsL := [(.long (own_code pv ct))]) (rest := []) (lenOf pd_6 rfl) rfl (by show 2 * 0 + _ ≤ _; exact Nat.le_of_eq rfl) (hb hby at_98) (fun _ _ => ⟨rfl, e19q, (by decide : 1 + 0 ≤ _), (by decide : 2 + 0 ≤ _)⟩)
      dsimp only [Pt.U, Pt.locs, Pt.cells, Pt.slots] at X20 l20 y20 z20 st20 hQ20
      subst l20 y20 z20
      obtain ⟨rfl, N20q, e20q⟩ := hQ20
      have N20 := Fr.app N19 N20q
      refine Ends.to (T' := T20) (g' := (mkF m 101 #[.val (.int p1), .val (.int p2), .val (.int p3), .val (.int p4), .val (.int pv), .val (.int ct), .val (.ref b1), .val (.long (own_code pv ct)), .second] [(.int (own_count pv (own_code pv ct)))])) (fun tt_ kk_ => st20.trans kk_) ?_
      refine Ends.to (T' := T20) (g' := (mkF m 103 #[.val (.int p1), .val (.int p2), .val (.int p3), .val (.int p4), .val (.int pv), .val (.int ct), .val (.ref b1), .val (.long (own_code pv ct)), .second] [(.int ct), (.int (own_count pv (own_code pv ct)))])) (fun tt_ kk_ => XS.iload X20.here hx rfl (hb hby at_101) rfl kk_) ?_
      refine Ends.to (T' := T20) (g' := (mkF m 106 #[.val (.int p1), .val (.int p2), .val (.int p3), .val (.int p4), .val (.int pv), .val (.int ct), .val (.ref b1), .val (.long (own_code pv ct)), .second] [])) (fun tt_ kk_ => XS.icmpNo X20.here hx rfl (hb hby at_103) rfl (teq (own_trip2 rp rc).1).2 kk_) ?_
      refine Ends.to (T' := T20) (g' := (mkF m 107 #[.val (.int p1), .val (.int p2), .val (.int p3), .val (.int p4), .val (.int pv), .val (.int ct), .val (.ref b1), .val (.long (own_code pv ct)), .second] [(.int (1 : Int32))])) (fun tt_ kk_ => XS.iconst X20.here hx rfl (hb hby at_106) kk_) ?_
      refine Ends.to (T' := T20) (g' := (mkF m 111 #[.val (.int p1), .val (.int p2), .val (.int p3), .val (.int p4), .val (.int pv), .val (.int ct), .val (.ref b1), .val (.long (own_code pv ct)), .second] [(.int (1 : Int32))])) (fun tt_ kk_ => XS.goto X20.here hx rfl (pc0 := 107) (pc' := 111) rfl (hb hby at_107) (by decide) (by decide) kk_) ?_
      exact Ends.retN (t := .boolean) (by simp) X20 hx hret (hb hby at_111) hlk (by decide) (by decide) ⟨by decide, N20⟩
    · refine Ends.to (T' := T19) (g' := (mkF m 76 #[.val (.int p1), .val (.int p2), .val (.int p3), .val (.int p4), .val (.int pv), .val (.int ct), .val (.ref b1), .val (.long (own_code pv ct)), .second] [])) (fun tt_ kk_ => XS.ifYes X19.here hx rfl (pc0 := 69) (pc' := 76) rfl (hb hby at_69) rfl ((if0 _ _).trans (feq (fun q => hc69 ((lw_eq _ _).mp q))).2) (by decide) (by decide) kk_) ?_
      refine Ends.to (T' := T19) (g' := (mkF m 77 #[.val (.int p1), .val (.int p2), .val (.int p3), .val (.int p4), .val (.int pv), .val (.int ct), .val (.ref b1), .val (.long (own_code pv ct)), .second] [(.int (0 : Int32))])) (fun tt_ kk_ => XS.iconst X19.here hx rfl (hb hby at_76) kk_) ?_
      refine Ends.to (T' := T19) (g' := (mkF m 79 #[.val (.int p1), .val (.int p2), .val (.int p3), .val (.int p4), .val (.int pv), .val (.int ct), .val (.ref b1), .val (.long (own_code pv ct)), .second] [(.int ct), (.int (0 : Int32))])) (fun tt_ kk_ => XS.iload X19.here hx rfl (hb hby at_77) rfl kk_) ?_
      refine Ends.to (T' := T19) (g' := (mkF m 81 #[.val (.int p1), .val (.int p2), .val (.int p3), .val (.int p4), .val (.int pv), .val (.int ct), .val (.ref b1), .val (.long (own_code pv ct)), .second] [(.int pv), (.int ct), (.int (0 : Int32))])) (fun tt_ kk_ => XS.iload X19.here hx rfl (hb hby at_79) rfl kk_) ?_
      refine Ends.to (T' := T19) (g' := (mkF m 88 #[.val (.int p1), .val (.int p2), .val (.int p3), .val (.int p4), .val (.int pv), .val (.int ct), .val (.ref b1), .val (.long (own_code pv ct)), .second] [(.int (0 : Int32))])) (fun tt_ kk_ => XS.icmpYes X19.here hx rfl (pc0 := 81) (pc' := 88) rfl (hb hby at_81) rfl (feq (fun q => hc69 ((own_trip2 rp rc).2.2.mpr q))).2 (by decide) (by decide) kk_) ?_
      refine Ends.to (T' := T19) (g' := (mkF m 89 #[.val (.int p1), .val (.int p2), .val (.int p3), .val (.int p4), .val (.int pv), .val (.int ct), .val (.ref b1), .val (.long (own_code pv ct)), .second] [(.int (0 : Int32)), (.int (0 : Int32))])) (fun tt_ kk_ => XS.iconst X19.here hx rfl (hb hby at_88) kk_) ?_
      refine Ends.to (T' := T19) (g' := (mkF m 94 #[.val (.int p1), .val (.int p2), .val (.int p3), .val (.int p4), .val (.int pv), .val (.int ct), .val (.ref b1), .val (.long (own_code pv ct)), .second] [])) (fun tt_ kk_ => XS.icmpYes X19.here hx rfl (pc0 := 89) (pc' := 94) rfl (hb hby at_89) rfl (teq (by decide)).1 (by decide) (by decide) kk_) ?_
      refine Ends.to (T' := T19) (g' := (mkF m 96 #[.val (.int p1), .val (.int p2), .val (.int p3), .val (.int p4), .val (.int pv), .val (.int ct), .val (.ref b1), .val (.long (own_code pv ct)), .second] [(.ref b1)])) (fun tt_ kk_ => XS.aload X19.here hx rfl (hb hby at_94) rfl rfl kk_) ?_
      refine Ends.to (T' := T19) (g' := (mkF m 98 #[.val (.int p1), .val (.int p2), .val (.int p3), .val (.int p4), .val (.int pv), .val (.int ct), .val (.ref b1), .val (.long (own_code pv ct)), .second] [(.long (own_code pv ct)), (.ref b1)])) (fun tt_ kk_ => XS.lload X19.here hx rfl (hb hby at_96) rfl kk_) ?_
      obtain ⟨cq21, kq21, q21a, q21b, q21c⟩ := isOf hZ e19q A_b1
      obtain ⟨_, _, ⟨T21, L21, k21, n21⟩, -, X21, ⟨Lc21, hQ21, l21, y21, z21⟩, st21⟩ := X19.virtualBack hx (y := (⟨"com/example/coalesce/coalesce/CuckooTable$CountCoding", "countOf", "(J)I"⟩ : MethodName)) (z := (⟨"com/example/coalesce/coalesce/CuckooTable$CountCoding", "countOf", "(J)I"⟩ : MethodName)) hown (mvT hZ (hw _ (List.mem_of_getElem? (i := 27) rfl))) (mvT hZ (hw _ (List.mem_of_getElem? (i := 28) rfl))) (notFace_of_selects (args := #[]) (mvT hZ (hw _ (List.mem_of_getElem? (i := 30) rfl)))) (mvT hZ (hw _ (List.mem_of_getElem? (i := 30) rfl))) (mvT hZ (hw _ (List.mem_of_getElem? (i := 29) rfl))) (by decide) (backOf (W := 0) (rm6 l Z a0 hw [] b1 (own_code pv ct) pv T18.heap n0 Zs F_b1_pivot) hZ (hw _ (List.mem_of_getElem? (i := 31) rfl)) (hw _ (List.mem_of_getElem? (i := 6) rfl)) (by decide) (by decide)) q21a q21c (g := (mkF m 98 #[.val (.int p1), .val (.int p2), .val (.int p3), .val (.int p4), .val (.int pv), .val (.int ct), .val (.ref b1), .val (.long (own_code pv ct)), .second] [(.long (own_code pv ct)), (.ref b1)])) rfl (by rw [hml]; rfl) (Steps.refl _) (argsL := [(.long (own_code pv ct))]) (rest := []) (lenOf pd_6 rfl) rfl (by show 2 * 0 + _ ≤ _; exact Nat.le_of_eq rfl) (hb hby at_98) (fun _ _ => ⟨rfl, e19q, (by decide : 1 + 0 ≤ _), (by decide : 2 + 0 ≤ _)⟩)
      dsimp only [Pt.U, Pt.locs, Pt.cells, Pt.slots] at X21 l21 y21 z21 st21 hQ21
      subst l21 y21 z21
      obtain ⟨rfl, N21q, e21q⟩ := hQ21
      have N21 := Fr.app N19 N21q
      refine Ends.to (T' := T21) (g' := (mkF m 101 #[.val (.int p1), .val (.int p2), .val (.int p3), .val (.int p4), .val (.int pv), .val (.int ct), .val (.ref b1), .val (.long (own_code pv ct)), .second] [(.int (own_count pv (own_code pv ct)))])) (fun tt_ kk_ => st21.trans kk_) ?_
      refine Ends.to (T' := T21) (g' := (mkF m 103 #[.val (.int p1), .val (.int p2), .val (.int p3), .val (.int p4), .val (.int pv), .val (.int ct), .val (.ref b1), .val (.long (own_code pv ct)), .second] [(.int ct), (.int (own_count pv (own_code pv ct)))])) (fun tt_ kk_ => XS.iload X21.here hx rfl (hb hby at_101) rfl kk_) ?_
      refine Ends.to (T' := T21) (g' := (mkF m 106 #[.val (.int p1), .val (.int p2), .val (.int p3), .val (.int p4), .val (.int pv), .val (.int ct), .val (.ref b1), .val (.long (own_code pv ct)), .second] [])) (fun tt_ kk_ => XS.icmpNo X21.here hx rfl (hb hby at_103) rfl (teq (own_trip2 rp rc).1).2 kk_) ?_
      refine Ends.to (T' := T21) (g' := (mkF m 107 #[.val (.int p1), .val (.int p2), .val (.int p3), .val (.int p4), .val (.int pv), .val (.int ct), .val (.ref b1), .val (.long (own_code pv ct)), .second] [(.int (1 : Int32))])) (fun tt_ kk_ => XS.iconst X21.here hx rfl (hb hby at_106) kk_) ?_
      refine Ends.to (T' := T21) (g' := (mkF m 111 #[.val (.int p1), .val (.int p2), .val (.int p3), .val (.int p4), .val (.int pv), .val (.int ct), .val (.ref b1), .val (.long (own_code pv ct)), .second] [(.int (1 : Int32))])) (fun tt_ kk_ => XS.goto X21.here hx rfl (pc0 := 107) (pc' := 111) rfl (hb hby at_107) (by decide) (by decide) kk_) ?_
      exact Ends.retN (t := .boolean) (by simp) X21 hx hret (hb hby at_111) hlk (by decide) (by decide) ⟨by decide, N21⟩
set_option maxRecDepth 65536 in
set_option maxHeartbeats 40000000 in
theorem comes_1 {Post : Tables → Env → Array Value → State → Outcome → State → Prop} (hpost : ∀ tb e args s v u, (limb_1_1.after args s (.returned v) u = true ∧ limb_1_2.after args s (.returned v) u = true ∧ True) → FrameEnd s (.returned v) u (Jvm.fieldLocs frame_1_writes args s ++ Jvm.arrayLocs frame_1_arrays args s ++ Jvm.staticLocs frame_1_statics s) 16 128 → Post tb e args s (.returned v) u) :
    ArmFor flags0 classFile x code maxLocals ret World_1 tables_1 room_1 Calls_1 rest_1 Pre_1 Post := by
  intro l hfl _ _ p e ha hc hk s m args below hf hA hF happ hP
  obtain ⟨hcalls, hrest, hpre⟩ := hP
  obtain ⟨-, -, -, hnamed, -, -, -, hat⟩ := (Spec.applies_iff hf).mp happ
  obtain ⟨hg, hn⟩ := and_e (Cond.before_iff.mp (show (Jvm.Cond.and given_1 narrow_1).before args s = true from hpre))
  obtain ⟨hcount, t0⟩ := and_e hg
  obtain ⟨k0, t1⟩ := and_e t0
  obtain ⟨k1, t2⟩ := and_e t1
  obtain ⟨k2, t3⟩ := and_e t2
  obtain ⟨w0, w1, w2, w3, rfl⟩ : ∃ w0 w1 w2 w3 : Value, args = #[w0, w1, w2, w3] := by
    have hs : args.size = 4 := by simpa [Cond.value, given_1] using hcount
    obtain ⟨L⟩ := args
    match L, hs with
    | [w0, w1, w2, w3], _ => exact ⟨w0, w1, w2, w3, rfl⟩
  have hw := fun d (hd : d ∈ tables_1) => atoms_spec (ws := Jvm.Cond.code x code maxLocals ret :: tables_1) hat d (List.mem_cons_of_mem _ hd)
  obtain ⟨i0, ei0⟩ := is_v k0
  obtain rfl : w0 = (.int i0) := Option.some.inj ei0
  obtain ⟨i1, ei1⟩ := is_v k1
  obtain rfl : w1 = (.int i1) := Option.some.inj ei1
  obtain ⟨i2, ei2⟩ := is_v k2
  obtain rfl : w2 = (.int i2) := Option.some.inj ei2
  obtain ⟨i3, ei3⟩ := is_v t3
  obtain rfl : w3 = (.int i3) := Option.some.inj ei3
  obtain ⟨n, o, h1, h2, h3, _, L, rfl, ⟨rfl, N⟩, hq⟩ := rm0 l s _ hw tables_1 i0 i1 i2 i3 s.heap s.heap.size (Nat.le_refl _) p e ha hc hk s m _ below hf ((Spec.applies_iff_loose hf).mp happ).1 ⟨rfl, State.Warmed39.refl s, rfl⟩ trivial
  refine ⟨n, _, h1, h2, h3, hpost _ _ _ _ _ _ ⟨Cond.after_iff.mpr rfl, Cond.after_iff.mpr (eq_i res_at (Term.int_eval (1)) rfl), trivial⟩ ⟨hq.1, hq.2.1, (hq.2.2.sift fun y hy => Or.inr (N y hy)).mono (by decide) (by decide)⟩⟩
theorem main_1_1 : Claimed_1_1 := comes_1 fun _ _ _ _ _ _ h hF => ⟨h.1, hF⟩
theorem main_1_2 : Claimed_1_2 := comes_1 fun _ _ _ _ _ _ h hF => ⟨h.2.1, hF⟩
end Jvm.Pilot.@@N@@
namespace Jvm.Pilot.@@N@@
open Jvm Jvm.ClassFile Sem Op Lib Jvm.Free Jvm.Stand Jvm.Pilot.@@N@@.Jvm.D
/-! MADE BY PROGRAM (witnessworld.py) out of the Statement's table words and the real class files: 11 classes; the members and pool entries that the words name. The judged class is class 1, her method 1. -/
namespace start1
open Jvm.ClassFile
def u (s : String) : CpInfo := .utf8 (stringToUtf16 s)
/-- a pool by its gaps: so many unusable entries, then the entry; so many at the end -/
def gap : Nat → List CpInfo → List CpInfo
  | 0, r => r
  | n + 1, r => .unusable :: gap n r
def poolList (es : List (Nat × CpInfo)) (last : Nat) : List CpInfo := es.foldr (fun e r => gap e.1 (e.2 :: r)) (gap last [])
def pool (es : List (Nat × CpInfo)) (last : Nat) : Array CpInfo := ⟨poolList es last⟩
def fileOf (pool : Array CpInfo) (this : Nat) (attrs : Array Attribute := #[]) (ms : Array MethodInfo := #[]) (fl : Nat := 33) (sup : Nat := 0) (ifs : Array Nat := #[]) (fds : Array FieldInfo := #[]) : ClassFile where
  minorVersion := 0
  majorVersion := 65
  constantPool := pool
  accessFlags := fl
  thisClass := this
  superClass := sup
  interfaces := ifs
  fields := fds
  methods := ms
  attributes := attrs
def plain (name : String) (sup : Option ClassId) : Class where
  name := name
  kind := .ordinary
  loader := none
  accessFlags := 33
  super := sup
  interfaces := #[]
  cf := none
  fields := #[]
  methods := #[]
  instanceTypes := #[]
  staticTypes := #[]
  resolved := #[]
  callSites := []
  init := .initialized
  statics := none
  mirror := none

def pool0 : Array CpInfo := pool [(5, u "<init>"), (0, u "()V"), (1, .class_ 10), (1, u "java/lang/Object")] 113

def k0c0 : Code := { maxStack := 0, maxLocals := 1, code := object_method_1_code, exceptionTable := #[], attributes := #[] }
def k0m0 : Method := { name := "<init>", desc := "()V", sig := { parameters := [], returnType := none }, accessFlags := 1, code := some k0c0 }
/-- java/lang/Object -/
def k0 : Class := { plain "java/lang/Object" none with
  accessFlags := 33
  interfaces := #[]
  cf := some (fileOf pool0 8 #[] #[{ accessFlags := 1, nameIndex := 5, descriptorIndex := 6, attributes := #[] }] 33 0 #[] #[])
  fields := #[]
  methods := #[k0m0]
  instanceTypes := #[]
  staticTypes := #[]
  resolved := Array.replicate 124 none
  statics := none }

def pool1 : Array CpInfo := pool [(2, .class_ 4), (1, u "java/lang/Object"), (0, u "<init>"), (0, u "()V"), (0, .methodref 8 9), (0, .class_ 10), (0, .nameAndType 11 12), (0, u "java/lang/Math"), (0, u "max"), (0, u "(II)I"), (0, .integer 2147483647), (0, .class_ 15), (0, u "com/example/coalesce/coalesce/CuckooTable$CountCoding"), (0, .methodref 14 17), (0, .nameAndType 5 18), (0, u "(II)V"), (0, .methodref 14 20), (0, .nameAndType 21 22), (0, u "codeOf"), (0, u "(I)J"), (0, .methodref 14 24), (0, .nameAndType 25 26), (0, u "countOf"), (0, u "(J)I"), (0, .class_ 28), (0, u "com/example/coalesce/coalesce/CountCodingCodeOfPinLaw"), (2, u "law"), (0, u "(IIII)Z")] 7

def k1m0 : Method := { name := "<init>", desc := "()V", sig := { parameters := [], returnType := none }, accessFlags := 1, code := none }
def k1c1 : Code := { maxStack := 4, maxLocals := 9, code := code, exceptionTable := #[], attributes := #[] }
def k1m1 : Method := { name := "law", desc := "(IIII)Z", sig := { parameters := [.int, .int, .int, .int], returnType := some .boolean }, accessFlags := 9, code := some k1c1 }
/-- com/example/coalesce/coalesce/CountCodingCodeOfPinLaw -/
def k1 : Class := { plain "com/example/coalesce/coalesce/CountCodingCodeOfPinLaw" (some 0) with
  accessFlags := 49
  interfaces := #[]
  cf := some (fileOf pool1 27 #[] #[{ accessFlags := 1, nameIndex := 5, descriptorIndex := 6, attributes := #[] }, { accessFlags := 9, nameIndex := 31, descriptorIndex := 32, attributes := #[] }] 49 2 #[] #[])
  fields := #[]
  methods := #[k1m0, k1m1]
  instanceTypes := #[]
  staticTypes := #[]
  resolved := Array.replicate 40 none
  statics := none }

def pool2 : Array CpInfo := pool [(1, .class_ 2), (0, u "java/lang/Math"), (1, .class_ 6), (1, u "java/lang/Object"), (0, u "<init>"), (0, u "()V"), (89, .class_ 100), (1, u "java/lang/Math$RandomNumberGeneratorHolder"), (71, u "negativeZeroFloatBits"), (0, u "J"), (2, u "negativeZeroDoubleBits"), (21, u "max"), (46, u "$assertionsDisabled"), (0, u "Z"), (88, u "(II)I"), (2, u "twoToTheDoubleScaleDown"), (0, u "D"), (4, u "twoToTheDoubleScaleUp"), (9, u "E"), (3, u "PI"), (2, u "TAU"), (2, u "DEGREES_TO_RADIANS"), (0, u "RADIANS_TO_DEGREES")] 94

def k2m0 : Method := { name := "<init>", desc := "()V", sig := { parameters := [], returnType := none }, accessFlags := 2, code := none }
def k2c1 : Code := { maxStack := 2, maxLocals := 2, code := jdk_29_method_65_code, exceptionTable := #[], attributes := #[] }
def k2m1 : Method := { name := "max", desc := "(II)I", sig := { parameters := [.int, .int], returnType := some .int }, accessFlags := 9, code := some k2c1 }
/-- java/lang/Math -/
def k2 : Class := { plain "java/lang/Math" (some 0) with
  accessFlags := 49
  interfaces := #[]
  cf := some (fileOf pool2 1 #[.nestMembers #[98]] #[{ accessFlags := 2, nameIndex := 7, descriptorIndex := 8, attributes := #[] }, { accessFlags := 9, nameIndex := 198, descriptorIndex := 335, attributes := #[] }] 49 4 #[] #[{ accessFlags := 25, nameIndex := 354, descriptorIndex := 339, attributes := #[] }, { accessFlags := 25, nameIndex := 358, descriptorIndex := 339, attributes := #[] }, { accessFlags := 25, nameIndex := 361, descriptorIndex := 339, attributes := #[] }, { accessFlags := 26, nameIndex := 364, descriptorIndex := 339, attributes := #[] }, { accessFlags := 26, nameIndex := 365, descriptorIndex := 339, attributes := #[] }, { accessFlags := 26, nameIndex := 172, descriptorIndex := 173, attributes := #[] }, { accessFlags := 26, nameIndex := 176, descriptorIndex := 173, attributes := #[] }, { accessFlags := 8, nameIndex := 344, descriptorIndex := 339, attributes := #[] }, { accessFlags := 8, nameIndex := 338, descriptorIndex := 339, attributes := #[] }, { accessFlags := 4120, nameIndex := 245, descriptorIndex := 246, attributes := #[] }])
  fields := #[{ name := "E", type := .double, accessFlags := 25, slot := 0, constantValue := 0 }, { name := "PI", type := .double, accessFlags := 25, slot := 1, constantValue := 0 }, { name := "TAU", type := .double, accessFlags := 25, slot := 2, constantValue := 0 }, { name := "DEGREES_TO_RADIANS", type := .double, accessFlags := 26, slot := 3, constantValue := 0 }, { name := "RADIANS_TO_DEGREES", type := .double, accessFlags := 26, slot := 4, constantValue := 0 }, { name := "negativeZeroFloatBits", type := .long, accessFlags := 26, slot := 5, constantValue := 0 }, { name := "negativeZeroDoubleBits", type := .long, accessFlags := 26, slot := 6, constantValue := 0 }, { name := "twoToTheDoubleScaleUp", type := .double, accessFlags := 8, slot := 7, constantValue := 0 }, { name := "twoToTheDoubleScaleDown", type := .double, accessFlags := 8, slot := 8, constantValue := 0 }, { name := "$assertionsDisabled", type := .boolean, accessFlags := 4120, slot := 9, constantValue := 0 }]
  methods := #[k2m0, k2m1]
  instanceTypes := #[]
  staticTypes := #[.double, .double, .double, .double, .double, .long, .long, .double, .double, .boolean]
  resolved := Array.replicate 460 none
  statics := none }

def pool3 : Array CpInfo := pool [(1, .methodref 2 3), (0, .class_ 4), (0, .nameAndType 5 6), (0, u "java/lang/Object"), (0, u "<init>"), (0, u "()V"), (0, .class_ 8), (0, u "java/lang/Record")] 13

def k3c0 : Code := { maxStack := 1, maxLocals := 1, code := jdk_30_method_1_code, exceptionTable := #[], attributes := #[] }
def k3m0 : Method := { name := "<init>", desc := "()V", sig := { parameters := [], returnType := none }, accessFlags := 4, code := some k3c0 }
/-- java/lang/Record -/
def k3 : Class := { plain "java/lang/Record" (some 0) with
  accessFlags := 1057
  interfaces := #[]
  cf := some (fileOf pool3 7 #[] #[{ accessFlags := 4, nameIndex := 5, descriptorIndex := 6, attributes := #[] }] 1057 2 #[] #[])
  fields := #[]
  methods := #[k3m0]
  instanceTypes := #[]
  staticTypes := #[]
  resolved := Array.replicate 22 none
  statics := none }

def pool4 : Array CpInfo := pool [(1, .methodref 2 3), (0, .class_ 4), (0, .nameAndType 5 6), (0, u "java/lang/Record"), (0, u "<init>"), (0, u "()V"), (0, .fieldref 8 9), (0, .class_ 10), (0, .nameAndType 11 12), (0, u "com/example/coalesce/coalesce/CuckooTable$CountCoding"), (0, u "pivot"), (0, u "I"), (0, .fieldref 8 14), (0, .nameAndType 15 12), (0, u "runRiceBits"), (16, u "NO_RUNS"), (2, u "(II)V"), (4, u "codeOf"), (0, u "(I)J"), (0, u "countOf"), (0, u "(J)I"), (7, .class_ 52), (0, u "com/example/coalesce/coalesce/CuckooTable")] 20

def k4c0 : Code := { maxStack := 2, maxLocals := 3, code := prog_12_method_1_code, exceptionTable := #[], attributes := #[] }
def k4m0 : Method := { name := "<init>", desc := "(II)V", sig := { parameters := [.int, .int], returnType := none }, accessFlags := 0, code := some k4c0 }
def k4c1 : Code := { maxStack := 2, maxLocals := 4, code := prog_12_method_3_code, exceptionTable := #[], attributes := #[] }
def k4m1 : Method := { name := "codeOf", desc := "(I)J", sig := { parameters := [.int], returnType := some .long }, accessFlags := 0, code := some k4c1 }
def k4c2 : Code := { maxStack := 4, maxLocals := 4, code := prog_12_method_4_code, exceptionTable := #[], attributes := #[] }
def k4m2 : Method := { name := "countOf", desc := "(J)I", sig := { parameters := [.long], returnType := some .int }, accessFlags := 0, code := some k4c2 }
/-- com/example/coalesce/coalesce/CuckooTable$CountCoding -/
def k4 : Class := { plain "com/example/coalesce/coalesce/CuckooTable$CountCoding" (some 3) with
  accessFlags := 48
  interfaces := #[]
  cf := some (fileOf pool4 8 #[.nestHost 51] #[{ accessFlags := 0, nameIndex := 5, descriptorIndex := 35, attributes := #[] }, { accessFlags := 0, nameIndex := 40, descriptorIndex := 41, attributes := #[] }, { accessFlags := 0, nameIndex := 42, descriptorIndex := 43, attributes := #[] }] 48 2 #[] #[{ accessFlags := 18, nameIndex := 11, descriptorIndex := 12, attributes := #[] }, { accessFlags := 18, nameIndex := 15, descriptorIndex := 12, attributes := #[] }, { accessFlags := 24, nameIndex := 32, descriptorIndex := 12, attributes := #[] }])
  fields := #[{ name := "pivot", type := .int, accessFlags := 18, slot := 0, constantValue := 0 }, { name := "runRiceBits", type := .int, accessFlags := 18, slot := 1, constantValue := 0 }, { name := "NO_RUNS", type := .int, accessFlags := 24, slot := 0, constantValue := 0 }]
  methods := #[k4m0, k4m1, k4m2]
  instanceTypes := #[.int, .int]
  staticTypes := #[.int]
  resolved := Array.replicate 73 none
  statics := none }

def pool5 : Array CpInfo := pool [(1, u "java/lang/Cloneable"), (0, .class_ 1), (0, u "java/lang/Object"), (0, .class_ 3)] 3

/-- java/lang/Cloneable -/
def k5 : Class := { plain "java/lang/Cloneable" (some 0) with
  accessFlags := 1537
  interfaces := #[]
  cf := some (fileOf pool5 2 #[] #[] 1537 4 #[] #[])
  fields := #[]
  methods := #[]
  instanceTypes := #[]
  staticTypes := #[]
  resolved := Array.replicate 8 none
  statics := none }

def pool6 : Array CpInfo := pool [(1, u "java/io/Serializable"), (0, .class_ 1), (0, u "java/lang/Object"), (0, .class_ 3)] 3

/-- java/io/Serializable -/
def k6 : Class := { plain "java/io/Serializable" (some 0) with
  accessFlags := 1537
  interfaces := #[]
  cf := some (fileOf pool6 2 #[] #[] 1537 4 #[] #[])
  fields := #[]
  methods := #[]
  instanceTypes := #[]
  staticTypes := #[]
  resolved := Array.replicate 8 none
  statics := none }

/-- the primitive byte -/
def k7 : Class := { plain "byte" none with kind := .primitive 'B', accessFlags := 0x411 }
/-- [B -/
def k8 : Class := { plain "[B" (some 0) with kind := .array 7 .byte, interfaces := #[5, 6], accessFlags := 1041 }

/-- the primitive int -/
def k9 : Class := { plain "int" none with kind := .primitive 'I', accessFlags := 0x411 }
/-- [I -/
def k10 : Class := { plain "[I" (some 0) with kind := .array 9 .int, interfaces := #[5, 6], accessFlags := 1041 }

def heap : Heap := #[]
def classes : Array Class := #[k0, k1, k2, k3, k4, k5, k6, k7, k8, k9, k10]
def interned : List (Array UInt16 × Addr) := []
def slotsUsed : Nat := 0
def theMethod : MethodId := ⟨1, 1⟩
def args0 : Array Value := #[.int 5, .int 3, .int 0, .int 1]
def aboutOver (below : List Frame) : State where
  vm := { classes := classes, interned := interned.toArray }
  heap := heap
  slotsUsed := slotsUsed
  threads := #[{ frames := .invoking theMethod args0 :: below }]
def below0 : List Frame := [.native { method := ⟨0, 0⟩, args := #[] }]
def about1 : State := aboutOver below0
def p0 : Program := .bare "" "" ""
def e0 : Env := launch0.env 0 0 0
theorem w_frames : about1.frames = Frame.invoking theMethod args0 :: below0 := rfl
set_option maxRecDepth 65536 in
theorem w_args : argsFit about1.vm theMethod args0 = true := by decide +kernel
set_option maxRecDepth 65536 in
theorem w_heap : heapFits about1 = true := by decide +kernel
set_option maxRecDepth 65536 in
theorem w_runnable : about1.curStatus? = some .runnable := by decide +kernel
set_option maxRecDepth 65536 in
theorem w_alone : about1.alone = true := by decide +kernel
set_option maxRecDepth 65536 in
theorem w_named : about1.methodNamed? x = some theMethod := by decide +kernel
set_option maxRecDepth 65536 in
theorem w_hears : about1.hears theMethod below0 = true := by decide +kernel
set_option maxRecDepth 65536 in
theorem w_ripe : about1.ripe theMethod args0 below0 = true := by decide +kernel
theorem w_running : about1.status = .running := rfl
set_option maxRecDepth 65536 in
theorem w_room : about1.hasRoom e0.platform room_1 = true :=
  launch0.hasRoom_least _ room_1 (by decide +kernel) (by decide +kernel) (by decide +kernel) (by decide +kernel) (by decide +kernel) (by decide +kernel)
theorem allAtoms_all (ts : List Jvm.Cond) (a : Array Jvm.Value) (st : Jvm.State) : (allAtoms ts).before a st = ts.all (fun c => c.before a st) := by
  induction ts with
  | nil => rfl
  | cons c t ih =>
    show (Jvm.Cond.and c (allAtoms t)).before a st = _
    rw [Jvm.Cond.before_and, ih, List.all_cons]
def words1 : List Jvm.Cond := Jvm.Cond.code x code maxLocals ret :: tables_1
/-- a 'code' word, met by the world's own term for the bytes: nothing is compared byte by byte -/
theorem code_word {y : MethodName} {bytes : ByteArray} {mx : Nat} {rt : Option FieldType} {a : Array Value} {s : State} {m : MethodId} {meth : Method} {c : Code} (h1 : s.methodNamed? y = some m) (h2 : s.vm.method? m = some meth) (h3 : meth.code = some c) (h4 : c.code = bytes)
    (h5 : (c.maxLocals == mx && c.exceptionTable.isEmpty && decide (c.maxStack ≤ mostOperands) && decide (meth.sig.returnType = rt) && !meth.locks && decide (parseMethodDescriptor y.desc = some meth.sig)) = true) : (Jvm.Cond.code y bytes mx rt).before a s = true := by
  simp only [Bool.and_eq_true, beq_iff_eq, Bool.not_eq_true', decide_eq_true_eq] at h5
  obtain ⟨⟨⟨⟨⟨g1, g2⟩, g3⟩, g4⟩, g5⟩, g6⟩ := h5
  simp [Cond.before, Cond.holds, Cond.value, h1, h2, h3, h4, g1, g2, g3, g4, g5, g6]
def isCode : Jvm.Cond → Bool
  | .code _ _ _ _ => true
  | _ => false
theorem all_split {L : List Jvm.Cond} {P : Jvm.Cond → Bool} (h1 : L.all (fun c => isCode c || P c) = true) (h2 : ∀ c ∈ L.filter isCode, P c = true) : L.all P = true := by
  refine List.all_eq_true.mpr fun c hc => ?_
  have h := List.all_eq_true.mp h1 c hc
  rcases Bool.eq_false_or_eq_true (isCode c) with hi | hi
  · exact h2 c (List.mem_filter.mpr ⟨hc, hi⟩)
  · simpa [hi] using h
set_option maxRecDepth 65536 in
theorem w_c0 : (Jvm.Cond.code x code maxLocals ret).before args0 about1 = true := code_word (m := ⟨1, 1⟩) (meth := k1m1) (c := k1c1) (by decide +kernel) rfl rfl rfl (by decide +kernel)
set_option maxRecDepth 65536 in
theorem w_c1 : (Jvm.Cond.code ({ cls := "java/lang/Math", name := "max", desc := "(II)I" } : Jvm.MethodName) jdk_29_method_65_code (2 : Nat) (Option.some Jvm.ClassFile.FieldType.int)).before args0 about1 = true := code_word (m := ⟨2, 1⟩) (meth := k2m1) (c := k2c1) (by decide +kernel) rfl rfl rfl (by decide +kernel)
set_option maxRecDepth 65536 in
theorem w_c2 : (Jvm.Cond.code ({ cls := "com/example/coalesce/coalesce/CuckooTable$CountCoding", name := "<init>", desc := "(II)V" } : Jvm.MethodName) prog_12_method_1_code (3 : Nat) (Option.none : Option Jvm.ClassFile.FieldType)).before args0 about1 = true := code_word (m := ⟨4, 0⟩) (meth := k4m0) (c := k4c0) (by decide +kernel) rfl rfl rfl (by decide +kernel)
set_option maxRecDepth 65536 in
theorem w_c3 : (Jvm.Cond.code ({ cls := "java/lang/Record", name := "<init>", desc := "()V" } : Jvm.MethodName) jdk_30_method_1_code (1 : Nat) (Option.none : Option Jvm.ClassFile.FieldType)).before args0 about1 = true := code_word (m := ⟨3, 0⟩) (meth := k3m0) (c := k3c0) (by decide +kernel) rfl rfl rfl (by decide +kernel)
set_option maxRecDepth 65536 in
theorem w_c4 : (Jvm.Cond.code ({ cls := "java/lang/Object", name := "<init>", desc := "()V" } : Jvm.MethodName) object_method_1_code (1 : Nat) (Option.none : Option Jvm.ClassFile.FieldType)).before args0 about1 = true := code_word (m := ⟨0, 0⟩) (meth := k0m0) (c := k0c0) (by decide +kernel) rfl rfl rfl (by decide +kernel)
set_option maxRecDepth 65536 in
theorem w_c5 : (Jvm.Cond.code ({ cls := "com/example/coalesce/coalesce/CuckooTable$CountCoding", name := "codeOf", desc := "(I)J" } : Jvm.MethodName) prog_12_method_3_code (4 : Nat) (Option.some Jvm.ClassFile.FieldType.long)).before args0 about1 = true := code_word (m := ⟨4, 1⟩) (meth := k4m1) (c := k4c1) (by decide +kernel) rfl rfl rfl (by decide +kernel)
set_option maxRecDepth 65536 in
theorem w_c6 : (Jvm.Cond.code ({ cls := "com/example/coalesce/coalesce/CuckooTable$CountCoding", name := "countOf", desc := "(J)I" } : Jvm.MethodName) prog_12_method_4_code (4 : Nat) (Option.some Jvm.ClassFile.FieldType.int)).before args0 about1 = true := code_word (m := ⟨4, 2⟩) (meth := k4m2) (c := k4c2) (by decide +kernel) rfl rfl rfl (by decide +kernel)
def codes1 : List Jvm.Cond := [Jvm.Cond.code x code maxLocals ret, Jvm.Cond.code ({ cls := "java/lang/Math", name := "max", desc := "(II)I" } : Jvm.MethodName) jdk_29_method_65_code (2 : Nat) (Option.some Jvm.ClassFile.FieldType.int), Jvm.Cond.code ({ cls := "com/example/coalesce/coalesce/CuckooTable$CountCoding", name := "<init>", desc := "(II)V" } : Jvm.MethodName) prog_12_method_1_code (3 : Nat) (Option.none : Option Jvm.ClassFile.FieldType), Jvm.Cond.code ({ cls := "java/lang/Record", name := "<init>", desc := "()V" } : Jvm.MethodName) jdk_30_method_1_code (1 : Nat) (Option.none : Option Jvm.ClassFile.FieldType), Jvm.Cond.code ({ cls := "java/lang/Object", name := "<init>", desc := "()V" } : Jvm.MethodName) object_method_1_code (1 : Nat) (Option.none : Option Jvm.ClassFile.FieldType), Jvm.Cond.code ({ cls := "com/example/coalesce/coalesce/CuckooTable$CountCoding", name := "codeOf", desc := "(I)J" } : Jvm.MethodName) prog_12_method_3_code (4 : Nat) (Option.some Jvm.ClassFile.FieldType.long), Jvm.Cond.code ({ cls := "com/example/coalesce/coalesce/CuckooTable$CountCoding", name := "countOf", desc := "(J)I" } : Jvm.MethodName) prog_12_method_4_code (4 : Nat) (Option.some Jvm.ClassFile.FieldType.int)]
set_option maxRecDepth 65536 in
theorem codes_eq : words1.filter isCode = codes1 := rfl
theorem w_codes : ∀ c ∈ words1.filter isCode, c.before args0 about1 = true := by
  rw [codes_eq]
  intro c hc
  simp only [codes1, List.mem_cons, List.not_mem_nil, or_false] at hc
  rcases hc with rfl | rfl | rfl | rfl | rfl | rfl | rfl
  · exact w_c0
  · exact w_c1
  · exact w_c2
  · exact w_c3
  · exact w_c4
  · exact w_c5
  · exact w_c6
set_option maxRecDepth 65536 in
theorem w_t1 : (words1.take 24).all (fun c => isCode c || c.before args0 about1) = true := by decide +kernel
set_option maxRecDepth 65536 in
theorem w_t2 : (words1.drop 24).all (fun c => isCode c || c.before args0 about1) = true := by decide +kernel
theorem w_tables : (allAtoms (Jvm.Cond.code x code maxLocals ret :: tables_1)).before args0 about1 = true := by
  rw [allAtoms_all]
  show words1.all (fun c => c.before args0 about1) = true
  refine all_split ?_ w_codes
  rw [← List.take_append_drop 24 words1, List.all_append, w_t1, w_t2]
  rfl
set_option maxRecDepth 65536 in
theorem w_case : (Jvm.Cond.and given_1 narrow_1).before args0 about1 = true := by decide +kernel
theorem w_applies : (headSpec (Jvm.Cond.code x code maxLocals ret :: tables_1) room_1).applies x e0.platform about1 = true :=
  (Spec.applies_iff w_frames).mpr ⟨w_running, w_runnable, w_alone, w_named, w_hears, w_ripe, w_room, w_tables⟩
theorem atStart : AtStart classFile x code maxLocals ret World_1 tables_1 room_1 Calls_1 rest_1 Pre_1 launch0 p0 e0 about1 theMethod args0 below0 :=
  ⟨lists_1, trivial, launch0.admits_env _ _ _, launch0.least_env, fairChoices_fair.cas, fairChoices_fair.clock, w_frames, w_args, w_heap, w_applies, trivial, trivial, w_case⟩
end start1
theorem witness_1 : WitnessClaimed_1 := ⟨start1.p0, start1.e0, start1.about1, start1.theMethod, start1.args0, start1.below0, start1.atStart⟩
end Jvm.Pilot.@@N@@
