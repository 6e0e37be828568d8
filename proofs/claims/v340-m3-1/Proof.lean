import JvmDerived
import JvmDerived.Pilot.@@N@@Statement
import JvmDerived.Pilot.@@N@@Code
set_option linter.unusedVariables false
set_option linter.unusedSimpArgs false
@@BLOCK:NumsL.lean.txt@@
namespace Jvm.Pilot.@@N@@
open Jvm Jvm.ClassFile Sem Op Lib Jvm.Free Jvm.Stand Jvm.LawKit Jvm.RoadKit Bundle Jvm.Pilot.@@N@@.Jvm.D
/-! ## Our kit: from a frame the run comes to an end of which Q speaks -/
def Ends (p : Program) (e : Env) (below : List Frame) (s : State) (C S : Nat) (Q : Option Value → Heap → List Loc → Prop) (T : State) (g : JFrame) : Prop :=
  ∃ s₂ o, Steps p.tables e below (T.setTop g) s₂ ∧ s₂.status = .running ∧ Ended s₂ below o ∧ ∃ v L, o = .returned v ∧ Q v s₂.heap L ∧ FrameEnd s o s₂ L C S
abbrev Pays (l : Launch) (y : MethodName) (bytes : ByteArray) (maxL : Nat) (rt : Option FieldType) (ws : List Jvm.Cond) (rm : Room) (as : Array Value) (Z : State) (h0 : Heap) (Q : Option Value → Heap → List Loc → Prop) : Prop :=
  MetFree l y (head1 (Jvm.Cond.code y bytes maxL rt :: ws) rm) (fun a U => a = as ∧ Z.Warmed39 U.vm ∧ U.heap = h0) (fun _ _ _ _ _ => True) (fun _ U o U' => ∃ v L, o = .returned v ∧ Q v U'.heap L ∧ FrameEnd U o U' L rm.cells rm.slots)
section Kit
variable {p : Program} {l : Launch} {e : Env} {R : Room} {s : State} {m : MethodId} {args : Array Value} {below : List Frame} {meth : Method} {c : Code} {T T' : State} {locs : List Loc} {cells slots : Nat} {Z : State} {h h' h0 : Heap} {C S : Nat} {Q : Option Value → Heap → List Loc → Prop} {g g' : JFrame} {pc : Nat} {Ls : Array Slot} {rest : List Value}
theorem Ends.to (k : ∀ t, Steps p.tables e below (T'.setTop g') t → Steps p.tables e below (T.setTop g) t) (q : Ends p e below s C S Q T' g') : Ends p e below s C S Q T g := by
  obtain ⟨s₂, o, st, r⟩ := q
  exact ⟨s₂, o, k _ st, r⟩
theorem Ends.cast (k : g = g') (q : Ends p e below s C S Q T g') : Ends p e below s C S Q T g := k ▸ q
theorem Ends.retI {z : Int32} (X : Stand p l e R s m args below meth c T locs cells slots) (hx : p.tables.exec = Jvm.exec) (hret : meth.sig.returnType = some .int) (hd : decode c.code pc = .ok (.ireturn, 1)) (hlk : meth.locks = false) (hc : cells ≤ C) (hs : slots ≤ S) (q : Q (some (.int z)) T.heap locs) :
    Ends p e below s C S Q T (mkF m pc Ls (.int z :: rest)) := by
  obtain ⟨fs, hr, hrun, hended, hW, hsame⟩ := X.leave (v := some (.int z)) (fun h => by rw [hret] at h; cases h) hlk
  refine ⟨_, _, ?_, hrun, hended, _, _, rfl, q, ⟨_, rfl⟩, hW, hsame.mono hc hs⟩
  have hm' : T.vm.method? m = some meth := X.method'
  have hn : narrow .int (.int z) = .int z := rfl
  show Steps p.tables e below (T.setTop { method := m, pc := pc, locals := Ls, stack := _ :: rest, locked := none }) _
  jvm_step X.here [X.here.top, hx, hd, hm', hret, hn]
  first | (intro acts; rw [hr _ acts rfl rfl rfl]) | rw [hr _ _ rfl rfl rfl]
  exact Steps.refl _
theorem Ends.retN {z : Int32} {t : FieldType} (ht : t = .boolean ∨ t = .byte ∨ t = .char ∨ t = .short) (X : Stand p l e R s m args below meth c T locs cells slots) (hx : p.tables.exec = Jvm.exec) (hret : meth.sig.returnType = some t) (hd : decode c.code pc = .ok (.ireturn, 1)) (hlk : meth.locks = false) (hc : cells ≤ C) (hs : slots ≤ S) (q : Q (some (.int (nar t z))) T.heap locs) :
    Ends p e below s C S Q T (mkF m pc Ls (.int z :: rest)) := by
  obtain ⟨fs, hr, hrun, hended, hW, hsame⟩ := X.leave (v := some (.int (nar t z))) (fun h => by rw [hret] at h; cases h) hlk
  exact ⟨_, _, Jvm.RoadKit.retN X hx hret ht hd hr, hrun, hended, _, _, rfl, q, ⟨_, rfl⟩, hW, hsame.mono hc hs⟩
theorem Ends.retJ {z : Int64} (X : Stand p l e R s m args below meth c T locs cells slots) (hx : p.tables.exec = Jvm.exec) (hret : meth.sig.returnType = some .long) (hd : decode c.code pc = .ok (.lreturn, 1)) (hlk : meth.locks = false) (hc : cells ≤ C) (hs : slots ≤ S) (q : Q (some (.long z)) T.heap locs) :
    Ends p e below s C S Q T (mkF m pc Ls [.long z]) := by
  obtain ⟨fs, hr, hrun, hended, hW, hsame⟩ := X.leave (v := some (.long z)) (fun h => by rw [hret] at h; cases h) hlk
  exact ⟨_, _, X.lreturnOut hx hret hd hr, hrun, hended, _, _, rfl, q, ⟨_, rfl⟩, hW, hsame.mono hc hs⟩
theorem Ends.retV (X : Stand p l e R s m args below meth c T locs cells slots) (hx : p.tables.exec = Jvm.exec) (hret : meth.sig.returnType = none) (hd : decode c.code pc = .ok (.return_, 1)) (hlk : meth.locks = false) (hc : cells ≤ C) (hs : slots ≤ S) (q : Q none T.heap locs) :
    Ends p e below s C S Q T (mkF m pc Ls []) := by
  obtain ⟨fs, hr, hrun, hended, hW, hsame⟩ := X.leave (v := none) (fun _ => rfl) hlk
  exact ⟨_, _, X.returnOut hx hret hd hr, hrun, hended, _, _, rfl, q, ⟨_, rfl⟩, hW, hsame.mono hc hs⟩
theorem Ends.retA {a : Addr} {t : FieldType} (X : Stand p l e R s m args below meth c T locs cells slots) (hx : p.tables.exec = Jvm.exec) (hret : meth.sig.returnType = some (.array t)) (hd : decode c.code pc = .ok (.areturn, 1)) (hlk : meth.locks = false) (hc : cells ≤ C) (hs : slots ≤ S) (q : Q (some (.ref a)) T.heap locs) :
    Ends p e below s C S Q T (mkF m pc Ls (.ref a :: rest)) := by
  obtain ⟨fs, hr, hrun, hended, hW, hsame⟩ := X.leave (v := some (.ref a)) (fun h => by rw [hret] at h; cases h) hlk
  refine ⟨_, _, ?_, hrun, hended, _, _, rfl, q, ⟨_, rfl⟩, hW, hsame.mono hc hs⟩
  have hm' : T.vm.method? m = some meth := X.method'
  show Steps p.tables e below (T.setTop { method := m, pc := pc, locals := Ls, stack := _ :: rest, locked := none }) _
  jvm_step X.here [X.here.top, hx, hd, hm', hret, Value.isRef, FieldType.isReference]
  first | (intro acts; rw [hr _ acts rfl rfl rfl]) | rw [hr _ _ rfl rfl rfl]
  exact Steps.refl _
theorem Pays.of {y : MethodName} {bytes : ByteArray} {maxL : Nat} {rt : Option FieldType} {ws : List Jvm.Cond} {rm : Room} {as : Array Value} (hp : plainFor y = true)
    (body : ∀ (p : Program) (e : Env) (s : State) (m : MethodId) (below : List Frame) (meth : Method) (c : Code) (s₁ : State), p.tables.exec = Jvm.exec → c.code = bytes → c.maxLocals = maxL → s.vm.findClass y.cls = some m.cls → meth.name = y.name → meth.sig.returnType = rt → meth.locks = false → Z.Warmed39 s.vm →
      Stand p l e rm s m as below meth c s₁ [] 0 0 → s₁.heap = h0 → Ends p e below s rm.cells rm.slots Q s₁ (entryFrame m as maxL)) : Pays l y bytes maxL rt ws rm as Z h0 Q := by
  refine MetFree.of_bodySF hp hisR ?_
  intro p e s m args below meth c s₁ Bd hml0 hP hK
  obtain ⟨rfl, hZ, hh⟩ := hP
  exact body p e s m below meth c s₁ Bd.exec Bd.bytes hml0 (findClass_of_methodNamed Bd.named) (name_of_methodNamed Bd.named Bd.method).1 Bd.returns Bd.notSynchronized hZ (Stand.of_body Bd) (by rw [← hh, Bd.state]; rfl)
/-! ## An array by its values -/
def BA (Z : State) (h : Heap) (a : Addr) (ty : FieldType) (n : Nat) (f : Nat → Value) : Prop := ∃ cl : Cell, Arr Z h a cl ty ∧ cl.slots.size = n ∧ ∀ j, j < n → cl.slots[j]? = some (f j)
abbrev BB (Z : State) (h : Heap) (a : Addr) (n : Nat) (f : Nat → Int32) : Prop := BA Z h a .byte n (fun j => .int (f j))
abbrev BL (Z : State) (h : Heap) (a : Addr) (n : Nat) (f : Nat → Int64) : Prop := BA Z h a .long n (fun j => .long (f j))
def upd {α : Type} (f : Nat → α) (i : Nat) (x : α) : Nat → α := fun j => if j = i then x else f j
theorem upd_same {α : Type} (f : Nat → α) (i : Nat) (x : α) : upd f i x i = x := if_pos rfl
theorem upd_ne {α : Type} (f : Nat → α) {i j : Nat} (x : α) (q : j ≠ i) : upd f i x j = f j := if_neg q
variable {a b : Addr} {ty : FieldType} {n i sl : Nat} {f : Nat → Value} {v : Value} {ws : List Addr} {j x z : Int32}
theorem BA.ext (E : Ext h h') (B : BA Z h a ty n f) : BA Z h' a ty n f := by obtain ⟨cl, A, r⟩ := B; exact ⟨cl, A.ext E, r⟩
theorem BA.other (W : Wr h h' a sl v) (B : BA Z h b ty n f) (q : b ≠ a) : BA Z h' b ty n f := by obtain ⟨cl, A, r⟩ := B; exact ⟨cl, A.other W q, r⟩
theorem BA.keep (B : BA Z h a ty n f) (K : Keep h h' ws) (q : a ∉ ws) : BA Z h' a ty n f := by obtain ⟨cl, A, r⟩ := B; exact ⟨cl, ⟨K.2.1 a cl A.1 q, A.2⟩, r⟩
theorem BA.lt (B : BA Z h a ty n f) : a < h.size := by obtain ⟨cl, A, r⟩ := B; exact A.lt
theorem BA.congr {f' : Nat → Value} (B : BA Z h a ty n f) (q : ∀ j, j < n → f j = f' j) : BA Z h a ty n f' := by obtain ⟨cl, A, s, r⟩ := B; exact ⟨cl, A, s, fun j hj => (r j hj).trans (congrArg some (q j hj))⟩
theorem BA.set (W : Wr h h' a i v) (B : BA Z h a ty n f) (hi : i < n) : BA Z h' a ty n (upd f i v) := by
  obtain ⟨cl, A, s, r⟩ := B
  refine ⟨cl.setSlot i v, A.same W, by simp [Cell.setSlot, s], fun j hj => ?_⟩
  show (cl.slots.setIfInBounds i v)[j]? = _
  by_cases e : j = i
  · subst e
    rw [upd_same, Array.getElem?_setIfInBounds_self_of_lt (by rw [s]; exact hi)]
  · rw [upd_ne _ _ e, Array.getElem?_setIfInBounds_ne (Ne.symm e)]
    exact r j hj
theorem BA.inb {cl : Cell} (s : cl.slots.size = n) (h0 : ¬ j < 0) (hi : j.toNatClampNeg = i) (hn : i < n) : ¬ (j < 0 ∨ cl.slots.size ≤ j.toNatClampNeg) := by
  rintro (q | q)
  · exact h0 q
  · rw [hi, s] at q; exact absurd hn (Nat.not_lt.mpr q)
theorem BA.stB {f : Nat → Int32} (X : Stand p l e R s m args below meth c T locs cells slots) (hx : p.tables.exec = Jvm.exec) (hZ : Z.Warmed39 s.vm) (eT : T.heap = h) (B : BB Z h a n f) (h0 : ¬ j < 0) (hi : j.toNatClampNeg = i) (hn : i < n) (hg : g.method = m) (hs : g.stack = .int x :: .int j :: .ref a :: rest) (hd : decode c.code g.pc = .ok (.bastore, 1)) :
    ∃ T' h', Stand p l e R s m args below meth c T' (locs ++ [⟨a, j.toNatClampNeg⟩]) cells slots ∧ T'.heap = h' ∧ Wr h h' a j.toNatClampNeg (.int (nar .byte x)) ∧ BB Z h' a n (upd f i x.toInt8.toInt32) ∧ ∀ target, Steps p.tables e below (T'.setTop { g with pc := g.pc + 1, stack := rest }) target → Steps p.tables e below (T.setTop g) target := by
  obtain ⟨cl, A, s, r⟩ := id B
  obtain ⟨T', h', X', e', W, st⟩ := Jvm.RoadKit.stB X hx hZ eT A (BA.inb s h0 hi hn) hg hs hd
  refine ⟨T', h', X', e', W, ?_, st⟩
  rw [hi] at W
  refine (BA.set W B hn).congr fun j _ => ?_
  by_cases e : j = i
  · subst e; rw [upd_same, upd_same]; rfl
  · rw [upd_ne _ _ e, upd_ne _ _ e]
theorem BA.stL {f : Nat → Int64} {x : Int64} (X : Stand p l e R s m args below meth c T locs cells slots) (hx : p.tables.exec = Jvm.exec) (hZ : Z.Warmed39 s.vm) (eT : T.heap = h) (B : BL Z h a n f) (h0 : ¬ j < 0) (hi : j.toNatClampNeg = i) (hn : i < n) (hg : g.method = m) (hs : g.stack = .long x :: .int j :: .ref a :: rest) (hd : decode c.code g.pc = .ok (.lastore, 1)) :
    ∃ T' h', Stand p l e R s m args below meth c T' (locs ++ [⟨a, j.toNatClampNeg⟩]) cells slots ∧ T'.heap = h' ∧ Wr h h' a j.toNatClampNeg (.long x) ∧ BL Z h' a n (upd f i x) ∧ ∀ target, Steps p.tables e below (T'.setTop { g with pc := g.pc + 1, stack := rest }) target → Steps p.tables e below (T.setTop g) target := by
  obtain ⟨cl, A, s, r⟩ := id B
  obtain ⟨T', h', X', e', W, st⟩ := Jvm.RoadKit.stJ X hx hZ eT A (BA.inb s h0 hi hn) hg hs hd
  refine ⟨T', h', X', e', W, ?_, st⟩
  rw [hi] at W
  refine (BA.set W B hn).congr fun j _ => ?_
  by_cases e : j = i
  · subst e; rw [upd_same, upd_same]
  · rw [upd_ne _ _ e, upd_ne _ _ e]
theorem BA.ldB {f : Nat → Int32} (X : Stand p l e R s m args below meth c T locs cells slots) (hx : p.tables.exec = Jvm.exec) (hZ : Z.Warmed39 s.vm) (eT : T.heap = h) (B : BB Z h a n f) (h0 : ¬ j < 0) (hi : j.toNatClampNeg = i) (hn : i < n) (hg : g.method = m) (hs : g.stack = .int j :: .ref a :: rest) (hd : decode c.code g.pc = .ok (.baload, 1)) (target : State)
    (k : Steps p.tables e below (T.setTop { g with pc := g.pc + 1, stack := .int (f i) :: rest }) target) : Steps p.tables e below (T.setTop g) target := by
  obtain ⟨cl, A, s, r⟩ := id B
  exact X.baloadBytes hx (j := j) (v := .int (f i)) (by rw [eT]; exact A.1) (State.isArrayOf_alike hZ.alike A.2.1) A.2.2 (BA.inb s h0 hi hn) (by rw [hi]; exact r i hn) hg hs hd target k
theorem BA.ldL {f : Nat → Int64} (X : Stand p l e R s m args below meth c T locs cells slots) (hx : p.tables.exec = Jvm.exec) (hZ : Z.Warmed39 s.vm) (eT : T.heap = h) (B : BL Z h a n f) (h0 : ¬ j < 0) (hi : j.toNatClampNeg = i) (hn : i < n) (hg : g.method = m) (hs : g.stack = .int j :: .ref a :: rest) (hd : decode c.code g.pc = .ok (.laload, 1)) (target : State)
    (k : Steps p.tables e below (T.setTop { g with pc := g.pc + 1, stack := .long (f i) :: rest }) target) : Steps p.tables e below (T.setTop g) target := by
  obtain ⟨cl, A, s, r⟩ := id B
  exact X.laload hx (j := j) (v := .long (f i)) (by rw [eT]; exact A.1) (State.isArrayOf_alike hZ.alike A.2.1) A.2.2 (BA.inb s h0 hi hn) (by rw [hi]; exact r i hn) hg hs hd target k
theorem BA.len (X : Stand p l e R s m args below meth c T locs cells slots) (hx : p.tables.exec = Jvm.exec) (hZ : Z.Warmed39 s.vm) (eT : T.heap = h) (B : BA Z h a ty n f) (hz : n.toInt32 = z) (hg : g.method = m) (hs : g.stack = .ref a :: rest) (hd : decode c.code g.pc = .ok (.arraylength, 1)) (target : State)
    (k : Steps p.tables e below (T.setTop { g with pc := g.pc + 1, stack := .int z :: rest }) target) : Steps p.tables e below (T.setTop g) target := by
  obtain ⟨cl, A, s, r⟩ := B
  exact X.arraylength hx (by rw [eT]; exact A.1) (State.isArrayOf_alike hZ.alike A.2.1) hg hs hd target (by rw [s, hz]; exact k)
theorem BA.freshB {k : ClassId} (A : Arr Z h a (newA k .byte z) .byte) (q : z.toNatClampNeg = n) : BB Z h a n (fun _ => 0) := by
  refine ⟨_, A, (sz_new _ _ _).trans q, fun j hj => ?_⟩
  have hj' : j < z.toNatClampNeg := by rw [q]; exact hj
  simp [newA, hj', defaultValue]
theorem BA.freshL {k : ClassId} (A : Arr Z h a (newA k .long z) .long) (q : z.toNatClampNeg = n) : BL Z h a n (fun _ => 0) := by
  refine ⟨_, A, (sz_new _ _ _).trans q, fun j hj => ?_⟩
  have hj' : j < z.toNatClampNeg := by rw [q]; exact hj
  simp [newA, hj', defaultValue]
end Kit
theorem d1_0 : decode prog_55_method_6_code 0 = .ok (.iconst 1, 1) := by decide +kernel
theorem d1_1 : decode prog_55_method_6_code 1 = .ok (.istore_n 1, 1) := by decide +kernel
theorem d1_2 : decode prog_55_method_6_code 2 = .ok (.iload_n 0, 1) := by decide +kernel
theorem d1_3 : decode prog_55_method_6_code 3 = .ok (.bipush 7, 2) := by decide +kernel
theorem d1_5 : decode prog_55_method_6_code 5 = .ok (.iushr, 1) := by decide +kernel
theorem d1_6 : decode prog_55_method_6_code 6 = .ok (.istore_n 2, 1) := by decide +kernel
theorem d1_7 : decode prog_55_method_6_code 7 = .ok (.iload_n 2, 1) := by decide +kernel
theorem d1_8 : decode prog_55_method_6_code 8 = .ok (.ifCond .eq 14, 3) := by decide +kernel
theorem d1_11 : decode prog_55_method_6_code 11 = .ok (.iinc 1 1, 3) := by decide +kernel
theorem d1_14 : decode prog_55_method_6_code 14 = .ok (.iload_n 2, 1) := by decide +kernel
theorem d1_15 : decode prog_55_method_6_code 15 = .ok (.bipush 7, 2) := by decide +kernel
theorem d1_17 : decode prog_55_method_6_code 17 = .ok (.iushr, 1) := by decide +kernel
theorem d1_18 : decode prog_55_method_6_code 18 = .ok (.istore_n 2, 1) := by decide +kernel
theorem d1_19 : decode prog_55_method_6_code 19 = .ok (.goto (-12), 3) := by decide +kernel
theorem d1_22 : decode prog_55_method_6_code 22 = .ok (.iload_n 1, 1) := by decide +kernel
theorem d1_23 : decode prog_55_method_6_code 23 = .ok (.ireturn, 1) := by decide +kernel
theorem pn_1 : plainName "com/example/trieval/trieval/index/IndexFile" = true := by first | (simp [plainName, overriddenIn]; done) | decide +kernel
theorem pd_1 : parseMethodDescriptor "(I)I" = some ⟨[.int], some .int⟩ := by decide +kernel
theorem ef_1 (m : MethodId) (x0 : Int32) : entryFrame m #[(.int x0)] 3 = mkF m 0 #[.val (.int x0), .unset, .unset] [] := by first | (simp [entryFrame, mkF, argsToLocals, Value.category]; done) | rfl
theorem d2_0 : decode prog_55_method_5_code 0 = .ok (.iload_n 1, 1) := by decide +kernel
theorem d2_1 : decode prog_55_method_5_code 1 = .ok (.istore_n 3, 1) := by decide +kernel
theorem d2_2 : decode prog_55_method_5_code 2 = .ok (.iload_n 2, 1) := by decide +kernel
theorem d2_3 : decode prog_55_method_5_code 3 = .ok (.istore 4, 2) := by decide +kernel
theorem d2_5 : decode prog_55_method_5_code 5 = .ok (.iload 4, 2) := by decide +kernel
theorem d2_7 : decode prog_55_method_5_code 7 = .ok (.bipush (-128), 2) := by decide +kernel
theorem d2_9 : decode prog_55_method_5_code 9 = .ok (.iand, 1) := by decide +kernel
theorem d2_10 : decode prog_55_method_5_code 10 = .ok (.ifCond .eq 29, 3) := by decide +kernel
theorem d2_13 : decode prog_55_method_5_code 13 = .ok (.aload_n 0, 1) := by decide +kernel
theorem d2_14 : decode prog_55_method_5_code 14 = .ok (.iload_n 3, 1) := by decide +kernel
theorem d2_15 : decode prog_55_method_5_code 15 = .ok (.iinc 3 1, 3) := by decide +kernel
theorem d2_18 : decode prog_55_method_5_code 18 = .ok (.iload 4, 2) := by decide +kernel
theorem d2_20 : decode prog_55_method_5_code 20 = .ok (.bipush 127, 2) := by decide +kernel
theorem d2_22 : decode prog_55_method_5_code 22 = .ok (.iand, 1) := by decide +kernel
theorem d2_23 : decode prog_55_method_5_code 23 = .ok (.sipush 128, 3) := by decide +kernel
theorem d2_26 : decode prog_55_method_5_code 26 = .ok (.ior, 1) := by decide +kernel
theorem d2_27 : decode prog_55_method_5_code 27 = .ok (.i2b, 1) := by decide +kernel
theorem d2_28 : decode prog_55_method_5_code 28 = .ok (.bastore, 1) := by decide +kernel
theorem d2_29 : decode prog_55_method_5_code 29 = .ok (.iload 4, 2) := by decide +kernel
theorem d2_31 : decode prog_55_method_5_code 31 = .ok (.bipush 7, 2) := by decide +kernel
theorem d2_33 : decode prog_55_method_5_code 33 = .ok (.iushr, 1) := by decide +kernel
theorem d2_34 : decode prog_55_method_5_code 34 = .ok (.istore 4, 2) := by decide +kernel
theorem d2_36 : decode prog_55_method_5_code 36 = .ok (.goto (-31), 3) := by decide +kernel
theorem d2_39 : decode prog_55_method_5_code 39 = .ok (.aload_n 0, 1) := by decide +kernel
theorem d2_40 : decode prog_55_method_5_code 40 = .ok (.iload_n 3, 1) := by decide +kernel
theorem d2_41 : decode prog_55_method_5_code 41 = .ok (.iinc 3 1, 3) := by decide +kernel
theorem d2_44 : decode prog_55_method_5_code 44 = .ok (.iload 4, 2) := by decide +kernel
theorem d2_46 : decode prog_55_method_5_code 46 = .ok (.i2b, 1) := by decide +kernel
theorem d2_47 : decode prog_55_method_5_code 47 = .ok (.bastore, 1) := by decide +kernel
theorem d2_48 : decode prog_55_method_5_code 48 = .ok (.iload_n 3, 1) := by decide +kernel
theorem d2_49 : decode prog_55_method_5_code 49 = .ok (.ireturn, 1) := by decide +kernel
theorem pn_2 : plainName "com/example/trieval/trieval/index/IndexFile" = true := by first | (simp [plainName, overriddenIn]; done) | decide +kernel
theorem pd_2 : parseMethodDescriptor "([BII)I" = some ⟨[(.array .byte), .int, .int], some .int⟩ := by decide +kernel
theorem ef_2 (m : MethodId) (x0 : Addr) (x1 : Int32) (x2 : Int32) : entryFrame m #[(.ref x0), (.int x1), (.int x2)] 5 = mkF m 0 #[.val (.ref x0), .val (.int x1), .val (.int x2), .unset, .unset] [] := by first | (simp [entryFrame, mkF, argsToLocals, Value.category]; done) | rfl
theorem d3_0 : decode method_2_code 0 = .ok (.iload_n 0, 1) := by decide +kernel
theorem d3_1 : decode method_2_code 1 = .ok (.i2l, 1) := by decide +kernel
theorem d3_2 : decode method_2_code 2 = .ok (.ldc2_w 7, 3) := by decide +kernel
theorem d3_5 : decode method_2_code 5 = .ok (.land, 1) := by decide +kernel
theorem d3_6 : decode method_2_code 6 = .ok (.lstore_n 1, 1) := by decide +kernel
theorem d3_7 : decode method_2_code 7 = .ok (.lload_n 1, 1) := by decide +kernel
theorem d3_8 : decode method_2_code 8 = .ok (.ldc2_w 9, 3) := by decide +kernel
theorem d3_11 : decode method_2_code 11 = .ok (.lcmp, 1) := by decide +kernel
theorem d3_12 : decode method_2_code 12 = .ok (.ifCond .ge 5, 3) := by decide +kernel
theorem d3_15 : decode method_2_code 15 = .ok (.iconst 1, 1) := by decide +kernel
theorem d3_16 : decode method_2_code 16 = .ok (.ireturn, 1) := by decide +kernel
theorem d3_17 : decode method_2_code 17 = .ok (.lload_n 1, 1) := by decide +kernel
theorem d3_18 : decode method_2_code 18 = .ok (.ldc2_w 11, 3) := by decide +kernel
theorem d3_21 : decode method_2_code 21 = .ok (.lcmp, 1) := by decide +kernel
theorem d3_22 : decode method_2_code 22 = .ok (.ifCond .ge 5, 3) := by decide +kernel
theorem d3_25 : decode method_2_code 25 = .ok (.iconst 2, 1) := by decide +kernel
theorem d3_26 : decode method_2_code 26 = .ok (.ireturn, 1) := by decide +kernel
theorem d3_27 : decode method_2_code 27 = .ok (.lload_n 1, 1) := by decide +kernel
theorem d3_28 : decode method_2_code 28 = .ok (.ldc2_w 13, 3) := by decide +kernel
theorem d3_31 : decode method_2_code 31 = .ok (.lcmp, 1) := by decide +kernel
theorem d3_32 : decode method_2_code 32 = .ok (.ifCond .ge 5, 3) := by decide +kernel
theorem d3_35 : decode method_2_code 35 = .ok (.iconst 3, 1) := by decide +kernel
theorem d3_36 : decode method_2_code 36 = .ok (.ireturn, 1) := by decide +kernel
theorem d3_37 : decode method_2_code 37 = .ok (.lload_n 1, 1) := by decide +kernel
theorem d3_38 : decode method_2_code 38 = .ok (.ldc2_w 15, 3) := by decide +kernel
theorem d3_41 : decode method_2_code 41 = .ok (.lcmp, 1) := by decide +kernel
theorem d3_42 : decode method_2_code 42 = .ok (.ifCond .ge 5, 3) := by decide +kernel
theorem d3_45 : decode method_2_code 45 = .ok (.iconst 4, 1) := by decide +kernel
theorem d3_46 : decode method_2_code 46 = .ok (.ireturn, 1) := by decide +kernel
theorem d3_47 : decode method_2_code 47 = .ok (.iconst 5, 1) := by decide +kernel
theorem d3_48 : decode method_2_code 48 = .ok (.ireturn, 1) := by decide +kernel
theorem pn_3 : plainName "com/example/trieval/trieval/index/IndexFileVarIntLengthPinLaw" = true := by first | (simp [plainName, overriddenIn]; done) | decide +kernel
theorem pd_3 : parseMethodDescriptor "(I)I" = some ⟨[.int], some .int⟩ := by decide +kernel
theorem ef_3 (m : MethodId) (x0 : Int32) : entryFrame m #[(.int x0)] 3 = mkF m 0 #[.val (.int x0), .unset, .unset] [] := by first | (simp [entryFrame, mkF, argsToLocals, Value.category]; done) | rfl
theorem pn_0 : plainName "com/example/trieval/trieval/index/IndexFileVarIntLengthPinLaw" = true := by first | (simp [plainName, overriddenIn]; done) | decide +kernel
theorem pd_0 : parseMethodDescriptor "(II)Z" = some ⟨[.int, .int], some .boolean⟩ := by decide +kernel
theorem ef_0 (m : MethodId) (x0 : Int32) (x1 : Int32) : entryFrame m #[(.int x0), (.int x1)] maxLocals = mkF m 0 #[.val (.int x0), .val (.int x1), .unset, .unset, .unset, .unset] [] := by first | (simp [entryFrame, mkF, argsToLocals, Value.category, maxLocals]; done) | rfl
theorem own_inc (n : Nat) : Int32.ofNat n + (1 : Int32) = Int32.ofNat (n + 1) := (Int32.ofNat_add n 1).symm
theorem own_toInt {n : Nat} (h : n < 2147483648) : (Int32.ofNat n).toInt = n := Int32.toInt_ofNat_of_lt h
theorem own_nneg {n : Nat} (h : n < 2147483648) : ¬ Int32.ofNat n < 0 := fun q => by
  have := Int32.lt_iff_toInt_lt.mp q
  rw [own_toInt h] at this; simp at this; omega
theorem own_clamp {n : Nat} (h : n < 2147483648) : (Int32.ofNat n).toNatClampNeg = n := by
  show (Int32.ofNat n).toInt.toNat = n
  rw [own_toInt h]; rfl
theorem own_addk (n : Nat) {k : Nat} {z : Int32} (hz : z = Int32.ofNat k) : Int32.ofNat n + z = Int32.ofNat (n + k) := by rw [hz, Int32.ofNat_add]
theorem own_of {x : Int32} (h : 0 ≤ x.toInt) : ∃ n : Nat, x = Int32.ofNat n ∧ (n : Int) = x.toInt := by
  have r := rng32 x
  refine ⟨x.toInt.toNat, ?_, by omega⟩
  apply Int32.toInt_inj.mp
  rw [own_toInt (by omega)]; omega
theorem own_31 (x : Int32) : 0 ≤ (x &&& 2147483647).toInt := by
  have e := Jvm.Kit.i32_mask x 2147483647 (k := 31) (by decide) (by decide)
  omega
def own_by (x : Int32) : Int32 := x.toInt8.toInt32.toInt8.toInt32
def own_s7 (v : Int32) : Int32 := (v.toUInt32 >>> ((7 : Int32) &&& 31).toUInt32).toInt32
def own_u (v : Int32) : Nat := v.toUInt32.toNat
def own_nb : Nat → Int32 → Nat
  | 0, _ => 1
  | k + 1, v => if v &&& (-128) = 0 then 1 else own_nb k (own_s7 v) + 1
def own_wv : Nat → Int32 → Nat → (Nat → Int32) → (Nat → Int32)
  | 0, v, i, f => upd f i (own_by v)
  | k + 1, v, i, f => if v &&& (-128) = 0 then upd f i (own_by v) else own_wv k (own_s7 v) (i + 1) (upd f i (own_by ((v &&& 127) ||| 128)))
theorem own_u_s7 (v : Int32) : own_u (own_s7 v) = own_u v / 128 := by
  show (v.toUInt32 >>> ((7 : Int32) &&& 31).toUInt32).toNat = _
  rw [UInt32.toNat_shiftRight, show (((7 : Int32) &&& 31).toUInt32).toNat = 7 from by decide, Nat.shiftRight_eq_div_pow]
  rfl
theorem own_u_lt (v : Int32) : own_u v < 4294967296 := v.toUInt32.toNat_lt
theorem own_u_inj {v w : Int32} (h : own_u v = own_u w) : v = w := by
  apply Int32.toBitVec_inj.mp
  exact BitVec.eq_of_toNat_eq h
theorem own_u_and (v w : Int32) : own_u (v &&& w) = own_u v &&& own_u w := by
  show (v &&& w).toBitVec.toNat = _
  rw [Int32.toBitVec_and, BitVec.toNat_and]; rfl
theorem own_hi {v m : Int32} {k : Nat} (hk : k ≤ 32) (hm : ∀ i : Fin 32, (own_u m).testBit i.val = decide (k ≤ i.val)) : v &&& m = 0 ↔ own_u v < 2 ^ k := by
  have ev : own_u (v &&& m) = own_u v &&& own_u m := own_u_and v m
  constructor
  · intro h
    apply Nat.lt_pow_two_of_testBit
    intro i hi
    by_cases h32 : i < 32
    · have e := hm ⟨i, h32⟩
      have q : (own_u v &&& own_u m).testBit i = false := by rw [← ev, h]; exact Nat.zero_testBit i
      rw [Nat.testBit_and, e] at q
      simpa [show k ≤ i from hi] using q
    · exact Nat.testBit_lt_two_pow (Nat.lt_of_lt_of_le (own_u_lt v) (Nat.pow_le_pow_right (show 2 > 0 from by decide) (show 32 ≤ i from by omega)))
  · intro h
    apply own_u_inj
    rw [ev]
    show own_u v &&& own_u m = 0
    apply Nat.eq_of_testBit_eq
    intro i
    rw [Nat.testBit_and, Nat.zero_testBit]
    by_cases hi : k ≤ i
    · rw [Nat.testBit_lt_two_pow (Nat.lt_of_lt_of_le h (Nat.pow_le_pow_right (show 2 > 0 from by decide) hi))]; rfl
    · have e := hm ⟨i, by omega⟩
      rw [e]; simp [hi]
theorem own_h7 (v : Int32) : v &&& (-128) = 0 ↔ own_u v < 128 := own_hi (k := 7) (by decide) (by decide)
set_option maxRecDepth 65536 in
set_option maxHeartbeats 40000000 in
def Q_rm2 (Z : State) (a1 : Addr) (t : Nat) (p3 : Int32) (f : Nat → Int32) (h0 : Heap) (n0 : Nat) : Option Value → Heap → List Loc → Prop := fun v h L => v = some (.int (Int32.ofNat (t + own_nb 4 p3))) ∧ Fr n0 L ∧ Keep h0 h [a1] ∧ BB Z h a1 5 (own_wv 4 p3 t f)
set_option maxRecDepth 65536 in
set_option maxHeartbeats 40000000 in
theorem rm2 (l : Launch) (Z : State) (a0 : Array Value) (hw : ∀ d ∈ tables_1, d.before a0 Z = true) (ws : List Jvm.Cond) (a1 : Addr) (t : Nat) (p3 : Int32) (f : Nat → Int32) (h0 : Heap) (n0 : Nat) (Z0 : n0 ≤ h0.size) (ht : t + 5 ≤ 5) (B1 : BB Z h0 a1 5 f) (g1 : n0 ≤ a1) :
    Pays l (⟨"com/example/trieval/trieval/index/IndexFile", "writeVarInt", "([BII)I"⟩ : MethodName) prog_55_method_5_code 5 (some .int) ws ({ frames := 0, cells := 0, slots := 0, locals := 0 } : Room) #[(.ref a1), (.int (Int32.ofNat t)), (.int p3)] Z h0 (Q_rm2 Z a1 t p3 f h0 n0) := by
  refine Pays.of (plainFor_of_name pn_2) ?_
  intro p e s m below meth c s₁ hx hby hml hown hnm hret hlk hZ X0 e0
  have hown : s.vm.findClass "com/example/trieval/trieval/index/IndexFile" = some m.cls := hown
  have hnm : meth.name = "writeVarInt" := hnm
  have hml : c.maxLocals = 5 := hml
  show Ends p e below s _ _ (fun v h L => v = some (.int (Int32.ofNat (t + own_nb 4 p3))) ∧ Fr n0 L ∧ Keep h0 h [a1] ∧ BB Z h a1 5 (own_wv 4 p3 t f)) s₁ _
  refine Ends.cast (ef_2 m a1 (Int32.ofNat t) p3) ?_
  have N0 := Fr.nil n0
  have loop : ∀ (k : Nat) (v : Int32) (i : Nat) (f : Nat → Int32) (T : State) (locs : List Loc) (h : Heap), own_u v < 128 * 128 ^ k → i + k + 1 ≤ 5 → Stand p l e ({ frames := 0, cells := 0, slots := 0, locals := 0 } : Room) s m #[(.ref a1), (.int (Int32.ofNat t)), (.int p3)] below meth c T locs 0 0 → T.heap = h → Fr n0 locs → Keep h0 h [a1] → BB Z h a1 5 f →
      ∀ {Q : Option Value → Heap → List Loc → Prop}, (∀ h L, Fr n0 L → Keep h0 h [a1] → BB Z h a1 5 (own_wv k v i f) → Q (some (.int (Int32.ofNat (i + own_nb k v)))) h L) → Ends p e below s 0 0 Q T (mkF m 5 #[.val (.ref a1), .val (.int (Int32.ofNat t)), .val (.int p3), .val (.int (Int32.ofNat i)), .val (.int v)] []) := by
    intro k
    induction k with
    | zero =>
      intro v i f T locs h hv hi X eT N K B Q hQ
      have hz : v &&& (-128) = 0 := (own_h7 v).mpr (by simpa using hv)
      refine Ends.to (T' := T) (g' := (mkF m 7 #[.val (.ref a1), .val (.int (Int32.ofNat t)), .val (.int p3), .val (.int (Int32.ofNat i)), .val (.int v)] [(.int v)])) (fun tt_ kk_ => XS.iload X.here hx rfl (hb hby d2_5) rfl kk_) ?_
      refine Ends.to (T' := T) (g' := (mkF m 9 #[.val (.ref a1), .val (.int (Int32.ofNat t)), .val (.int p3), .val (.int (Int32.ofNat i)), .val (.int v)] [(.int (-128 : Int32)), (.int v)])) (fun tt_ kk_ => XS.bipush X.here hx rfl (hb hby d2_7) kk_) ?_
      refine Ends.to (T' := T) (g' := (mkF m 10 #[.val (.ref a1), .val (.int (Int32.ofNat t)), .val (.int p3), .val (.int (Int32.ofNat i)), .val (.int v)] [(.int (v &&& (-128 : Int32)))])) (fun tt_ kk_ => XS.iand X.here hx rfl (hb hby d2_9) rfl kk_) ?_
      refine Ends.to (T' := T) (g' := (mkF m 39 #[.val (.ref a1), .val (.int (Int32.ofNat t)), .val (.int p3), .val (.int (Int32.ofNat i)), .val (.int v)] [])) (fun tt_ kk_ => XS.ifYes X.here hx rfl (pc0 := 10) (pc' := 39) rfl (hb hby d2_10) rfl ((if0 _ _).trans (teq hz).1) (by decide) (by decide) kk_) ?_
      refine Ends.to (T' := T) (g' := (mkF m 40 #[.val (.ref a1), .val (.int (Int32.ofNat t)), .val (.int p3), .val (.int (Int32.ofNat i)), .val (.int v)] [(.ref a1)])) (fun tt_ kk_ => XS.aloadN X.here hx rfl (hb hby d2_39) rfl rfl kk_) ?_
      refine Ends.to (T' := T) (g' := (mkF m 41 #[.val (.ref a1), .val (.int (Int32.ofNat t)), .val (.int p3), .val (.int (Int32.ofNat i)), .val (.int v)] [(.int (Int32.ofNat i)), (.ref a1)])) (fun tt_ kk_ => XS.iloadN X.here hx rfl (hb hby d2_40) rfl kk_) ?_
      refine Ends.to (T' := T) (g' := (mkF m 44 #[.val (.ref a1), .val (.int (Int32.ofNat t)), .val (.int p3), .val (.int ((Int32.ofNat i) + (1 : Int32))), .val (.int v)] [(.int (Int32.ofNat i)), (.ref a1)])) (fun tt_ kk_ => XS.iinc X.here hx rfl (hb hby d2_41) rfl (l' := #[.val (.ref a1), .val (.int (Int32.ofNat t)), .val (.int p3), .val (.int ((Int32.ofNat i) + (1 : Int32))), .val (.int v)]) rfl kk_) ?_
      rw [own_inc]
      refine Ends.to (T' := T) (g' := (mkF m 46 #[.val (.ref a1), .val (.int (Int32.ofNat t)), .val (.int p3), .val (.int (Int32.ofNat (i + 1))), .val (.int v)] [(.int v), (.int (Int32.ofNat i)), (.ref a1)])) (fun tt_ kk_ => XS.iload X.here hx rfl (hb hby d2_44) rfl kk_) ?_
      refine Ends.to (T' := T) (g' := (mkF m 47 #[.val (.ref a1), .val (.int (Int32.ofNat t)), .val (.int p3), .val (.int (Int32.ofNat (i + 1))), .val (.int v)] [(.int (v.toInt8.toInt32)), (.int (Int32.ofNat i)), (.ref a1)])) (fun tt_ kk_ => XS.i2b X.here hx rfl (hb hby d2_46) rfl kk_) ?_
      obtain ⟨T1, h1, X1, e1, W1, B', st1⟩ := BA.stB X hx hZ eT B (j := (Int32.ofNat i)) (i := i) (own_nneg (by omega)) (own_clamp (by omega)) (by omega) (g := (mkF m 47 #[.val (.ref a1), .val (.int (Int32.ofNat t)), .val (.int p3), .val (.int (Int32.ofNat (i + 1))), .val (.int v)] [(.int (v.toInt8.toInt32)), (.int (Int32.ofNat i)), (.ref a1)])) rfl rfl (hb hby d2_47)
      have K := Keep.wr K W1 (Or.inl (List.mem_of_getElem? (i := 0) rfl))
      have B := B'
      clear B'
      have N1 := Fr.snoc X1 N g1
      refine Ends.to (T' := T1) (g' := (mkF m 48 #[.val (.ref a1), .val (.int (Int32.ofNat t)), .val (.int p3), .val (.int (Int32.ofNat (i + 1))), .val (.int v)] [])) (fun tt_ kk_ => st1 tt_ kk_) ?_
      refine Ends.to (T' := T1) (g' := (mkF m 49 #[.val (.ref a1), .val (.int (Int32.ofNat t)), .val (.int p3), .val (.int (Int32.ofNat (i + 1))), .val (.int v)] [(.int (Int32.ofNat (i + 1)))])) (fun tt_ kk_ => XS.iloadN X1.here hx rfl (hb hby d2_48) rfl kk_) ?_
      refine Ends.retI X1 hx hret (hb hby d2_49) hlk (by decide) (by decide) ?_
      have q := hQ T1.heap _ N1 (by rw [e1]; exact K) (by rw [e1]; simp only [own_wv]; exact B)
      simp only [own_nb] at q
      exact q
    | succ k ih =>
      intro v i f T locs h hv hi X eT N K B Q hQ
      rw [Nat.pow_succ] at hv
      refine Ends.to (T' := T) (g' := (mkF m 7 #[.val (.ref a1), .val (.int (Int32.ofNat t)), .val (.int p3), .val (.int (Int32.ofNat i)), .val (.int v)] [(.int v)])) (fun tt_ kk_ => XS.iload X.here hx rfl (hb hby d2_5) rfl kk_) ?_
      refine Ends.to (T' := T) (g' := (mkF m 9 #[.val (.ref a1), .val (.int (Int32.ofNat t)), .val (.int p3), .val (.int (Int32.ofNat i)), .val (.int v)] [(.int (-128 : Int32)), (.int v)])) (fun tt_ kk_ => XS.bipush X.here hx rfl (hb hby d2_7) kk_) ?_
      refine Ends.to (T' := T) (g' := (mkF m 10 #[.val (.ref a1), .val (.int (Int32.ofNat t)), .val (.int p3), .val (.int (Int32.ofNat i)), .val (.int v)] [(.int (v &&& (-128 : Int32)))])) (fun tt_ kk_ => XS.iand X.here hx rfl (hb hby d2_9) rfl kk_) ?_
      by_cases hc10 : (v &&& (-128 : Int32)) = (0 : Int32)
      · refine Ends.to (T' := T) (g' := (mkF m 39 #[.val (.ref a1), .val (.int (Int32.ofNat t)), .val (.int p3), .val (.int (Int32.ofNat i)), .val (.int v)] [])) (fun tt_ kk_ => XS.ifYes X.here hx rfl (pc0 := 10) (pc' := 39) rfl (hb hby d2_10) rfl ((if0 _ _).trans (teq hc10).1) (by decide) (by decide) kk_) ?_
        refine Ends.to (T' := T) (g' := (mkF m 40 #[.val (.ref a1), .val (.int (Int32.ofNat t)), .val (.int p3), .val (.int (Int32.ofNat i)), .val (.int v)] [(.ref a1)])) (fun tt_ kk_ => XS.aloadN X.here hx rfl (hb hby d2_39) rfl rfl kk_) ?_
        refine Ends.to (T' := T) (g' := (mkF m 41 #[.val (.ref a1), .val (.int (Int32.ofNat t)), .val (.int p3), .val (.int (Int32.ofNat i)), .val (.int v)] [(.int (Int32.ofNat i)), (.ref a1)])) (fun tt_ kk_ => XS.iloadN X.here hx rfl (hb hby d2_40) rfl kk_) ?_
        refine Ends.to (T' := T) (g' := (mkF m 44 #[.val (.ref a1), .val (.int (Int32.ofNat t)), .val (.int p3), .val (.int ((Int32.ofNat i) + (1 : Int32))), .val (.int v)] [(.int (Int32.ofNat i)), (.ref a1)])) (fun tt_ kk_ => XS.iinc X.here hx rfl (hb hby d2_41) rfl (l' := #[.val (.ref a1), .val (.int (Int32.ofNat t)), .val (.int p3), .val (.int ((Int32.ofNat i) + (1 : Int32))), .val (.int v)]) rfl kk_) ?_
        rw [own_inc]
        refine Ends.to (T' := T) (g' := (mkF m 46 #[.val (.ref a1), .val (.int (Int32.ofNat t)), .val (.int p3), .val (.int (Int32.ofNat (i + 1))), .val (.int v)] [(.int v), (.int (Int32.ofNat i)), (.ref a1)])) (fun tt_ kk_ => XS.iload X.here hx rfl (hb hby d2_44) rfl kk_) ?_
        refine Ends.to (T' := T) (g' := (mkF m 47 #[.val (.ref a1), .val (.int (Int32.ofNat t)), .val (.int p3), .val (.int (Int32.ofNat (i + 1))), .val (.int v)] [(.int (v.toInt8.toInt32)), (.int (Int32.ofNat i)), (.ref a1)])) (fun tt_ kk_ => XS.i2b X.here hx rfl (hb hby d2_46) rfl kk_) ?_
        obtain ⟨T2, h2, X2, e2, W2, B', st2⟩ := BA.stB X hx hZ eT B (j := (Int32.ofNat i)) (i := i) (own_nneg (by omega)) (own_clamp (by omega)) (by omega) (g := (mkF m 47 #[.val (.ref a1), .val (.int (Int32.ofNat t)), .val (.int p3), .val (.int (Int32.ofNat (i + 1))), .val (.int v)] [(.int (v.toInt8.toInt32)), (.int (Int32.ofNat i)), (.ref a1)])) rfl rfl (hb hby d2_47)
        have K := Keep.wr K W2 (Or.inl (List.mem_of_getElem? (i := 0) rfl))
        have B := B'
        clear B'
        have N2 := Fr.snoc X2 N g1
        refine Ends.to (T' := T2) (g' := (mkF m 48 #[.val (.ref a1), .val (.int (Int32.ofNat t)), .val (.int p3), .val (.int (Int32.ofNat (i + 1))), .val (.int v)] [])) (fun tt_ kk_ => st2 tt_ kk_) ?_
        refine Ends.to (T' := T2) (g' := (mkF m 49 #[.val (.ref a1), .val (.int (Int32.ofNat t)), .val (.int p3), .val (.int (Int32.ofNat (i + 1))), .val (.int v)] [(.int (Int32.ofNat (i + 1)))])) (fun tt_ kk_ => XS.iloadN X2.here hx rfl (hb hby d2_48) rfl kk_) ?_
        refine Ends.retI X2 hx hret (hb hby d2_49) hlk (by decide) (by decide) ?_
        have q := hQ T2.heap _ N2 (by rw [e2]; exact K) (by rw [e2]; simp only [own_wv, if_pos hc10]; exact B)
        simp only [own_nb, if_pos hc10] at q
        exact q
      · refine Ends.to (T' := T) (g' := (mkF m 13 #[.val (.ref a1), .val (.int (Int32.ofNat t)), .val (.int p3), .val (.int (Int32.ofNat i)), .val (.int v)] [])) (fun tt_ kk_ => XS.ifNo X.here hx rfl (hb hby d2_10) rfl ((if0 _ _).trans (feq hc10).1) kk_) ?_
        refine Ends.to (T' := T) (g' := (mkF m 14 #[.val (.ref a1), .val (.int (Int32.ofNat t)), .val (.int p3), .val (.int (Int32.ofNat i)), .val (.int v)] [(.ref a1)])) (fun tt_ kk_ => XS.aloadN X.here hx rfl (hb hby d2_13) rfl rfl kk_) ?_
        refine Ends.to (T' := T) (g' := (mkF m 15 #[.val (.ref a1), .val (.int (Int32.ofNat t)), .val (.int p3), .val (.int (Int32.ofNat i)), .val (.int v)] [(.int (Int32.ofNat i)), (.ref a1)])) (fun tt_ kk_ => XS.iloadN X.here hx rfl (hb hby d2_14) rfl kk_) ?_
        refine Ends.to (T' := T) (g' := (mkF m 18 #[.val (.ref a1), .val (.int (Int32.ofNat t)), .val (.int p3), .val (.int ((Int32.ofNat i) + (1 : Int32))), .val (.int v)] [(.int (Int32.ofNat i)), (.ref a1)])) (fun tt_ kk_ => XS.iinc X.here hx rfl (hb hby d2_15) rfl (l' := #[.val (.ref a1), .val (.int (Int32.ofNat t)), .val (.int p3), .val (.int ((Int32.ofNat i) + (1 : Int32))), .val (.int v)]) rfl kk_) ?_
        rw [own_inc]
        refine Ends.to (T' := T) (g' := (mkF m 20 #[.val (.ref a1), .val (.int (Int32.ofNat t)), .val (.int p3), .val (.int (Int32.ofNat (i + 1))), .val (.int v)] [(.int v), (.int (Int32.ofNat i)), (.ref a1)])) (fun tt_ kk_ => XS.iload X.here hx rfl (hb hby d2_18) rfl kk_) ?_
        refine Ends.to (T' := T) (g' := (mkF m 22 #[.val (.ref a1), .val (.int (Int32.ofNat t)), .val (.int p3), .val (.int (Int32.ofNat (i + 1))), .val (.int v)] [(.int (127 : Int32)), (.int v), (.int (Int32.ofNat i)), (.ref a1)])) (fun tt_ kk_ => XS.bipush X.here hx rfl (hb hby d2_20) kk_) ?_
        refine Ends.to (T' := T) (g' := (mkF m 23 #[.val (.ref a1), .val (.int (Int32.ofNat t)), .val (.int p3), .val (.int (Int32.ofNat (i + 1))), .val (.int v)] [(.int (v &&& (127 : Int32))), (.int (Int32.ofNat i)), (.ref a1)])) (fun tt_ kk_ => XS.iand X.here hx rfl (hb hby d2_22) rfl kk_) ?_
        refine Ends.to (T' := T) (g' := (mkF m 26 #[.val (.ref a1), .val (.int (Int32.ofNat t)), .val (.int p3), .val (.int (Int32.ofNat (i + 1))), .val (.int v)] [(.int (128 : Int32)), (.int (v &&& (127 : Int32))), (.int (Int32.ofNat i)), (.ref a1)])) (fun tt_ kk_ => XS.sipush X.here hx rfl (hb hby d2_23) kk_) ?_
        refine Ends.to (T' := T) (g' := (mkF m 27 #[.val (.ref a1), .val (.int (Int32.ofNat t)), .val (.int p3), .val (.int (Int32.ofNat (i + 1))), .val (.int v)] [(.int ((v &&& (127 : Int32)) ||| (128 : Int32))), (.int (Int32.ofNat i)), (.ref a1)])) (fun tt_ kk_ => XS.ior X.here hx rfl (hb hby d2_26) rfl kk_) ?_
        refine Ends.to (T' := T) (g' := (mkF m 28 #[.val (.ref a1), .val (.int (Int32.ofNat t)), .val (.int p3), .val (.int (Int32.ofNat (i + 1))), .val (.int v)] [(.int (((v &&& (127 : Int32)) ||| (128 : Int32)).toInt8.toInt32)), (.int (Int32.ofNat i)), (.ref a1)])) (fun tt_ kk_ => XS.i2b X.here hx rfl (hb hby d2_27) rfl kk_) ?_
        obtain ⟨T3, h3, X3, e3, W3, B', st3⟩ := BA.stB X hx hZ eT B (j := (Int32.ofNat i)) (i := i) (own_nneg (by omega)) (own_clamp (by omega)) (by omega) (g := (mkF m 28 #[.val (.ref a1), .val (.int (Int32.ofNat t)), .val (.int p3), .val (.int (Int32.ofNat (i + 1))), .val (.int v)] [(.int (((v &&& (127 : Int32)) ||| (128 : Int32)).toInt8.toInt32)), (.int (Int32.ofNat i)), (.ref a1)])) rfl rfl (hb hby d2_28)
        have K := Keep.wr K W3 (Or.inl (List.mem_of_getElem? (i := 0) rfl))
        have B := B'
        clear B'
        have N3 := Fr.snoc X3 N g1
        refine Ends.to (T' := T3) (g' := (mkF m 29 #[.val (.ref a1), .val (.int (Int32.ofNat t)), .val (.int p3), .val (.int (Int32.ofNat (i + 1))), .val (.int v)] [])) (fun tt_ kk_ => st3 tt_ kk_) ?_
        refine Ends.to (T' := T3) (g' := (mkF m 31 #[.val (.ref a1), .val (.int (Int32.ofNat t)), .val (.int p3), .val (.int (Int32.ofNat (i + 1))), .val (.int v)] [(.int v)])) (fun tt_ kk_ => XS.iload X3.here hx rfl (hb hby d2_29) rfl kk_) ?_
        refine Ends.to (T' := T3) (g' := (mkF m 33 #[.val (.ref a1), .val (.int (Int32.ofNat t)), .val (.int p3), .val (.int (Int32.ofNat (i + 1))), .val (.int v)] [(.int (7 : Int32)), (.int v)])) (fun tt_ kk_ => XS.bipush X3.here hx rfl (hb hby d2_31) kk_) ?_
        refine Ends.to (T' := T3) (g' := (mkF m 34 #[.val (.ref a1), .val (.int (Int32.ofNat t)), .val (.int p3), .val (.int (Int32.ofNat (i + 1))), .val (.int v)] [(.int ((v.toUInt32 >>> ((7 : Int32) &&& 31).toUInt32).toInt32))])) (fun tt_ kk_ => XS.iushr X3.here hx rfl (hb hby d2_33) rfl kk_) ?_
        refine Ends.to (T' := T3) (g' := (mkF m 36 #[.val (.ref a1), .val (.int (Int32.ofNat t)), .val (.int p3), .val (.int (Int32.ofNat (i + 1))), .val (.int ((v.toUInt32 >>> ((7 : Int32) &&& 31).toUInt32).toInt32))] [])) (fun tt_ kk_ => XS.istore X3.here hx rfl (hb hby d2_34) rfl (l' := #[.val (.ref a1), .val (.int (Int32.ofNat t)), .val (.int p3), .val (.int (Int32.ofNat (i + 1))), .val (.int ((v.toUInt32 >>> ((7 : Int32) &&& 31).toUInt32).toInt32))]) rfl kk_) ?_
        refine Ends.to (T' := T3) (g' := (mkF m 5 #[.val (.ref a1), .val (.int (Int32.ofNat t)), .val (.int p3), .val (.int (Int32.ofNat (i + 1))), .val (.int ((v.toUInt32 >>> ((7 : Int32) &&& 31).toUInt32).toInt32))] [])) (fun tt_ kk_ => XS.goto X3.here hx rfl (pc0 := 36) (pc' := 5) rfl (hb hby d2_36) (by decide) (by decide) kk_) ?_
        exact ih (own_s7 v) (i + 1) _ T3 _ h3 (by rw [own_u_s7]; omega) (by omega) X3 e3 N3 K B (fun h L a b c => by have q := hQ h L a b; simp only [own_wv, own_nb, if_neg hc10] at q; rw [show i + 1 + own_nb k (own_s7 v) = i + (own_nb k (own_s7 v) + 1) from by omega]; exact q c)
  refine Ends.to (T' := s₁) (g' := (mkF m 1 #[.val (.ref a1), .val (.int (Int32.ofNat t)), .val (.int p3), .unset, .unset] [(.int (Int32.ofNat t))])) (fun tt_ kk_ => XS.iloadN X0.here hx rfl (hb hby d2_0) rfl kk_) ?_
  refine Ends.to (T' := s₁) (g' := (mkF m 2 #[.val (.ref a1), .val (.int (Int32.ofNat t)), .val (.int p3), .val (.int (Int32.ofNat t)), .unset] [])) (fun tt_ kk_ => XS.istoreN X0.here hx rfl (hb hby d2_1) rfl (l' := #[.val (.ref a1), .val (.int (Int32.ofNat t)), .val (.int p3), .val (.int (Int32.ofNat t)), .unset]) rfl kk_) ?_
  refine Ends.to (T' := s₁) (g' := (mkF m 3 #[.val (.ref a1), .val (.int (Int32.ofNat t)), .val (.int p3), .val (.int (Int32.ofNat t)), .unset] [(.int p3)])) (fun tt_ kk_ => XS.iloadN X0.here hx rfl (hb hby d2_2) rfl kk_) ?_
  refine Ends.to (T' := s₁) (g' := (mkF m 5 #[.val (.ref a1), .val (.int (Int32.ofNat t)), .val (.int p3), .val (.int (Int32.ofNat t)), .val (.int p3)] [])) (fun tt_ kk_ => XS.istore X0.here hx rfl (hb hby d2_3) rfl (l' := #[.val (.ref a1), .val (.int (Int32.ofNat t)), .val (.int p3), .val (.int (Int32.ofNat t)), .val (.int p3)]) rfl kk_) ?_
  exact loop 4 p3 t f _ [] h0 (by have := own_u_lt p3; omega) (by omega) X0 e0 N0 (Keep.refl _ _) B1 (fun h L a b c => ⟨rfl, a, b, c⟩)
def own_vl : Nat → Int32 → Int32 → Int32
  | 0, c, _ => c
  | k + 1, c, r => if r = 0 then c else own_vl k (c + 1) (own_s7 r)
def own_xl (v : Int32) : Int32 :=
  if (v.toInt64 &&& 4294967295) < 128 then 1 else if (v.toInt64 &&& 4294967295) < 16384 then 2 else if (v.toInt64 &&& 4294967295) < 2097152 then 3 else if (v.toInt64 &&& 4294967295) < 268435456 then 4 else 5
set_option maxRecDepth 65536 in
set_option maxHeartbeats 40000000 in
def Q_rm1 (Z : State) (p1 : Int32) (h0 : Heap) (n0 : Nat) : Option Value → Heap → List Loc → Prop := fun v h L => v = some (.int (own_vl 4 1 (own_s7 p1))) ∧ Fr n0 L ∧ h = h0
set_option maxRecDepth 65536 in
set_option maxHeartbeats 40000000 in
theorem rm1 (l : Launch) (Z : State) (a0 : Array Value) (hw : ∀ d ∈ tables_1, d.before a0 Z = true) (ws : List Jvm.Cond) (p1 : Int32) (h0 : Heap) (n0 : Nat) (Z0 : n0 ≤ h0.size) :
    Pays l (⟨"com/example/trieval/trieval/index/IndexFile", "varIntLength", "(I)I"⟩ : MethodName) prog_55_method_6_code 3 (some .int) ws ({ frames := 0, cells := 0, slots := 0, locals := 0 } : Room) #[(.int p1)] Z h0 (Q_rm1 Z p1 h0 n0) := by
  refine Pays.of (plainFor_of_name pn_1) ?_
  intro p e s m below meth c s₁ hx hby hml hown hnm hret hlk hZ X0 e0
  have hown : s.vm.findClass "com/example/trieval/trieval/index/IndexFile" = some m.cls := hown
  have hnm : meth.name = "varIntLength" := hnm
  have hml : c.maxLocals = 3 := hml
  show Ends p e below s _ _ (fun v h L => v = some (.int (own_vl 4 1 (own_s7 p1))) ∧ Fr n0 L ∧ h = h0) s₁ _
  refine Ends.cast (ef_1 m p1) ?_
  have N0 := Fr.nil n0
  have loop : ∀ (k : Nat) (c1 r : Int32), own_u r < 128 ^ k → ∀ {Q : Option Value → Heap → List Loc → Prop}, Q (some (.int (own_vl k c1 r))) s₁.heap [] → Ends p e below s 0 0 Q s₁ (mkF m 7 #[.val (.int p1), .val (.int c1), .val (.int r)] []) := by
    intro k
    induction k with
    | zero =>
      intro c1 r hr Q hQ
      have hz : r = 0 := own_u_inj (by rw [show own_u 0 = 0 from by decide]; simpa using hr)
      refine Ends.to (T' := s₁) (g' := (mkF m 8 #[.val (.int p1), .val (.int c1), .val (.int r)] [(.int r)])) (fun tt_ kk_ => XS.iloadN X0.here hx rfl (hb hby d1_7) rfl kk_) ?_
      refine Ends.to (T' := s₁) (g' := (mkF m 22 #[.val (.int p1), .val (.int c1), .val (.int r)] [])) (fun tt_ kk_ => XS.ifYes X0.here hx rfl (pc0 := 8) (pc' := 22) rfl (hb hby d1_8) rfl ((if0 _ _).trans (teq hz).1) (by decide) (by decide) kk_) ?_
      refine Ends.to (T' := s₁) (g' := (mkF m 23 #[.val (.int p1), .val (.int c1), .val (.int r)] [(.int c1)])) (fun tt_ kk_ => XS.iloadN X0.here hx rfl (hb hby d1_22) rfl kk_) ?_
      exact Ends.retI X0 hx hret (hb hby d1_23) hlk (by decide) (by decide) hQ
    | succ k ih =>
      intro c1 r hr Q hQ
      rw [Nat.pow_succ] at hr
      refine Ends.to (T' := s₁) (g' := (mkF m 8 #[.val (.int p1), .val (.int c1), .val (.int r)] [(.int r)])) (fun tt_ kk_ => XS.iloadN X0.here hx rfl (hb hby d1_7) rfl kk_) ?_
      by_cases hc8 : r = (0 : Int32)
      · refine Ends.to (T' := s₁) (g' := (mkF m 22 #[.val (.int p1), .val (.int c1), .val (.int r)] [])) (fun tt_ kk_ => XS.ifYes X0.here hx rfl (pc0 := 8) (pc' := 22) rfl (hb hby d1_8) rfl ((if0 _ _).trans (teq hc8).1) (by decide) (by decide) kk_) ?_
        refine Ends.to (T' := s₁) (g' := (mkF m 23 #[.val (.int p1), .val (.int c1), .val (.int r)] [(.int c1)])) (fun tt_ kk_ => XS.iloadN X0.here hx rfl (hb hby d1_22) rfl kk_) ?_
        exact Ends.retI X0 hx hret (hb hby d1_23) hlk (by decide) (by decide) (by simpa only [own_vl, if_pos hc8] using hQ)
      · refine Ends.to (T' := s₁) (g' := (mkF m 11 #[.val (.int p1), .val (.int c1), .val (.int r)] [])) (fun tt_ kk_ => XS.ifNo X0.here hx rfl (hb hby d1_8) rfl ((if0 _ _).trans (feq hc8).1) kk_) ?_
        refine Ends.to (T' := s₁) (g' := (mkF m 14 #[.val (.int p1), .val (.int (c1 + (1 : Int32))), .val (.int r)] [])) (fun tt_ kk_ => XS.iinc X0.here hx rfl (hb hby d1_11) rfl (l' := #[.val (.int p1), .val (.int (c1 + (1 : Int32))), .val (.int r)]) rfl kk_) ?_
        refine Ends.to (T' := s₁) (g' := (mkF m 15 #[.val (.int p1), .val (.int (c1 + (1 : Int32))), .val (.int r)] [(.int r)])) (fun tt_ kk_ => XS.iloadN X0.here hx rfl (hb hby d1_14) rfl kk_) ?_
        refine Ends.to (T' := s₁) (g' := (mkF m 17 #[.val (.int p1), .val (.int (c1 + (1 : Int32))), .val (.int r)] [(.int (7 : Int32)), (.int r)])) (fun tt_ kk_ => XS.bipush X0.here hx rfl (hb hby d1_15) kk_) ?_
        refine Ends.to (T' := s₁) (g' := (mkF m 18 #[.val (.int p1), .val (.int (c1 + (1 : Int32))), .val (.int r)] [(.int ((r.toUInt32 >>> ((7 : Int32) &&& 31).toUInt32).toInt32))])) (fun tt_ kk_ => XS.iushr X0.here hx rfl (hb hby d1_17) rfl kk_) ?_
        refine Ends.to (T' := s₁) (g' := (mkF m 19 #[.val (.int p1), .val (.int (c1 + (1 : Int32))), .val (.int ((r.toUInt32 >>> ((7 : Int32) &&& 31).toUInt32).toInt32))] [])) (fun tt_ kk_ => XS.istoreN X0.here hx rfl (hb hby d1_18) rfl (l' := #[.val (.int p1), .val (.int (c1 + (1 : Int32))), .val (.int ((r.toUInt32 >>> ((7 : Int32) &&& 31).toUInt32).toInt32))]) rfl kk_) ?_
        refine Ends.to (T' := s₁) (g' := (mkF m 7 #[.val (.int p1), .val (.int (c1 + (1 : Int32))), .val (.int ((r.toUInt32 >>> ((7 : Int32) &&& 31).toUInt32).toInt32))] [])) (fun tt_ kk_ => XS.goto X0.here hx rfl (pc0 := 19) (pc' := 7) rfl (hb hby d1_19) (by decide) (by decide) kk_) ?_
        exact ih (c1 + 1) (own_s7 r) (by rw [own_u_s7]; omega) (by simpa only [own_vl, if_neg hc8] using hQ)
  refine Ends.to (T' := s₁) (g' := (mkF m 1 #[.val (.int p1), .unset, .unset] [(.int (1 : Int32))])) (fun tt_ kk_ => XS.iconst X0.here hx rfl (hb hby d1_0) kk_) ?_
  refine Ends.to (T' := s₁) (g' := (mkF m 2 #[.val (.int p1), .val (.int (1 : Int32)), .unset] [])) (fun tt_ kk_ => XS.istoreN X0.here hx rfl (hb hby d1_1) rfl (l' := #[.val (.int p1), .val (.int (1 : Int32)), .unset]) rfl kk_) ?_
  refine Ends.to (T' := s₁) (g' := (mkF m 3 #[.val (.int p1), .val (.int (1 : Int32)), .unset] [(.int p1)])) (fun tt_ kk_ => XS.iloadN X0.here hx rfl (hb hby d1_2) rfl kk_) ?_
  refine Ends.to (T' := s₁) (g' := (mkF m 5 #[.val (.int p1), .val (.int (1 : Int32)), .unset] [(.int (7 : Int32)), (.int p1)])) (fun tt_ kk_ => XS.bipush X0.here hx rfl (hb hby d1_3) kk_) ?_
  refine Ends.to (T' := s₁) (g' := (mkF m 6 #[.val (.int p1), .val (.int (1 : Int32)), .unset] [(.int ((p1.toUInt32 >>> ((7 : Int32) &&& 31).toUInt32).toInt32))])) (fun tt_ kk_ => XS.iushr X0.here hx rfl (hb hby d1_5) rfl kk_) ?_
  refine Ends.to (T' := s₁) (g' := (mkF m 7 #[.val (.int p1), .val (.int (1 : Int32)), .val (.int ((p1.toUInt32 >>> ((7 : Int32) &&& 31).toUInt32).toInt32))] [])) (fun tt_ kk_ => XS.istoreN X0.here hx rfl (hb hby d1_6) rfl (l' := #[.val (.int p1), .val (.int (1 : Int32)), .val (.int ((p1.toUInt32 >>> ((7 : Int32) &&& 31).toUInt32).toInt32))]) rfl kk_) ?_
  exact loop 4 1 (own_s7 p1) (by rw [own_u_s7]; have := own_u_lt p1; omega) ⟨rfl, N0, e0⟩
set_option maxRecDepth 65536 in
set_option maxHeartbeats 40000000 in
def Q_rm3 (Z : State) (p1 : Int32) (h0 : Heap) (n0 : Nat) : Option Value → Heap → List Loc → Prop := fun v h L => v = some (.int (own_xl p1)) ∧ Fr n0 L ∧ h = h0
set_option maxRecDepth 65536 in
set_option maxHeartbeats 40000000 in
theorem rm3 (l : Launch) (Z : State) (a0 : Array Value) (hw : ∀ d ∈ tables_1, d.before a0 Z = true) (ws : List Jvm.Cond) (p1 : Int32) (h0 : Heap) (n0 : Nat) (Z0 : n0 ≤ h0.size) :
    Pays l (⟨"com/example/trieval/trieval/index/IndexFileVarIntLengthPinLaw", "expected", "(I)I"⟩ : MethodName) method_2_code 3 (some .int) ws ({ frames := 0, cells := 0, slots := 0, locals := 0 } : Room) #[(.int p1)] Z h0 (Q_rm3 Z p1 h0 n0) := by
  refine Pays.of (plainFor_of_name pn_3) ?_
  intro p e s m below meth c s₁ hx hby hml hown hnm hret hlk hZ X0 e0
  have hown : s.vm.findClass "com/example/trieval/trieval/index/IndexFileVarIntLengthPinLaw" = some m.cls := hown
  have hnm : meth.name = "expected" := hnm
  have hml : c.maxLocals = 3 := hml
  show Ends p e below s _ _ (fun v h L => v = some (.int (own_xl p1)) ∧ Fr n0 L ∧ h = h0) s₁ _
  refine Ends.cast (ef_3 m p1) ?_
  have N0 := Fr.nil n0
  refine Ends.to (T' := s₁) (g' := (mkF m 1 #[.val (.int p1), .unset, .unset] [(.int p1)])) (fun tt_ kk_ => XS.iloadN X0.here hx rfl (hb hby d3_0) rfl kk_) ?_
  refine Ends.to (T' := s₁) (g' := (mkF m 2 #[.val (.int p1), .unset, .unset] [(.long (p1.toInt64))])) (fun tt_ kk_ => XS.i2l X0.here hx rfl (hb hby d3_1) rfl kk_) ?_
  refine Ends.to (T' := s₁) (g' := (mkF m 5 #[.val (.int p1), .unset, .unset] [(.long (4294967295 : Int64)), (.long (p1.toInt64))])) (fun tt_ kk_ => X0.ldc2Long hx hown (mvT hZ (hw _ (List.mem_of_getElem? (i := 12) rfl))) (g := (mkF m 2 #[.val (.int p1), .unset, .unset] [(.long (p1.toInt64))])) rfl (hb hby d3_2) _ kk_) ?_
  refine Ends.to (T' := s₁) (g' := (mkF m 6 #[.val (.int p1), .unset, .unset] [(.long ((p1.toInt64) &&& (4294967295 : Int64)))])) (fun tt_ kk_ => XS.land X0.here hx rfl (hb hby d3_5) rfl kk_) ?_
  refine Ends.to (T' := s₁) (g' := (mkF m 7 #[.val (.int p1), .val (.long ((p1.toInt64) &&& (4294967295 : Int64))), .second] [])) (fun tt_ kk_ => XS.lstoreN X0.here hx rfl (hb hby d3_6) rfl (l' := #[.val (.int p1), .val (.long ((p1.toInt64) &&& (4294967295 : Int64))), .second]) rfl kk_) ?_
  refine Ends.to (T' := s₁) (g' := (mkF m 8 #[.val (.int p1), .val (.long ((p1.toInt64) &&& (4294967295 : Int64))), .second] [(.long ((p1.toInt64) &&& (4294967295 : Int64)))])) (fun tt_ kk_ => XS.lloadN X0.here hx rfl (hb hby d3_7) rfl kk_) ?_
  refine Ends.to (T' := s₁) (g' := (mkF m 11 #[.val (.int p1), .val (.long ((p1.toInt64) &&& (4294967295 : Int64))), .second] [(.long (128 : Int64)), (.long ((p1.toInt64) &&& (4294967295 : Int64)))])) (fun tt_ kk_ => X0.ldc2Long hx hown (mvT hZ (hw _ (List.mem_of_getElem? (i := 13) rfl))) (g := (mkF m 8 #[.val (.int p1), .val (.long ((p1.toInt64) &&& (4294967295 : Int64))), .second] [(.long ((p1.toInt64) &&& (4294967295 : Int64)))])) rfl (hb hby d3_8) _ kk_) ?_
  refine Ends.to (T' := s₁) (g' := (mkF m 12 #[.val (.int p1), .val (.long ((p1.toInt64) &&& (4294967295 : Int64))), .second] [(.int (lcmpW ((p1.toInt64) &&& (4294967295 : Int64)) (128 : Int64)))])) (fun tt_ kk_ => XS.lcmp X0.here hx rfl (hb hby d3_11) rfl kk_) ?_
  by_cases hc12 : ((p1.toInt64) &&& (4294967295 : Int64)) < (128 : Int64)
  · refine Ends.to (T' := s₁) (g' := (mkF m 15 #[.val (.int p1), .val (.long ((p1.toInt64) &&& (4294967295 : Int64))), .second] [])) (fun tt_ kk_ => XS.ifNo X0.here hx rfl (hb hby d3_12) rfl ((if0 _ _).trans (tlt ((lw_lt _ _).mpr hc12)).2.1) kk_) ?_
    refine Ends.to (T' := s₁) (g' := (mkF m 16 #[.val (.int p1), .val (.long ((p1.toInt64) &&& (4294967295 : Int64))), .second] [(.int (1 : Int32))])) (fun tt_ kk_ => XS.iconst X0.here hx rfl (hb hby d3_15) kk_) ?_
    exact Ends.retI X0 hx hret (hb hby d3_16) hlk (by decide) (by decide) ⟨by simp only [own_xl, if_pos hc12], N0, e0⟩
  · refine Ends.to (T' := s₁) (g' := (mkF m 17 #[.val (.int p1), .val (.long ((p1.toInt64) &&& (4294967295 : Int64))), .second] [])) (fun tt_ kk_ => XS.ifYes X0.here hx rfl (pc0 := 12) (pc' := 17) rfl (hb hby d3_12) rfl ((if0 _ _).trans (flt (fun q => hc12 ((lw_lt _ _).mp q))).2.1) (by decide) (by decide) kk_) ?_
    refine Ends.to (T' := s₁) (g' := (mkF m 18 #[.val (.int p1), .val (.long ((p1.toInt64) &&& (4294967295 : Int64))), .second] [(.long ((p1.toInt64) &&& (4294967295 : Int64)))])) (fun tt_ kk_ => XS.lloadN X0.here hx rfl (hb hby d3_17) rfl kk_) ?_
    refine Ends.to (T' := s₁) (g' := (mkF m 21 #[.val (.int p1), .val (.long ((p1.toInt64) &&& (4294967295 : Int64))), .second] [(.long (16384 : Int64)), (.long ((p1.toInt64) &&& (4294967295 : Int64)))])) (fun tt_ kk_ => X0.ldc2Long hx hown (mvT hZ (hw _ (List.mem_of_getElem? (i := 14) rfl))) (g := (mkF m 18 #[.val (.int p1), .val (.long ((p1.toInt64) &&& (4294967295 : Int64))), .second] [(.long ((p1.toInt64) &&& (4294967295 : Int64)))])) rfl (hb hby d3_18) _ kk_) ?_
    refine Ends.to (T' := s₁) (g' := (mkF m 22 #[.val (.int p1), .val (.long ((p1.toInt64) &&& (4294967295 : Int64))), .second] [(.int (lcmpW ((p1.toInt64) &&& (4294967295 : Int64)) (16384 : Int64)))])) (fun tt_ kk_ => XS.lcmp X0.here hx rfl (hb hby d3_21) rfl kk_) ?_
    by_cases hc22 : ((p1.toInt64) &&& (4294967295 : Int64)) < (16384 : Int64)
    · refine Ends.to (T' := s₁) (g' := (mkF m 25 #[.val (.int p1), .val (.long ((p1.toInt64) &&& (4294967295 : Int64))), .second] [])) (fun tt_ kk_ => XS.ifNo X0.here hx rfl (hb hby d3_22) rfl ((if0 _ _).trans (tlt ((lw_lt _ _).mpr hc22)).2.1) kk_) ?_
      refine Ends.to (T' := s₁) (g' := (mkF m 26 #[.val (.int p1), .val (.long ((p1.toInt64) &&& (4294967295 : Int64))), .second] [(.int (2 : Int32))])) (fun tt_ kk_ => XS.iconst X0.here hx rfl (hb hby d3_25) kk_) ?_
      exact Ends.retI X0 hx hret (hb hby d3_26) hlk (by decide) (by decide) ⟨by simp only [own_xl, if_neg hc12, if_pos hc22], N0, e0⟩
    · refine Ends.to (T' := s₁) (g' := (mkF m 27 #[.val (.int p1), .val (.long ((p1.toInt64) &&& (4294967295 : Int64))), .second] [])) (fun tt_ kk_ => XS.ifYes X0.here hx rfl (pc0 := 22) (pc' := 27) rfl (hb hby d3_22) rfl ((if0 _ _).trans (flt (fun q => hc22 ((lw_lt _ _).mp q))).2.1) (by decide) (by decide) kk_) ?_
      refine Ends.to (T' := s₁) (g' := (mkF m 28 #[.val (.int p1), .val (.long ((p1.toInt64) &&& (4294967295 : Int64))), .second] [(.long ((p1.toInt64) &&& (4294967295 : Int64)))])) (fun tt_ kk_ => XS.lloadN X0.here hx rfl (hb hby d3_27) rfl kk_) ?_
      refine Ends.to (T' := s₁) (g' := (mkF m 31 #[.val (.int p1), .val (.long ((p1.toInt64) &&& (4294967295 : Int64))), .second] [(.long (2097152 : Int64)), (.long ((p1.toInt64) &&& (4294967295 : Int64)))])) (fun tt_ kk_ => X0.ldc2Long hx hown (mvT hZ (hw _ (List.mem_of_getElem? (i := 15) rfl))) (g := (mkF m 28 #[.val (.int p1), .val (.long ((p1.toInt64) &&& (4294967295 : Int64))), .second] [(.long ((p1.toInt64) &&& (4294967295 : Int64)))])) rfl (hb hby d3_28) _ kk_) ?_
      refine Ends.to (T' := s₁) (g' := (mkF m 32 #[.val (.int p1), .val (.long ((p1.toInt64) &&& (4294967295 : Int64))), .second] [(.int (lcmpW ((p1.toInt64) &&& (4294967295 : Int64)) (2097152 : Int64)))])) (fun tt_ kk_ => XS.lcmp X0.here hx rfl (hb hby d3_31) rfl kk_) ?_
      by_cases hc32 : ((p1.toInt64) &&& (4294967295 : Int64)) < (2097152 : Int64)
      · refine Ends.to (T' := s₁) (g' := (mkF m 35 #[.val (.int p1), .val (.long ((p1.toInt64) &&& (4294967295 : Int64))), .second] [])) (fun tt_ kk_ => XS.ifNo X0.here hx rfl (hb hby d3_32) rfl ((if0 _ _).trans (tlt ((lw_lt _ _).mpr hc32)).2.1) kk_) ?_
        refine Ends.to (T' := s₁) (g' := (mkF m 36 #[.val (.int p1), .val (.long ((p1.toInt64) &&& (4294967295 : Int64))), .second] [(.int (3 : Int32))])) (fun tt_ kk_ => XS.iconst X0.here hx rfl (hb hby d3_35) kk_) ?_
        exact Ends.retI X0 hx hret (hb hby d3_36) hlk (by decide) (by decide) ⟨by simp only [own_xl, if_neg hc12, if_neg hc22, if_pos hc32], N0, e0⟩
      · refine Ends.to (T' := s₁) (g' := (mkF m 37 #[.val (.int p1), .val (.long ((p1.toInt64) &&& (4294967295 : Int64))), .second] [])) (fun tt_ kk_ => XS.ifYes X0.here hx rfl (pc0 := 32) (pc' := 37) rfl (hb hby d3_32) rfl ((if0 _ _).trans (flt (fun q => hc32 ((lw_lt _ _).mp q))).2.1) (by decide) (by decide) kk_) ?_
        refine Ends.to (T' := s₁) (g' := (mkF m 38 #[.val (.int p1), .val (.long ((p1.toInt64) &&& (4294967295 : Int64))), .second] [(.long ((p1.toInt64) &&& (4294967295 : Int64)))])) (fun tt_ kk_ => XS.lloadN X0.here hx rfl (hb hby d3_37) rfl kk_) ?_
        refine Ends.to (T' := s₁) (g' := (mkF m 41 #[.val (.int p1), .val (.long ((p1.toInt64) &&& (4294967295 : Int64))), .second] [(.long (268435456 : Int64)), (.long ((p1.toInt64) &&& (4294967295 : Int64)))])) (fun tt_ kk_ => X0.ldc2Long hx hown (mvT hZ (hw _ (List.mem_of_getElem? (i := 16) rfl))) (g := (mkF m 38 #[.val (.int p1), .val (.long ((p1.toInt64) &&& (4294967295 : Int64))), .second] [(.long ((p1.toInt64) &&& (4294967295 : Int64)))])) rfl (hb hby d3_38) _ kk_) ?_
        refine Ends.to (T' := s₁) (g' := (mkF m 42 #[.val (.int p1), .val (.long ((p1.toInt64) &&& (4294967295 : Int64))), .second] [(.int (lcmpW ((p1.toInt64) &&& (4294967295 : Int64)) (268435456 : Int64)))])) (fun tt_ kk_ => XS.lcmp X0.here hx rfl (hb hby d3_41) rfl kk_) ?_
        by_cases hc42 : ((p1.toInt64) &&& (4294967295 : Int64)) < (268435456 : Int64)
        · refine Ends.to (T' := s₁) (g' := (mkF m 45 #[.val (.int p1), .val (.long ((p1.toInt64) &&& (4294967295 : Int64))), .second] [])) (fun tt_ kk_ => XS.ifNo X0.here hx rfl (hb hby d3_42) rfl ((if0 _ _).trans (tlt ((lw_lt _ _).mpr hc42)).2.1) kk_) ?_
          refine Ends.to (T' := s₁) (g' := (mkF m 46 #[.val (.int p1), .val (.long ((p1.toInt64) &&& (4294967295 : Int64))), .second] [(.int (4 : Int32))])) (fun tt_ kk_ => XS.iconst X0.here hx rfl (hb hby d3_45) kk_) ?_
          exact Ends.retI X0 hx hret (hb hby d3_46) hlk (by decide) (by decide) ⟨by simp only [own_xl, if_neg hc12, if_neg hc22, if_neg hc32, if_pos hc42], N0, e0⟩
        · refine Ends.to (T' := s₁) (g' := (mkF m 47 #[.val (.int p1), .val (.long ((p1.toInt64) &&& (4294967295 : Int64))), .second] [])) (fun tt_ kk_ => XS.ifYes X0.here hx rfl (pc0 := 42) (pc' := 47) rfl (hb hby d3_42) rfl ((if0 _ _).trans (flt (fun q => hc42 ((lw_lt _ _).mp q))).2.1) (by decide) (by decide) kk_) ?_
          refine Ends.to (T' := s₁) (g' := (mkF m 48 #[.val (.int p1), .val (.long ((p1.toInt64) &&& (4294967295 : Int64))), .second] [(.int (5 : Int32))])) (fun tt_ kk_ => XS.iconst X0.here hx rfl (hb hby d3_47) kk_) ?_
          exact Ends.retI X0 hx hret (hb hby d3_48) hlk (by decide) (by decide) ⟨by simp only [own_xl, if_neg hc12, if_neg hc22, if_neg hc32, if_neg hc42], N0, e0⟩
theorem own_nb4 (v : Int32) : own_nb 4 v = if own_u v < 128 then 1 else if own_u v < 16384 then 2 else if own_u v < 2097152 then 3 else if own_u v < 268435456 then 4 else 5 := by
  simp only [own_nb, own_h7, own_u_s7]
  have := own_u_lt v
  by_cases a : own_u v < 128
  · simp only [if_pos a]
  by_cases b : own_u v < 16384
  · simp only [if_neg a, if_pos b, if_pos (show own_u v / 128 < 128 from by omega)]
  by_cases c : own_u v < 2097152
  · simp only [if_neg a, if_neg b, if_pos c, if_neg (show ¬ own_u v / 128 < 128 from by omega), if_pos (show own_u v / 128 / 128 < 128 from by omega)]
  by_cases d : own_u v < 268435456
  · simp only [if_neg a, if_neg b, if_neg c, if_pos d, if_neg (show ¬ own_u v / 128 < 128 from by omega), if_neg (show ¬ own_u v / 128 / 128 < 128 from by omega), if_pos (show own_u v / 128 / 128 / 128 < 128 from by omega)]
  · simp only [if_neg a, if_neg b, if_neg c, if_neg d, if_neg (show ¬ own_u v / 128 < 128 from by omega), if_neg (show ¬ own_u v / 128 / 128 < 128 from by omega), if_neg (show ¬ own_u v / 128 / 128 / 128 < 128 from by omega)]
theorem own_z (r : Int32) : r = 0 ↔ own_u r = 0 := ⟨fun h => by rw [h]; decide, fun h => own_u_inj (by rw [h]; decide)⟩
theorem own_vl4 (v : Int32) : own_vl 4 1 (own_s7 v) = if own_u v < 128 then 1 else if own_u v < 16384 then 2 else if own_u v < 2097152 then 3 else if own_u v < 268435456 then 4 else 5 := by
  simp only [own_vl, own_z, own_u_s7]
  have := own_u_lt v
  by_cases a : own_u v < 128
  · simp only [if_pos a, if_pos (show own_u v / 128 = 0 from by omega)]
  by_cases b : own_u v < 16384
  · simp only [if_neg a, if_pos b, if_neg (show ¬ own_u v / 128 = 0 from by omega), if_pos (show own_u v / 128 / 128 = 0 from by omega)]; decide
  by_cases c : own_u v < 2097152
  · simp only [if_neg a, if_neg b, if_pos c, if_neg (show ¬ own_u v / 128 = 0 from by omega), if_neg (show ¬ own_u v / 128 / 128 = 0 from by omega), if_pos (show own_u v / 128 / 128 / 128 = 0 from by omega)]; decide
  by_cases d : own_u v < 268435456
  · simp only [if_neg a, if_neg b, if_neg c, if_pos d, if_neg (show ¬ own_u v / 128 = 0 from by omega), if_neg (show ¬ own_u v / 128 / 128 = 0 from by omega), if_neg (show ¬ own_u v / 128 / 128 / 128 = 0 from by omega), if_pos (show own_u v / 128 / 128 / 128 / 128 = 0 from by omega)]; decide
  · simp only [if_neg a, if_neg b, if_neg c, if_neg d, if_neg (show ¬ own_u v / 128 = 0 from by omega), if_neg (show ¬ own_u v / 128 / 128 = 0 from by omega), if_neg (show ¬ own_u v / 128 / 128 / 128 = 0 from by omega), if_neg (show ¬ own_u v / 128 / 128 / 128 / 128 = 0 from by omega)]; decide
theorem own_uInt (v : Int32) : v.toInt % 4294967296 = (own_u v : Int) := by
  have e : v.toInt = if 2 * own_u v < 2 ^ 32 then (own_u v : Int) else (own_u v : Int) - (2 ^ 32 : Nat) := BitVec.toInt_eq_toNat_cond v.toBitVec
  have := own_u_lt v
  split at e <;> omega
theorem own_long (v : Int32) : (v.toInt64 &&& 4294967295).toInt = (own_u v : Int) := by
  rw [Jvm.Kit.i64_mask v.toInt64 4294967295 (k := 32) (by decide) (by decide), Jvm.Kit.i64_of_i32]
  exact own_uInt v
theorem own_ltL (v : Int32) {z : Int64} {n : Nat} (hz : z.toInt = n) : ((v.toInt64 &&& 4294967295) < z) ↔ own_u v < n := by
  rw [Int64.lt_iff_toInt_lt, own_long, hz]; omega
theorem own_eq1 (v : Int32) : own_vl 4 1 (own_s7 v) = own_xl v := by
  rw [own_vl4]
  unfold own_xl
  simp only [own_ltL v (z := 128) (n := 128) rfl, own_ltL v (z := 16384) (n := 16384) rfl, own_ltL v (z := 2097152) (n := 2097152) rfl, own_ltL v (z := 268435456) (n := 268435456) rfl]
theorem own_eq2 (v : Int32) : own_vl 4 1 (own_s7 v) = Int32.ofNat (0 + own_nb 4 v) := by
  rw [own_vl4, own_nb4]
  split
  · decide
  split
  · decide
  split
  · decide
  split <;> decide
set_option maxRecDepth 65536 in
set_option maxHeartbeats 40000000 in
def Q_rm0 (Z : State) (p1 p2 : Int32) (h0 : Heap) (n0 : Nat) : Option Value → Heap → List Loc → Prop := fun v h L => v = some (.int 1) ∧ Fr n0 L
set_option maxRecDepth 65536 in
set_option maxHeartbeats 40000000 in
theorem rm0 (l : Launch) (Z : State) (a0 : Array Value) (hw : ∀ d ∈ tables_1, d.before a0 Z = true) (ws : List Jvm.Cond) (p1 p2 : Int32) (h0 : Heap) (n0 : Nat) (Z0 : n0 ≤ h0.size) :
    Pays l x code maxLocals ret ws room_1 #[(.int p1), (.int p2)] Z h0 (Q_rm0 Z p1 p2 h0 n0) := by
  refine Pays.of (plainFor_of_name pn_0) ?_
  intro p e s m below meth c s₁ hx hby hml hown hnm hret hlk hZ X0 e0
  have hown : s.vm.findClass "com/example/trieval/trieval/index/IndexFileVarIntLengthPinLaw" = some m.cls := hown
  have hnm : meth.name = "law" := hnm
  have hml : c.maxLocals = 6 := hml
  show Ends p e below s _ _ (fun v h L => v = some (.int 1) ∧ Fr n0 L) s₁ _
  refine Ends.cast (ef_0 m p1 p2) ?_
  have N0 := Fr.nil n0
  have Zs := Z0
  have ht : 0 + 5 ≤ 5 := by decide
  refine Ends.to (T' := s₁) (g' := (mkF m 1 #[.val (.int p1), .val (.int p2), .unset, .unset, .unset, .unset] [(.int p1)])) (fun tt_ kk_ => XS.iloadN X0.here hx rfl (hb hby at_0) rfl kk_) ?_
  refine Ends.to (T' := s₁) (g' := (mkF m 2 #[.val (.int p1), .val (.int p2), .unset, .unset, .unset, .unset] [(.int p2), (.int p1)])) (fun tt_ kk_ => XS.iloadN X0.here hx rfl (hb hby at_1) rfl kk_) ?_
  refine Ends.to (T' := s₁) (g' := (mkF m 4 #[.val (.int p1), .val (.int p2), .unset, .unset, .unset, .unset] [(.int (31 : Int32)), (.int p2), (.int p1)])) (fun tt_ kk_ => XS.bipush X0.here hx rfl (hb hby at_2) kk_) ?_
  refine Ends.to (T' := s₁) (g' := (mkF m 5 #[.val (.int p1), .val (.int p2), .unset, .unset, .unset, .unset] [(.int (p2 &&& (31 : Int32))), (.int p1)])) (fun tt_ kk_ => XS.iand X0.here hx rfl (hb hby at_4) rfl kk_) ?_
  refine Ends.to (T' := s₁) (g' := (mkF m 6 #[.val (.int p1), .val (.int p2), .unset, .unset, .unset, .unset] [(.int ((p1.toUInt32 >>> ((p2 &&& (31 : Int32)) &&& 31).toUInt32).toInt32))])) (fun tt_ kk_ => XS.iushr X0.here hx rfl (hb hby at_5) rfl kk_) ?_
  refine Ends.to (T' := s₁) (g' := (mkF m 7 #[.val (.int p1), .val (.int p2), .val (.int ((p1.toUInt32 >>> ((p2 &&& (31 : Int32)) &&& 31).toUInt32).toInt32)), .unset, .unset, .unset] [])) (fun tt_ kk_ => XS.istoreN X0.here hx rfl (hb hby at_6) rfl (l' := #[.val (.int p1), .val (.int p2), .val (.int ((p1.toUInt32 >>> ((p2 &&& (31 : Int32)) &&& 31).toUInt32).toInt32)), .unset, .unset, .unset]) rfl kk_) ?_
  generalize hv : ((p1.toUInt32 >>> ((p2 &&& (31 : Int32)) &&& 31).toUInt32).toInt32) = v
  refine Ends.to (T' := s₁) (g' := (mkF m 8 #[.val (.int p1), .val (.int p2), .val (.int v), .unset, .unset, .unset] [(.int (5 : Int32))])) (fun tt_ kk_ => XS.iconst X0.here hx rfl (hb hby at_7) kk_) ?_
  obtain ⟨T4, h4, k4, X4, e4, E4, A4, st4⟩ := newP X0 hx hZ (hw _ (List.mem_of_getElem? (i := 0) rfl)) e0 (g := (mkF m 8 #[.val (.int p1), .val (.int p2), .val (.int v), .unset, .unset, .unset] [(.int (5 : Int32))])) rfl (hb hby at_8) rfl (by decide) (cap := 5) (by decide) (by decide) (by decide) (by decide)
  obtain ⟨b1, g_b1⟩ : ∃ z, z = h0.size := ⟨_, rfl⟩
  rw [← g_b1] at A4 st4
  have f_b1 : n0 ≤ b1 := Nat.le_trans Zs (Nat.le_of_eq g_b1.symm)
  have Zs := Nat.le_trans Zs E4.1
  have B_b1 : BB Z h4 b1 5 (fun _ => 0) := BA.freshB A4 rfl
  refine Ends.to (T' := T4) (g' := (mkF m 10 #[.val (.int p1), .val (.int p2), .val (.int v), .unset, .unset, .unset] [(.ref b1)])) (fun tt_ kk_ => st4 tt_ kk_) ?_
  refine Ends.to (T' := T4) (g' := (mkF m 11 #[.val (.int p1), .val (.int p2), .val (.int v), .val (.ref b1), .unset, .unset] [])) (fun tt_ kk_ => XS.astoreN X4.here hx rfl (hb hby at_10) rfl rfl (l' := #[.val (.int p1), .val (.int p2), .val (.int v), .val (.ref b1), .unset, .unset]) rfl kk_) ?_
  refine Ends.to (T' := T4) (g' := (mkF m 12 #[.val (.int p1), .val (.int p2), .val (.int v), .val (.ref b1), .unset, .unset] [(.int v)])) (fun tt_ kk_ => XS.iloadN X4.here hx rfl (hb hby at_11) rfl kk_) ?_
  obtain ⟨_, _, ⟨T5, L5, k5, n5⟩, -, X5, ⟨Lc5, hQ5, l5, y5, z5⟩, st5⟩ := Jvm.LawKit.callS X4 hx (y := (⟨"com/example/trieval/trieval/index/IndexFile", "varIntLength", "(I)I"⟩ : MethodName)) hown (mvT hZ (hw _ (List.mem_of_getElem? (i := 1) rfl))) (mvT hZ (hw _ (List.mem_of_getElem? (i := 2) rfl))) (mvT hZ (hw _ (List.mem_of_getElem? (i := 3) rfl))) (mvT hZ (hw _ (List.mem_of_getElem? (i := 4) rfl))) (by decide) (backOf (W := 0) (rm1 l Z a0 hw [] v h4 n0 Zs) hZ (hw _ (List.mem_of_getElem? (i := 4) rfl)) (hw _ (List.mem_of_getElem? (i := 3) rfl)) (by decide) (by decide)) (g := (mkF m 12 #[.val (.int p1), .val (.int p2), .val (.int v), .val (.ref b1), .unset, .unset] [(.int v)])) rfl (by rw [hml]; rfl) (argsL := [(.int v)]) (rest := []) (lenOf pd_1 rfl) rfl (by show 2 * 0 + _ ≤ _; exact Nat.le_of_eq rfl) (hb hby at_12) (fun _ _ => ⟨rfl, e4, (by decide : 1 + 0 ≤ _), (by decide : 5 + 0 ≤ _)⟩)
  dsimp only [Pt.U, Pt.locs, Pt.cells, Pt.slots] at X5 l5 y5 z5 st5 hQ5
  subst l5 y5 z5
  obtain ⟨rfl, N5q, e5q⟩ := hQ5
  have N5 := Fr.app N0 N5q
  refine Ends.to (T' := T5) (g' := (mkF m 15 #[.val (.int p1), .val (.int p2), .val (.int v), .val (.ref b1), .unset, .unset] [(.int (own_vl 4 1 (own_s7 v)))])) (fun tt_ kk_ => st5 tt_ kk_) ?_
  refine Ends.to (T' := T5) (g' := (mkF m 17 #[.val (.int p1), .val (.int p2), .val (.int v), .val (.ref b1), .val (.int (own_vl 4 1 (own_s7 v))), .unset] [])) (fun tt_ kk_ => XS.istore X5.here hx rfl (hb hby at_15) rfl (l' := #[.val (.int p1), .val (.int p2), .val (.int v), .val (.ref b1), .val (.int (own_vl 4 1 (own_s7 v))), .unset]) rfl kk_) ?_
  refine Ends.to (T' := T5) (g' := (mkF m 18 #[.val (.int p1), .val (.int p2), .val (.int v), .val (.ref b1), .val (.int (own_vl 4 1 (own_s7 v))), .unset] [(.ref b1)])) (fun tt_ kk_ => XS.aloadN X5.here hx rfl (hb hby at_17) rfl rfl kk_) ?_
  refine Ends.to (T' := T5) (g' := (mkF m 19 #[.val (.int p1), .val (.int p2), .val (.int v), .val (.ref b1), .val (.int (own_vl 4 1 (own_s7 v))), .unset] [(.int (0 : Int32)), (.ref b1)])) (fun tt_ kk_ => XS.iconst X5.here hx rfl (hb hby at_18) kk_) ?_
  refine Ends.to (T' := T5) (g' := (mkF m 20 #[.val (.int p1), .val (.int p2), .val (.int v), .val (.ref b1), .val (.int (own_vl 4 1 (own_s7 v))), .unset] [(.int v), (.int (0 : Int32)), (.ref b1)])) (fun tt_ kk_ => XS.iloadN X5.here hx rfl (hb hby at_19) rfl kk_) ?_
  obtain ⟨_, _, ⟨T6, L6, k6, n6⟩, -, X6, ⟨Lc6, hQ6, l6, y6, z6⟩, st6⟩ := Jvm.LawKit.callS X5 hx (y := (⟨"com/example/trieval/trieval/index/IndexFile", "writeVarInt", "([BII)I"⟩ : MethodName)) hown (mvT hZ (hw _ (List.mem_of_getElem? (i := 5) rfl))) (mvT hZ (hw _ (List.mem_of_getElem? (i := 6) rfl))) (mvT hZ (hw _ (List.mem_of_getElem? (i := 3) rfl))) (mvT hZ (hw _ (List.mem_of_getElem? (i := 7) rfl))) (by decide) (backOf (W := 0) (rm2 l Z a0 hw [] b1 0 v (fun _ => 0) h4 n0 Zs ht B_b1 f_b1) hZ (hw _ (List.mem_of_getElem? (i := 7) rfl)) (hw _ (List.mem_of_getElem? (i := 3) rfl)) (by decide) (by decide)) (g := (mkF m 20 #[.val (.int p1), .val (.int p2), .val (.int v), .val (.ref b1), .val (.int (own_vl 4 1 (own_s7 v))), .unset] [(.int v), (.int (0 : Int32)), (.ref b1)])) rfl (by rw [hml]; rfl) (argsL := [(.ref b1), (.int (0 : Int32)), (.int v)]) (rest := []) (lenOf pd_2 rfl) rfl (by show 2 * 0 + _ ≤ _; exact Nat.le_of_eq rfl) (hb hby at_20) (fun _ _ => ⟨rfl, e5q, (by decide : 1 + 0 ≤ _), (by decide : 5 + 0 ≤ _)⟩)
  dsimp only [Pt.U, Pt.locs, Pt.cells, Pt.slots] at X6 l6 y6 z6 st6 hQ6
  subst l6 y6 z6
  obtain ⟨rfl, N6q, K6, G6⟩ := hQ6
  have N6 := Fr.app N5 N6q
  have Zs := Nat.le_trans Zs K6.1
  have B_b1 := G6
  refine Ends.to (T' := T6) (g' := (mkF m 23 #[.val (.int p1), .val (.int p2), .val (.int v), .val (.ref b1), .val (.int (own_vl 4 1 (own_s7 v))), .unset] [(.int (Int32.ofNat (0 + own_nb 4 v)))])) (fun tt_ kk_ => st6 tt_ kk_) ?_
  refine Ends.to (T' := T6) (g' := (mkF m 25 #[.val (.int p1), .val (.int p2), .val (.int v), .val (.ref b1), .val (.int (own_vl 4 1 (own_s7 v))), .val (.int (Int32.ofNat (0 + own_nb 4 v)))] [])) (fun tt_ kk_ => XS.istore X6.here hx rfl (hb hby at_23) rfl (l' := #[.val (.int p1), .val (.int p2), .val (.int v), .val (.ref b1), .val (.int (own_vl 4 1 (own_s7 v))), .val (.int (Int32.ofNat (0 + own_nb 4 v)))]) rfl kk_) ?_
  refine Ends.to (T' := T6) (g' := (mkF m 27 #[.val (.int p1), .val (.int p2), .val (.int v), .val (.ref b1), .val (.int (own_vl 4 1 (own_s7 v))), .val (.int (Int32.ofNat (0 + own_nb 4 v)))] [(.int (own_vl 4 1 (own_s7 v)))])) (fun tt_ kk_ => XS.iload X6.here hx rfl (hb hby at_25) rfl kk_) ?_
  refine Ends.to (T' := T6) (g' := (mkF m 28 #[.val (.int p1), .val (.int p2), .val (.int v), .val (.ref b1), .val (.int (own_vl 4 1 (own_s7 v))), .val (.int (Int32.ofNat (0 + own_nb 4 v)))] [(.int v), (.int (own_vl 4 1 (own_s7 v)))])) (fun tt_ kk_ => XS.iloadN X6.here hx rfl (hb hby at_27) rfl kk_) ?_
  obtain ⟨_, _, ⟨T7, L7, k7, n7⟩, -, X7, ⟨Lc7, hQ7, l7, y7, z7⟩, st7⟩ := Jvm.LawKit.callS X6 hx (y := (⟨"com/example/trieval/trieval/index/IndexFileVarIntLengthPinLaw", "expected", "(I)I"⟩ : MethodName)) hown (mvT hZ (hw _ (List.mem_of_getElem? (i := 8) rfl))) (mvT hZ (hw _ (List.mem_of_getElem? (i := 9) rfl))) (mvT hZ (hw _ (List.mem_of_getElem? (i := 10) rfl))) (mvT hZ (hw _ (List.mem_of_getElem? (i := 11) rfl))) (by decide) (backOf (W := 1) (rm3 l Z a0 hw [] v T6.heap n0 Zs) hZ (hw _ (List.mem_of_getElem? (i := 11) rfl)) (hw _ (List.mem_of_getElem? (i := 10) rfl)) (by decide) (by decide)) (g := (mkF m 28 #[.val (.int p1), .val (.int p2), .val (.int v), .val (.ref b1), .val (.int (own_vl 4 1 (own_s7 v))), .val (.int (Int32.ofNat (0 + own_nb 4 v)))] [(.int v), (.int (own_vl 4 1 (own_s7 v)))])) rfl (by rw [hml]; rfl) (argsL := [(.int v)]) (rest := [(.int (own_vl 4 1 (own_s7 v)))]) (lenOf pd_3 rfl) rfl (by show 2 * 0 + _ ≤ _; exact Nat.le_of_eq rfl) (hb hby at_28) (fun _ _ => ⟨rfl, rfl, (by decide : 1 + 0 ≤ _), (by decide : 5 + 0 ≤ _)⟩)
  dsimp only [Pt.U, Pt.locs, Pt.cells, Pt.slots] at X7 l7 y7 z7 st7 hQ7
  subst l7 y7 z7
  obtain ⟨rfl, N7q, e7q⟩ := hQ7
  have N7 := Fr.app N6 N7q
  refine Ends.to (T' := T7) (g' := (mkF m 31 #[.val (.int p1), .val (.int p2), .val (.int v), .val (.ref b1), .val (.int (own_vl 4 1 (own_s7 v))), .val (.int (Int32.ofNat (0 + own_nb 4 v)))] [(.int (own_xl v)), (.int (own_vl 4 1 (own_s7 v)))])) (fun tt_ kk_ => st7 tt_ kk_) ?_
  refine Ends.to (T' := T7) (g' := (mkF m 34 #[.val (.int p1), .val (.int p2), .val (.int v), .val (.ref b1), .val (.int (own_vl 4 1 (own_s7 v))), .val (.int (Int32.ofNat (0 + own_nb 4 v)))] [])) (fun tt_ kk_ => XS.icmpNo X7.here hx rfl (hb hby at_31) rfl (teq (own_eq1 v)).2 kk_) ?_
  refine Ends.to (T' := T7) (g' := (mkF m 36 #[.val (.int p1), .val (.int p2), .val (.int v), .val (.ref b1), .val (.int (own_vl 4 1 (own_s7 v))), .val (.int (Int32.ofNat (0 + own_nb 4 v)))] [(.int (own_vl 4 1 (own_s7 v)))])) (fun tt_ kk_ => XS.iload X7.here hx rfl (hb hby at_34) rfl kk_) ?_
  refine Ends.to (T' := T7) (g' := (mkF m 38 #[.val (.int p1), .val (.int p2), .val (.int v), .val (.ref b1), .val (.int (own_vl 4 1 (own_s7 v))), .val (.int (Int32.ofNat (0 + own_nb 4 v)))] [(.int (Int32.ofNat (0 + own_nb 4 v))), (.int (own_vl 4 1 (own_s7 v)))])) (fun tt_ kk_ => XS.iload X7.here hx rfl (hb hby at_36) rfl kk_) ?_
  refine Ends.to (T' := T7) (g' := (mkF m 41 #[.val (.int p1), .val (.int p2), .val (.int v), .val (.ref b1), .val (.int (own_vl 4 1 (own_s7 v))), .val (.int (Int32.ofNat (0 + own_nb 4 v)))] [])) (fun tt_ kk_ => XS.icmpNo X7.here hx rfl (hb hby at_38) rfl (teq (own_eq2 v)).2 kk_) ?_
  refine Ends.to (T' := T7) (g' := (mkF m 42 #[.val (.int p1), .val (.int p2), .val (.int v), .val (.ref b1), .val (.int (own_vl 4 1 (own_s7 v))), .val (.int (Int32.ofNat (0 + own_nb 4 v)))] [(.int (1 : Int32))])) (fun tt_ kk_ => XS.iconst X7.here hx rfl (hb hby at_41) kk_) ?_
  refine Ends.to (T' := T7) (g' := (mkF m 46 #[.val (.int p1), .val (.int p2), .val (.int v), .val (.ref b1), .val (.int (own_vl 4 1 (own_s7 v))), .val (.int (Int32.ofNat (0 + own_nb 4 v)))] [(.int (1 : Int32))])) (fun tt_ kk_ => XS.goto X7.here hx rfl (pc0 := 42) (pc' := 46) rfl (hb hby at_42) (by decide) (by decide) kk_) ?_
  exact Ends.retN (t := .boolean) (by simp) X7 hx hret (hb hby at_46) hlk (by decide) (by decide) ⟨by decide, N7⟩
set_option maxRecDepth 65536 in
set_option maxHeartbeats 40000000 in
theorem comes_1 {Post : Tables → Env → Array Value → State → Outcome → State → Prop} (hpost : ∀ tb e args s v u, (limb_1_1.after args s (.returned v) u = true ∧ limb_1_2.after args s (.returned v) u = true ∧ True) → FrameEnd s (.returned v) u (Jvm.fieldLocs frame_1_writes args s ++ Jvm.arrayLocs frame_1_arrays args s ++ Jvm.staticLocs frame_1_statics s) 16 128 → Post tb e args s (.returned v) u) :
    ArmFor flags0 classFile x code maxLocals ret World_1 tables_1 room_1 Calls_1 rest_1 Pre_1 Post := by
  intro l hfl _ _ p e ha hc hk s m args below hf hA hF happ hP
  obtain ⟨hcalls, hrest, hpre⟩ := hP
  obtain ⟨-, -, -, hnamed, -, -, -, hat⟩ := (Spec.applies_iff hf).mp happ
  obtain ⟨hg, hn⟩ := and_e (Cond.before_iff.mp (show (Jvm.Cond.and given_1 narrow_1).before args s = true from hpre))
  obtain ⟨hcount, t0⟩ := and_e hg
  obtain ⟨k0, t1⟩ := and_e t0
  obtain ⟨w0, w1, rfl⟩ : ∃ w0 w1 : Value, args = #[w0, w1] := by
    have hs : args.size = 2 := by simpa [Cond.value, given_1] using hcount
    obtain ⟨L⟩ := args
    match L, hs with
    | [w0, w1], _ => exact ⟨w0, w1, rfl⟩
  have hw := fun d (hd : d ∈ tables_1) => atoms_spec (ws := Jvm.Cond.code x code maxLocals ret :: tables_1) hat d (List.mem_cons_of_mem _ hd)
  obtain ⟨i0, ei0⟩ := is_v k0
  obtain rfl : w0 = (.int i0) := Option.some.inj ei0
  obtain ⟨i1, ei1⟩ := is_v t1
  obtain rfl : w1 = (.int i1) := Option.some.inj ei1
  obtain ⟨n, o, h1, h2, h3, _, L, rfl, ⟨rfl, N⟩, hq⟩ := rm0 l s _ hw tables_1 i0 i1 s.heap s.heap.size (Nat.le_refl _) p e ha hc hk s m _ below hf ((Spec.applies_iff_loose hf).mp happ).1 ⟨rfl, State.Warmed39.refl s, rfl⟩ trivial
  refine ⟨n, _, h1, h2, h3, hpost _ _ _ _ _ _ ⟨Cond.after_iff.mpr rfl, Cond.after_iff.mpr (eq_i res_at (Term.int_eval (1)) rfl), trivial⟩ ⟨hq.1, hq.2.1, (hq.2.2.sift fun y hy => Or.inr (N y hy)).mono (by decide) (by decide)⟩⟩
theorem main_1_1 : Claimed_1_1 := comes_1 fun _ _ _ _ _ _ h hF => ⟨h.1, hF⟩
theorem main_1_2 : Claimed_1_2 := comes_1 fun _ _ _ _ _ _ h hF => ⟨h.2.1, hF⟩
end Jvm.Pilot.@@N@@
namespace Jvm.Pilot.@@N@@
open Jvm Jvm.ClassFile Sem Op Lib Jvm.Free Jvm.Stand Jvm.Pilot.@@N@@.Jvm.D
/-! MADE BY PROGRAM (witnessworld.py) out of the Statement's table words and the real class files: 9 classes; the members and pool entries that the words name. The judged class is class 1, her method 2. -/
namespace start1
open Jvm.ClassFile
def u (s : String) : CpInfo := .utf8 (stringToUtf16 s)
/-- a pool by its gaps: so many unusable entries, then the entry; so many at the end -/
def gap : Nat → List CpInfo → List CpInfo
  | 0, r => r
  | n + 1, r => .unusable :: gap n r
def poolList (es : List (Nat × CpInfo)) (last : Nat) : List CpInfo := es.foldr (fun e r => gap e.1 (e.2 :: r)) (gap last [])
def pool (es : List (Nat × CpInfo)) (last : Nat) : Array CpInfo := ⟨poolList es last⟩
def fileOf (pool : Array CpInfo) (this : Nat) (attrs : Array Attribute := #[]) (ms : Array MethodInfo := #[]) (fl : Nat := 33) (sup : Nat := 0) (ifs : Array Nat := #[]) (fds : Array FieldInfo := #[]) : ClassFile where
  minorVersion := 0
  majorVersion := 65
  constantPool := pool
  accessFlags := fl
  thisClass := this
  superClass := sup
  interfaces := ifs
  fields := fds
  methods := ms
  attributes := attrs
def plain (name : String) (sup : Option ClassId) : Class where
  name := name
  kind := .ordinary
  loader := none
  accessFlags := 33
  super := sup
  interfaces := #[]
  cf := none
  fields := #[]
  methods := #[]
  instanceTypes := #[]
  staticTypes := #[]
  resolved := #[]
  callSites := []
  init := .initialized
  statics := none
  mirror := none

def pool0 : Array CpInfo := pool [(5, u "<init>"), (0, u "()V"), (1, .class_ 10), (1, u "java/lang/Object")] 113

def k0m0 : Method := { name := "<init>", desc := "()V", sig := { parameters := [], returnType := none }, accessFlags := 1, code := none }
/-- java/lang/Object -/
def k0 : Class := { plain "java/lang/Object" none with
  accessFlags := 33
  interfaces := #[]
  cf := some (fileOf pool0 8 #[] #[{ accessFlags := 1, nameIndex := 5, descriptorIndex := 6, attributes := #[] }] 33 0 #[] #[])
  fields := #[]
  methods := #[k0m0]
  instanceTypes := #[]
  staticTypes := #[]
  resolved := Array.replicate 124 none
  statics := none }

def pool1 : Array CpInfo := pool [(2, .class_ 4), (1, u "java/lang/Object"), (0, u "<init>"), (0, u "()V"), (0, .long 4294967295), (1, .long 128), (1, .long 16384), (1, .long 2097152), (1, .long 268435456), (1, .methodref 18 19), (0, .class_ 20), (0, .nameAndType 21 22), (0, u "com/example/trieval/trieval/index/IndexFile"), (0, u "varIntLength"), (0, u "(I)I"), (0, .methodref 18 24), (0, .nameAndType 25 26), (0, u "writeVarInt"), (0, u "([BII)I"), (0, .methodref 28 29), (0, .class_ 30), (0, .nameAndType 31 22), (0, u "com/example/trieval/trieval/index/IndexFileVarIntLengthPinLaw"), (0, u "expected"), (3, u "law"), (0, u "(II)Z")] 4

def k1m0 : Method := { name := "<init>", desc := "()V", sig := { parameters := [], returnType := none }, accessFlags := 2, code := none }
def k1c1 : Code := { maxStack := 4, maxLocals := 3, code := method_2_code, exceptionTable := #[], attributes := #[] }
def k1m1 : Method := { name := "expected", desc := "(I)I", sig := { parameters := [.int], returnType := some .int }, accessFlags := 10, code := some k1c1 }
def k1c2 : Code := { maxStack := 3, maxLocals := 6, code := code, exceptionTable := #[], attributes := #[] }
def k1m2 : Method := { name := "law", desc := "(II)Z", sig := { parameters := [.int, .int], returnType := some .boolean }, accessFlags := 9, code := some k1c2 }
/-- com/example/trieval/trieval/index/IndexFileVarIntLengthPinLaw -/
def k1 : Class := { plain "com/example/trieval/trieval/index/IndexFileVarIntLengthPinLaw" (some 0) with
  accessFlags := 49
  interfaces := #[]
  cf := some (fileOf pool1 28 #[] #[{ accessFlags := 2, nameIndex := 5, descriptorIndex := 6, attributes := #[] }, { accessFlags := 10, nameIndex := 31, descriptorIndex := 22, attributes := #[] }, { accessFlags := 9, nameIndex := 35, descriptorIndex := 36, attributes := #[] }] 49 2 #[] #[])
  fields := #[]
  methods := #[k1m0, k1m1, k1m2]
  instanceTypes := #[]
  staticTypes := #[]
  resolved := Array.replicate 41 none
  statics := none }

def pool2 : Array CpInfo := pool [(1, .class_ 2), (0, u "com/example/trieval/trieval/index/IndexFile"), (1, .class_ 6), (1, u "java/lang/Object"), (0, u "<init>"), (0, u "()V"), (76, .class_ 86), (0, u "com/example/trieval/trieval/index/IndexFile$1"), (13, .class_ 102), (1, u "com/example/trieval/trieval/index/IndexFile$Footer"), (28, u "NAME"), (0, u "Ljava/lang/String;"), (1, u "TEMPORARY_NAME"), (2, u "LOCK_NAME"), (2, u "SPILL_PREFIX"), (2, u "MAGIC"), (0, u "I"), (0, u "VERSION"), (1, u "HEADER_SIZE"), (1, u "FOOTER_SIZE"), (1, u "PAGE_SIZE"), (9, u "writeVarInt"), (0, u "([BII)I"), (0, u "varIntLength"), (0, u "(I)I"), (16, .class_ 182), (0, u "com/example/trieval/trieval/index/IndexFile$Entries"), (0, .class_ 184), (0, u "com/example/trieval/trieval/index/IndexFile$Source"), (0, .class_ 186), (0, u "com/example/trieval/trieval/index/IndexFile$DictionaryEntry"), (0, .class_ 188), (0, u "com/example/trieval/trieval/index/IndexFile$DocumentEntry"), (0, .class_ 190), (0, u "com/example/trieval/trieval/index/IndexFile$Metadata")] 25

def k2m0 : Method := { name := "<init>", desc := "()V", sig := { parameters := [], returnType := none }, accessFlags := 2, code := none }
def k2c1 : Code := { maxStack := 4, maxLocals := 5, code := prog_55_method_5_code, exceptionTable := #[], attributes := #[] }
def k2m1 : Method := { name := "writeVarInt", desc := "([BII)I", sig := { parameters := [(.array .byte), .int, .int], returnType := some .int }, accessFlags := 8, code := some k2c1 }
def k2c2 : Code := { maxStack := 2, maxLocals := 3, code := prog_55_method_6_code, exceptionTable := #[], attributes := #[] }
def k2m2 : Method := { name := "varIntLength", desc := "(I)I", sig := { parameters := [.int], returnType := some .int }, accessFlags := 8, code := some k2c2 }
/-- com/example/trieval/trieval/index/IndexFile -/
def k2 : Class := { plain "com/example/trieval/trieval/index/IndexFile" (some 0) with
  accessFlags := 48
  interfaces := #[]
  cf := some (fileOf pool2 1 #[.nestMembers #[181, 183, 185, 187, 189, 100, 85]] #[{ accessFlags := 2, nameIndex := 7, descriptorIndex := 8, attributes := #[] }, { accessFlags := 8, nameIndex := 161, descriptorIndex := 162, attributes := #[] }, { accessFlags := 8, nameIndex := 163, descriptorIndex := 164, attributes := #[] }] 48 4 #[] #[{ accessFlags := 24, nameIndex := 131, descriptorIndex := 132, attributes := #[] }, { accessFlags := 24, nameIndex := 134, descriptorIndex := 132, attributes := #[] }, { accessFlags := 24, nameIndex := 137, descriptorIndex := 132, attributes := #[] }, { accessFlags := 24, nameIndex := 140, descriptorIndex := 132, attributes := #[] }, { accessFlags := 24, nameIndex := 143, descriptorIndex := 144, attributes := #[] }, { accessFlags := 24, nameIndex := 145, descriptorIndex := 144, attributes := #[] }, { accessFlags := 24, nameIndex := 147, descriptorIndex := 144, attributes := #[] }, { accessFlags := 24, nameIndex := 149, descriptorIndex := 144, attributes := #[] }, { accessFlags := 24, nameIndex := 151, descriptorIndex := 144, attributes := #[] }])
  fields := #[{ name := "NAME", type := (.object "java/lang/String"), accessFlags := 24, slot := 0, constantValue := 0 }, { name := "TEMPORARY_NAME", type := (.object "java/lang/String"), accessFlags := 24, slot := 1, constantValue := 0 }, { name := "LOCK_NAME", type := (.object "java/lang/String"), accessFlags := 24, slot := 2, constantValue := 0 }, { name := "SPILL_PREFIX", type := (.object "java/lang/String"), accessFlags := 24, slot := 3, constantValue := 0 }, { name := "MAGIC", type := .int, accessFlags := 24, slot := 4, constantValue := 0 }, { name := "VERSION", type := .int, accessFlags := 24, slot := 5, constantValue := 0 }, { name := "HEADER_SIZE", type := .int, accessFlags := 24, slot := 6, constantValue := 0 }, { name := "FOOTER_SIZE", type := .int, accessFlags := 24, slot := 7, constantValue := 0 }, { name := "PAGE_SIZE", type := .int, accessFlags := 24, slot := 8, constantValue := 0 }]
  methods := #[k2m0, k2m1, k2m2]
  instanceTypes := #[]
  staticTypes := #[(.object "java/lang/String"), (.object "java/lang/String"), (.object "java/lang/String"), (.object "java/lang/String"), .int, .int, .int, .int, .int]
  resolved := Array.replicate 216 none
  statics := none }

def pool3 : Array CpInfo := pool [(1, u "java/lang/Cloneable"), (0, .class_ 1), (0, u "java/lang/Object"), (0, .class_ 3)] 3

/-- java/lang/Cloneable -/
def k3 : Class := { plain "java/lang/Cloneable" (some 0) with
  accessFlags := 1537
  interfaces := #[]
  cf := some (fileOf pool3 2 #[] #[] 1537 4 #[] #[])
  fields := #[]
  methods := #[]
  instanceTypes := #[]
  staticTypes := #[]
  resolved := Array.replicate 8 none
  statics := none }

def pool4 : Array CpInfo := pool [(1, u "java/io/Serializable"), (0, .class_ 1), (0, u "java/lang/Object"), (0, .class_ 3)] 3

/-- java/io/Serializable -/
def k4 : Class := { plain "java/io/Serializable" (some 0) with
  accessFlags := 1537
  interfaces := #[]
  cf := some (fileOf pool4 2 #[] #[] 1537 4 #[] #[])
  fields := #[]
  methods := #[]
  instanceTypes := #[]
  staticTypes := #[]
  resolved := Array.replicate 8 none
  statics := none }

/-- the primitive byte -/
def k5 : Class := { plain "byte" none with kind := .primitive 'B', accessFlags := 0x411 }
/-- [B -/
def k6 : Class := { plain "[B" (some 0) with kind := .array 5 .byte, interfaces := #[3, 4], accessFlags := 1041 }

/-- the primitive int -/
def k7 : Class := { plain "int" none with kind := .primitive 'I', accessFlags := 0x411 }
/-- [I -/
def k8 : Class := { plain "[I" (some 0) with kind := .array 7 .int, interfaces := #[3, 4], accessFlags := 1041 }

def heap : Heap := #[]
def classes : Array Class := #[k0, k1, k2, k3, k4, k5, k6, k7, k8]
def interned : List (Array UInt16 × Addr) := []
def slotsUsed : Nat := 0
def theMethod : MethodId := ⟨1, 2⟩
def args0 : Array Value := #[.int 300, .int 1]
def aboutOver (below : List Frame) : State where
  vm := { classes := classes, interned := interned.toArray }
  heap := heap
  slotsUsed := slotsUsed
  threads := #[{ frames := .invoking theMethod args0 :: below }]
def below0 : List Frame := [.native { method := ⟨0, 0⟩, args := #[] }]
def about1 : State := aboutOver below0
def p0 : Program := .bare "" "" ""
def e0 : Env := launch0.env 0 0 0
theorem w_frames : about1.frames = Frame.invoking theMethod args0 :: below0 := rfl
set_option maxRecDepth 65536 in
theorem w_args : argsFit about1.vm theMethod args0 = true := by decide +kernel
set_option maxRecDepth 65536 in
theorem w_heap : heapFits about1 = true := by decide +kernel
set_option maxRecDepth 65536 in
theorem w_runnable : about1.curStatus? = some .runnable := by decide +kernel
set_option maxRecDepth 65536 in
theorem w_alone : about1.alone = true := by decide +kernel
set_option maxRecDepth 65536 in
theorem w_named : about1.methodNamed? x = some theMethod := by decide +kernel
set_option maxRecDepth 65536 in
theorem w_hears : about1.hears theMethod below0 = true := by decide +kernel
set_option maxRecDepth 65536 in
theorem w_ripe : about1.ripe theMethod args0 below0 = true := by decide +kernel
theorem w_running : about1.status = .running := rfl
set_option maxRecDepth 65536 in
theorem w_room : about1.hasRoom e0.platform room_1 = true :=
  launch0.hasRoom_least _ room_1 (by decide +kernel) (by decide +kernel) (by decide +kernel) (by decide +kernel) (by decide +kernel) (by decide +kernel)
theorem allAtoms_all (ts : List Jvm.Cond) (a : Array Jvm.Value) (st : Jvm.State) : (allAtoms ts).before a st = ts.all (fun c => c.before a st) := by
  induction ts with
  | nil => rfl
  | cons c t ih =>
    show (Jvm.Cond.and c (allAtoms t)).before a st = _
    rw [Jvm.Cond.before_and, ih, List.all_cons]
def words1 : List Jvm.Cond := Jvm.Cond.code x code maxLocals ret :: tables_1
/-- a 'code' word, met by the world's own term for the bytes: nothing is compared byte by byte -/
theorem code_word {y : MethodName} {bytes : ByteArray} {mx : Nat} {rt : Option FieldType} {a : Array Value} {s : State} {m : MethodId} {meth : Method} {c : Code} (h1 : s.methodNamed? y = some m) (h2 : s.vm.method? m = some meth) (h3 : meth.code = some c) (h4 : c.code = bytes)
    (h5 : (c.maxLocals == mx && c.exceptionTable.isEmpty && decide (c.maxStack ≤ mostOperands) && decide (meth.sig.returnType = rt) && !meth.locks && decide (parseMethodDescriptor y.desc = some meth.sig)) = true) : (Jvm.Cond.code y bytes mx rt).before a s = true := by
  simp only [Bool.and_eq_true, beq_iff_eq, Bool.not_eq_true', decide_eq_true_eq] at h5
  obtain ⟨⟨⟨⟨⟨g1, g2⟩, g3⟩, g4⟩, g5⟩, g6⟩ := h5
  simp [Cond.before, Cond.holds, Cond.value, h1, h2, h3, h4, g1, g2, g3, g4, g5, g6]
def isCode : Jvm.Cond → Bool
  | .code _ _ _ _ => true
  | _ => false
theorem all_split {L : List Jvm.Cond} {P : Jvm.Cond → Bool} (h1 : L.all (fun c => isCode c || P c) = true) (h2 : ∀ c ∈ L.filter isCode, P c = true) : L.all P = true := by
  refine List.all_eq_true.mpr fun c hc => ?_
  have h := List.all_eq_true.mp h1 c hc
  rcases Bool.eq_false_or_eq_true (isCode c) with hi | hi
  · exact h2 c (List.mem_filter.mpr ⟨hc, hi⟩)
  · simpa [hi] using h
set_option maxRecDepth 65536 in
theorem w_c0 : (Jvm.Cond.code x code maxLocals ret).before args0 about1 = true := code_word (m := ⟨1, 2⟩) (meth := k1m2) (c := k1c2) (by decide +kernel) rfl rfl rfl (by decide +kernel)
set_option maxRecDepth 65536 in
theorem w_c1 : (Jvm.Cond.code ({ cls := "com/example/trieval/trieval/index/IndexFile", name := "varIntLength", desc := "(I)I" } : Jvm.MethodName) prog_55_method_6_code (3 : Nat) (Option.some Jvm.ClassFile.FieldType.int)).before args0 about1 = true := code_word (m := ⟨2, 2⟩) (meth := k2m2) (c := k2c2) (by decide +kernel) rfl rfl rfl (by decide +kernel)
set_option maxRecDepth 65536 in
theorem w_c2 : (Jvm.Cond.code ({ cls := "com/example/trieval/trieval/index/IndexFile", name := "writeVarInt", desc := "([BII)I" } : Jvm.MethodName) prog_55_method_5_code (5 : Nat) (Option.some Jvm.ClassFile.FieldType.int)).before args0 about1 = true := code_word (m := ⟨2, 1⟩) (meth := k2m1) (c := k2c1) (by decide +kernel) rfl rfl rfl (by decide +kernel)
set_option maxRecDepth 65536 in
theorem w_c3 : (Jvm.Cond.code ({ cls := "com/example/trieval/trieval/index/IndexFileVarIntLengthPinLaw", name := "expected", desc := "(I)I" } : Jvm.MethodName) method_2_code (3 : Nat) (Option.some Jvm.ClassFile.FieldType.int)).before args0 about1 = true := code_word (m := ⟨1, 1⟩) (meth := k1m1) (c := k1c1) (by decide +kernel) rfl rfl rfl (by decide +kernel)
def codes1 : List Jvm.Cond := [Jvm.Cond.code x code maxLocals ret, Jvm.Cond.code ({ cls := "com/example/trieval/trieval/index/IndexFile", name := "varIntLength", desc := "(I)I" } : Jvm.MethodName) prog_55_method_6_code (3 : Nat) (Option.some Jvm.ClassFile.FieldType.int), Jvm.Cond.code ({ cls := "com/example/trieval/trieval/index/IndexFile", name := "writeVarInt", desc := "([BII)I" } : Jvm.MethodName) prog_55_method_5_code (5 : Nat) (Option.some Jvm.ClassFile.FieldType.int), Jvm.Cond.code ({ cls := "com/example/trieval/trieval/index/IndexFileVarIntLengthPinLaw", name := "expected", desc := "(I)I" } : Jvm.MethodName) method_2_code (3 : Nat) (Option.some Jvm.ClassFile.FieldType.int)]
set_option maxRecDepth 65536 in
theorem codes_eq : words1.filter isCode = codes1 := rfl
theorem w_codes : ∀ c ∈ words1.filter isCode, c.before args0 about1 = true := by
  rw [codes_eq]
  intro c hc
  simp only [codes1, List.mem_cons, List.not_mem_nil, or_false] at hc
  rcases hc with rfl | rfl | rfl | rfl
  · exact w_c0
  · exact w_c1
  · exact w_c2
  · exact w_c3
set_option maxRecDepth 65536 in
theorem w_t1 : words1.all (fun c => isCode c || c.before args0 about1) = true := by decide +kernel
theorem w_tables : (allAtoms (Jvm.Cond.code x code maxLocals ret :: tables_1)).before args0 about1 = true := by
  rw [allAtoms_all]
  show words1.all (fun c => c.before args0 about1) = true
  refine all_split ?_ w_codes
  rw [w_t1]
set_option maxRecDepth 65536 in
theorem w_case : (Jvm.Cond.and given_1 narrow_1).before args0 about1 = true := by decide +kernel
theorem w_applies : (headSpec (Jvm.Cond.code x code maxLocals ret :: tables_1) room_1).applies x e0.platform about1 = true :=
  (Spec.applies_iff w_frames).mpr ⟨w_running, w_runnable, w_alone, w_named, w_hears, w_ripe, w_room, w_tables⟩
theorem atStart : AtStart classFile x code maxLocals ret World_1 tables_1 room_1 Calls_1 rest_1 Pre_1 launch0 p0 e0 about1 theMethod args0 below0 :=
  ⟨lists_1, trivial, launch0.admits_env _ _ _, launch0.least_env, fairChoices_fair.cas, fairChoices_fair.clock, w_frames, w_args, w_heap, w_applies, trivial, trivial, w_case⟩
end start1
theorem witness_1 : WitnessClaimed_1 := ⟨start1.p0, start1.e0, start1.about1, start1.theMethod, start1.args0, start1.below0, start1.atStart⟩
end Jvm.Pilot.@@N@@
