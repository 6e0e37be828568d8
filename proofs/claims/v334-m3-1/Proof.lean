import JvmDerived
import JvmDerived.Pilot.@@N@@Statement
import JvmDerived.Pilot.@@N@@Code
set_option linter.unusedVariables false
set_option linter.unusedSimpArgs false
@@BLOCK:NumsL.lean.txt@@
namespace Jvm.Pilot.@@N@@
open Jvm Jvm.ClassFile Sem Op Lib Jvm.Free Jvm.Stand Jvm.LawKit Jvm.RoadKit Bundle Jvm.Pilot.@@N@@.Jvm.D
/-! ## Our kit: from a frame the run comes to an end of which Q speaks -/
def Ends (p : Program) (e : Env) (below : List Frame) (s : State) (C S : Nat) (Q : Option Value → Heap → List Loc → Prop) (T : State) (g : JFrame) : Prop :=
  ∃ s₂ o, Steps p.tables e below (T.setTop g) s₂ ∧ s₂.status = .running ∧ Ended s₂ below o ∧ ∃ v L, o = .returned v ∧ Q v s₂.heap L ∧ FrameEnd s o s₂ L C S
abbrev Pays (l : Launch) (y : MethodName) (bytes : ByteArray) (maxL : Nat) (rt : Option FieldType) (ws : List Jvm.Cond) (rm : Room) (as : Array Value) (Z : State) (h0 : Heap) (Q : Option Value → Heap → List Loc → Prop) : Prop :=
  MetFree l y (head1 (Jvm.Cond.code y bytes maxL rt :: ws) rm) (fun a U => a = as ∧ Z.Warmed39 U.vm ∧ U.heap = h0) (fun _ _ _ _ _ => True) (fun _ U o U' => ∃ v L, o = .returned v ∧ Q v U'.heap L ∧ FrameEnd U o U' L rm.cells rm.slots)
section Kit
variable {p : Program} {l : Launch} {e : Env} {R : Room} {s : State} {m : MethodId} {args : Array Value} {below : List Frame} {meth : Method} {c : Code} {T T' : State} {locs : List Loc} {cells slots : Nat} {Z : State} {h h' h0 : Heap} {C S : Nat} {Q : Option Value → Heap → List Loc → Prop} {g g' : JFrame} {pc : Nat} {Ls : Array Slot} {rest : List Value}
theorem Ends.to (k : ∀ t, Steps p.tables e below (T'.setTop g') t → Steps p.tables e below (T.setTop g) t) (q : Ends p e below s C S Q T' g') : Ends p e below s C S Q T g := by
  obtain ⟨s₂, o, st, r⟩ := q
  exact ⟨s₂, o, k _ st, r⟩
theorem Ends.cast (k : g = g') (q : Ends p e below s C S Q T g') : Ends p e below s C S Q T g := k ▸ q
theorem Ends.retI {z : Int32} (X : Stand p l e R s m args below meth c T locs cells slots) (hx : p.tables.exec = Jvm.exec) (hret : meth.sig.returnType = some .int) (hd : decode c.code pc = .ok (.ireturn, 1)) (hlk : meth.locks = false) (hc : cells ≤ C) (hs : slots ≤ S) (q : Q (some (.int z)) T.heap locs) :
    Ends p e below s C S Q T (mkF m pc Ls (.int z :: rest)) := by
  obtain ⟨fs, hr, hrun, hended, hW, hsame⟩ := X.leave (v := some (.int z)) (fun h => by rw [hret] at h; cases h) hlk
  refine ⟨_, _, ?_, hrun, hended, _, _, rfl, q, ⟨_, rfl⟩, hW, hsame.mono hc hs⟩
  have hm' : T.vm.method? m = some meth := X.method'
  have hn : narrow .int (.int z) = .int z := rfl
  show Steps p.tables e below (T.setTop { method := m, pc := pc, locals := Ls, stack := _ :: rest, locked := none }) _
  jvm_step X.here [X.here.top, hx, hd, hm', hret, hn]
  first | (intro acts; rw [hr _ acts rfl rfl rfl]) | rw [hr _ _ rfl rfl rfl]
  exact Steps.refl _
theorem Ends.retN {z : Int32} {t : FieldType} (ht : t = .boolean ∨ t = .byte ∨ t = .char ∨ t = .short) (X : Stand p l e R s m args below meth c T locs cells slots) (hx : p.tables.exec = Jvm.exec) (hret : meth.sig.returnType = some t) (hd : decode c.code pc = .ok (.ireturn, 1)) (hlk : meth.locks = false) (hc : cells ≤ C) (hs : slots ≤ S) (q : Q (some (.int (nar t z))) T.heap locs) :
    Ends p e below s C S Q T (mkF m pc Ls (.int z :: rest)) := by
  obtain ⟨fs, hr, hrun, hended, hW, hsame⟩ := X.leave (v := some (.int (nar t z))) (fun h => by rw [hret] at h; cases h) hlk
  exact ⟨_, _, Jvm.RoadKit.retN X hx hret ht hd hr, hrun, hended, _, _, rfl, q, ⟨_, rfl⟩, hW, hsame.mono hc hs⟩
theorem Ends.retJ {z : Int64} (X : Stand p l e R s m args below meth c T locs cells slots) (hx : p.tables.exec = Jvm.exec) (hret : meth.sig.returnType = some .long) (hd : decode c.code pc = .ok (.lreturn, 1)) (hlk : meth.locks = false) (hc : cells ≤ C) (hs : slots ≤ S) (q : Q (some (.long z)) T.heap locs) :
    Ends p e below s C S Q T (mkF m pc Ls [.long z]) := by
  obtain ⟨fs, hr, hrun, hended, hW, hsame⟩ := X.leave (v := some (.long z)) (fun h => by rw [hret] at h; cases h) hlk
  exact ⟨_, _, X.lreturnOut hx hret hd hr, hrun, hended, _, _, rfl, q, ⟨_, rfl⟩, hW, hsame.mono hc hs⟩
theorem Ends.retV (X : Stand p l e R s m args below meth c T locs cells slots) (hx : p.tables.exec = Jvm.exec) (hret : meth.sig.returnType = none) (hd : decode c.code pc = .ok (.return_, 1)) (hlk : meth.locks = false) (hc : cells ≤ C) (hs : slots ≤ S) (q : Q none T.heap locs) :
    Ends p e below s C S Q T (mkF m pc Ls []) := by
  obtain ⟨fs, hr, hrun, hended, hW, hsame⟩ := X.leave (v := none) (fun _ => rfl) hlk
  exact ⟨_, _, X.returnOut hx hret hd hr, hrun, hended, _, _, rfl, q, ⟨_, rfl⟩, hW, hsame.mono hc hs⟩
theorem Ends.retA {a : Addr} {t : FieldType} (X : Stand p l e R s m args below meth c T locs cells slots) (hx : p.tables.exec = Jvm.exec) (hret : meth.sig.returnType = some (.array t)) (hd : decode c.code pc = .ok (.areturn, 1)) (hlk : meth.locks = false) (hc : cells ≤ C) (hs : slots ≤ S) (q : Q (some (.ref a)) T.heap locs) :
    Ends p e below s C S Q T (mkF m pc Ls (.ref a :: rest)) := by
  obtain ⟨fs, hr, hrun, hended, hW, hsame⟩ := X.leave (v := some (.ref a)) (fun h => by rw [hret] at h; cases h) hlk
  refine ⟨_, _, ?_, hrun, hended, _, _, rfl, q, ⟨_, rfl⟩, hW, hsame.mono hc hs⟩
  have hm' : T.vm.method? m = some meth := X.method'
  show Steps p.tables e below (T.setTop { method := m, pc := pc, locals := Ls, stack := _ :: rest, locked := none }) _
  jvm_step X.here [X.here.top, hx, hd, hm', hret, Value.isRef, FieldType.isReference]
  first | (intro acts; rw [hr _ acts rfl rfl rfl]) | rw [hr _ _ rfl rfl rfl]
  exact Steps.refl _
theorem Pays.of {y : MethodName} {bytes : ByteArray} {maxL : Nat} {rt : Option FieldType} {ws : List Jvm.Cond} {rm : Room} {as : Array Value} (hp : plainFor y = true)
    (body : ∀ (p : Program) (e : Env) (s : State) (m : MethodId) (below : List Frame) (meth : Method) (c : Code) (s₁ : State), p.tables.exec = Jvm.exec → c.code = bytes → c.maxLocals = maxL → s.vm.findClass y.cls = some m.cls → meth.name = y.name → meth.sig.returnType = rt → meth.locks = false → Z.Warmed39 s.vm →
      Stand p l e rm s m as below meth c s₁ [] 0 0 → s₁.heap = h0 → Ends p e below s rm.cells rm.slots Q s₁ (entryFrame m as maxL)) : Pays l y bytes maxL rt ws rm as Z h0 Q := by
  refine MetFree.of_bodySF hp hisR ?_
  intro p e s m args below meth c s₁ Bd hml0 hP hK
  obtain ⟨rfl, hZ, hh⟩ := hP
  exact body p e s m below meth c s₁ Bd.exec Bd.bytes hml0 (findClass_of_methodNamed Bd.named) (name_of_methodNamed Bd.named Bd.method).1 Bd.returns Bd.notSynchronized hZ (Stand.of_body Bd) (by rw [← hh, Bd.state]; rfl)
/-! ## An array by its values -/
def BA (Z : State) (h : Heap) (a : Addr) (ty : FieldType) (n : Nat) (f : Nat → Value) : Prop := ∃ cl : Cell, Arr Z h a cl ty ∧ cl.slots.size = n ∧ ∀ j, j < n → cl.slots[j]? = some (f j)
abbrev BB (Z : State) (h : Heap) (a : Addr) (n : Nat) (f : Nat → Int32) : Prop := BA Z h a .byte n (fun j => .int (f j))
abbrev BL (Z : State) (h : Heap) (a : Addr) (n : Nat) (f : Nat → Int64) : Prop := BA Z h a .long n (fun j => .long (f j))
def upd {α : Type} (f : Nat → α) (i : Nat) (x : α) : Nat → α := fun j => if j = i then x else f j
theorem upd_same {α : Type} (f : Nat → α) (i : Nat) (x : α) : upd f i x i = x := if_pos rfl
theorem upd_ne {α : Type} (f : Nat → α) {i j : Nat} (x : α) (q : j ≠ i) : upd f i x j = f j := if_neg q
variable {a b : Addr} {ty : FieldType} {n i sl : Nat} {f : Nat → Value} {v : Value} {ws : List Addr} {j x z : Int32}
theorem BA.ext (E : Ext h h') (B : BA Z h a ty n f) : BA Z h' a ty n f := by obtain ⟨cl, A, r⟩ := B; exact ⟨cl, A.ext E, r⟩
theorem BA.other (W : Wr h h' a sl v) (B : BA Z h b ty n f) (q : b ≠ a) : BA Z h' b ty n f := by obtain ⟨cl, A, r⟩ := B; exact ⟨cl, A.other W q, r⟩
theorem BA.keep (B : BA Z h a ty n f) (K : Keep h h' ws) (q : a ∉ ws) : BA Z h' a ty n f := by obtain ⟨cl, A, r⟩ := B; exact ⟨cl, ⟨K.2.1 a cl A.1 q, A.2⟩, r⟩
theorem BA.lt (B : BA Z h a ty n f) : a < h.size := by obtain ⟨cl, A, r⟩ := B; exact A.lt
theorem BA.congr {f' : Nat → Value} (B : BA Z h a ty n f) (q : ∀ j, j < n → f j = f' j) : BA Z h a ty n f' := by obtain ⟨cl, A, s, r⟩ := B; exact ⟨cl, A, s, fun j hj => (r j hj).trans (congrArg some (q j hj))⟩
theorem BA.set (W : Wr h h' a i v) (B : BA Z h a ty n f) (hi : i < n) : BA Z h' a ty n (upd f i v) := by
  obtain ⟨cl, A, s, r⟩ := B
  refine ⟨cl.setSlot i v, A.same W, by simp [Cell.setSlot, s], fun j hj => ?_⟩
  show (cl.slots.setIfInBounds i v)[j]? = _
  by_cases e : j = i
  · subst e
    rw [upd_same, Array.getElem?_setIfInBounds_self_of_lt (by rw [s]; exact hi)]
  · rw [upd_ne _ _ e, Array.getElem?_setIfInBounds_ne (Ne.symm e)]
    exact r j hj
theorem BA.inb {cl : Cell} (s : cl.slots.size = n) (h0 : ¬ j < 0) (hi : j.toNatClampNeg = i) (hn : i < n) : ¬ (j < 0 ∨ cl.slots.size ≤ j.toNatClampNeg) := by
  rintro (q | q)
  · exact h0 q
  · rw [hi, s] at q; exact absurd hn (Nat.not_lt.mpr q)
theorem BA.stB {f : Nat → Int32} (X : Stand p l e R s m args below meth c T locs cells slots) (hx : p.tables.exec = Jvm.exec) (hZ : Z.Warmed39 s.vm) (eT : T.heap = h) (B : BB Z h a n f) (h0 : ¬ j < 0) (hi : j.toNatClampNeg = i) (hn : i < n) (hg : g.method = m) (hs : g.stack = .int x :: .int j :: .ref a :: rest) (hd : decode c.code g.pc = .ok (.bastore, 1)) :
    ∃ T' h', Stand p l e R s m args below meth c T' (locs ++ [⟨a, j.toNatClampNeg⟩]) cells slots ∧ T'.heap = h' ∧ Wr h h' a j.toNatClampNeg (.int (nar .byte x)) ∧ BB Z h' a n (upd f i x.toInt8.toInt32) ∧ ∀ target, Steps p.tables e below (T'.setTop { g with pc := g.pc + 1, stack := rest }) target → Steps p.tables e below (T.setTop g) target := by
  obtain ⟨cl, A, s, r⟩ := id B
  obtain ⟨T', h', X', e', W, st⟩ := Jvm.RoadKit.stB X hx hZ eT A (BA.inb s h0 hi hn) hg hs hd
  refine ⟨T', h', X', e', W, ?_, st⟩
  rw [hi] at W
  refine (BA.set W B hn).congr fun j _ => ?_
  by_cases e : j = i
  · subst e; rw [upd_same, upd_same]; rfl
  · rw [upd_ne _ _ e, upd_ne _ _ e]
theorem BA.stL {f : Nat → Int64} {x : Int64} (X : Stand p l e R s m args below meth c T locs cells slots) (hx : p.tables.exec = Jvm.exec) (hZ : Z.Warmed39 s.vm) (eT : T.heap = h) (B : BL Z h a n f) (h0 : ¬ j < 0) (hi : j.toNatClampNeg = i) (hn : i < n) (hg : g.method = m) (hs : g.stack = .long x :: .int j :: .ref a :: rest) (hd : decode c.code g.pc = .ok (.lastore, 1)) :
    ∃ T' h', Stand p l e R s m args below meth c T' (locs ++ [⟨a, j.toNatClampNeg⟩]) cells slots ∧ T'.heap = h' ∧ Wr h h' a j.toNatClampNeg (.long x) ∧ BL Z h' a n (upd f i x) ∧ ∀ target, Steps p.tables e below (T'.setTop { g with pc := g.pc + 1, stack := rest }) target → Steps p.tables e below (T.setTop g) target := by
  obtain ⟨cl, A, s, r⟩ := id B
  obtain ⟨T', h', X', e', W, st⟩ := Jvm.RoadKit.stJ X hx hZ eT A (BA.inb s h0 hi hn) hg hs hd
  refine ⟨T', h', X', e', W, ?_, st⟩
  rw [hi] at W
  refine (BA.set W B hn).congr fun j _ => ?_
  by_cases e : j = i
  · subst e; rw [upd_same, upd_same]
  · rw [upd_ne _ _ e, upd_ne _ _ e]
theorem BA.ldB {f : Nat → Int32} (X : Stand p l e R s m args below meth c T locs cells slots) (hx : p.tables.exec = Jvm.exec) (hZ : Z.Warmed39 s.vm) (eT : T.heap = h) (B : BB Z h a n f) (h0 : ¬ j < 0) (hi : j.toNatClampNeg = i) (hn : i < n) (hg : g.method = m) (hs : g.stack = .int j :: .ref a :: rest) (hd : decode c.code g.pc = .ok (.baload, 1)) (target : State)
    (k : Steps p.tables e below (T.setTop { g with pc := g.pc + 1, stack := .int (f i) :: rest }) target) : Steps p.tables e below (T.setTop g) target := by
  obtain ⟨cl, A, s, r⟩ := id B
  exact X.baloadBytes hx (j := j) (v := .int (f i)) (by rw [eT]; exact A.1) (State.isArrayOf_alike hZ.alike A.2.1) A.2.2 (BA.inb s h0 hi hn) (by rw [hi]; exact r i hn) hg hs hd target k
theorem BA.ldL {f : Nat → Int64} (X : Stand p l e R s m args below meth c T locs cells slots) (hx : p.tables.exec = Jvm.exec) (hZ : Z.Warmed39 s.vm) (eT : T.heap = h) (B : BL Z h a n f) (h0 : ¬ j < 0) (hi : j.toNatClampNeg = i) (hn : i < n) (hg : g.method = m) (hs : g.stack = .int j :: .ref a :: rest) (hd : decode c.code g.pc = .ok (.laload, 1)) (target : State)
    (k : Steps p.tables e below (T.setTop { g with pc := g.pc + 1, stack := .long (f i) :: rest }) target) : Steps p.tables e below (T.setTop g) target := by
  obtain ⟨cl, A, s, r⟩ := id B
  exact X.laload hx (j := j) (v := .long (f i)) (by rw [eT]; exact A.1) (State.isArrayOf_alike hZ.alike A.2.1) A.2.2 (BA.inb s h0 hi hn) (by rw [hi]; exact r i hn) hg hs hd target k
theorem BA.len (X : Stand p l e R s m args below meth c T locs cells slots) (hx : p.tables.exec = Jvm.exec) (hZ : Z.Warmed39 s.vm) (eT : T.heap = h) (B : BA Z h a ty n f) (hz : n.toInt32 = z) (hg : g.method = m) (hs : g.stack = .ref a :: rest) (hd : decode c.code g.pc = .ok (.arraylength, 1)) (target : State)
    (k : Steps p.tables e below (T.setTop { g with pc := g.pc + 1, stack := .int z :: rest }) target) : Steps p.tables e below (T.setTop g) target := by
  obtain ⟨cl, A, s, r⟩ := B
  exact X.arraylength hx (by rw [eT]; exact A.1) (State.isArrayOf_alike hZ.alike A.2.1) hg hs hd target (by rw [s, hz]; exact k)
theorem BA.freshB {k : ClassId} (A : Arr Z h a (newA k .byte z) .byte) (q : z.toNatClampNeg = n) : BB Z h a n (fun _ => 0) := by
  refine ⟨_, A, (sz_new _ _ _).trans q, fun j hj => ?_⟩
  have hj' : j < z.toNatClampNeg := by rw [q]; exact hj
  simp [newA, hj', defaultValue]
theorem BA.freshL {k : ClassId} (A : Arr Z h a (newA k .long z) .long) (q : z.toNatClampNeg = n) : BL Z h a n (fun _ => 0) := by
  refine ⟨_, A, (sz_new _ _ _).trans q, fun j hj => ?_⟩
  have hj' : j < z.toNatClampNeg := by rw [q]; exact hj
  simp [newA, hj', defaultValue]
end Kit
theorem d1_0 : decode prog_237_method_1_code 0 = .ok (.aload_n 0, 1) := by decide +kernel
theorem d1_1 : decode prog_237_method_1_code 1 = .ok (.invokespecial 1, 3) := by decide +kernel
theorem d1_4 : decode prog_237_method_1_code 4 = .ok (.aload_n 0, 1) := by decide +kernel
theorem d1_5 : decode prog_237_method_1_code 5 = .ok (.lload_n 1, 1) := by decide +kernel
theorem d1_6 : decode prog_237_method_1_code 6 = .ok (.putfield 7, 3) := by decide +kernel
theorem d1_9 : decode prog_237_method_1_code 9 = .ok (.aload_n 0, 1) := by decide +kernel
theorem d1_10 : decode prog_237_method_1_code 10 = .ok (.lload_n 3, 1) := by decide +kernel
theorem d1_11 : decode prog_237_method_1_code 11 = .ok (.putfield 13, 3) := by decide +kernel
theorem d1_14 : decode prog_237_method_1_code 14 = .ok (.aload_n 0, 1) := by decide +kernel
theorem d1_15 : decode prog_237_method_1_code 15 = .ok (.lload 5, 2) := by decide +kernel
theorem d1_17 : decode prog_237_method_1_code 17 = .ok (.putfield 16, 3) := by decide +kernel
theorem d1_20 : decode prog_237_method_1_code 20 = .ok (.return_, 1) := by decide +kernel
theorem pn_1 : plainName "com/example/slackline/slackline/threequeue/Slots" = true := by first | (simp [plainName, overriddenIn]; done) | decide +kernel
theorem pd_1 : parseMethodDescriptor "(JJJ)V" = some ⟨[.long, .long, .long], none⟩ := by decide +kernel
theorem ef_1 (m : MethodId) (x0 : Addr) (x1 : Int64) (x2 : Int64) (x3 : Int64) : entryFrame m #[(.ref x0), (.long x1), (.long x2), (.long x3)] 7 = mkF m 0 #[.val (.ref x0), .val (.long x1), .second, .val (.long x2), .second, .val (.long x3), .second] [] := by first | (simp [entryFrame, mkF, argsToLocals, Value.category]; done) | rfl
theorem d2_0 : decode jdk_30_method_1_code 0 = .ok (.aload_n 0, 1) := by decide +kernel
theorem d2_1 : decode jdk_30_method_1_code 1 = .ok (.invokespecial 1, 3) := by decide +kernel
theorem d2_4 : decode jdk_30_method_1_code 4 = .ok (.return_, 1) := by decide +kernel
theorem pn_2 : plainName "java/lang/Record" = true := by first | (simp [plainName, overriddenIn]; done) | decide +kernel
theorem pd_2 : parseMethodDescriptor "()V" = some ⟨[], none⟩ := by decide +kernel
theorem ef_2 (m : MethodId) (x0 : Addr) : entryFrame m #[(.ref x0)] 1 = mkF m 0 #[.val (.ref x0)] [] := by first | (simp [entryFrame, mkF, argsToLocals, Value.category]; done) | rfl
theorem d4_0 : decode jdk_29_method_66_code 0 = .ok (.lload_n 0, 1) := by decide +kernel
theorem d4_1 : decode jdk_29_method_66_code 1 = .ok (.lload_n 2, 1) := by decide +kernel
theorem d4_2 : decode jdk_29_method_66_code 2 = .ok (.lcmp, 1) := by decide +kernel
theorem d4_3 : decode jdk_29_method_66_code 3 = .ok (.ifCond .lt 7, 3) := by decide +kernel
theorem d4_6 : decode jdk_29_method_66_code 6 = .ok (.lload_n 0, 1) := by decide +kernel
theorem d4_7 : decode jdk_29_method_66_code 7 = .ok (.goto 4, 3) := by decide +kernel
theorem d4_10 : decode jdk_29_method_66_code 10 = .ok (.lload_n 2, 1) := by decide +kernel
theorem d4_11 : decode jdk_29_method_66_code 11 = .ok (.lreturn, 1) := by decide +kernel
theorem pd_4 : parseMethodDescriptor "(JJ)J" = some ⟨[.long, .long], some .long⟩ := by decide +kernel
theorem ef_4 (m : MethodId) (x0 : Int64) (x1 : Int64) : entryFrame m #[(.long x0), (.long x1)] 4 = mkF m 0 #[.val (.long x0), .second, .val (.long x1), .second] [] := by first | (simp [entryFrame, mkF, argsToLocals, Value.category]; done) | rfl
theorem d5_0 : decode prog_237_method_12_code 0 = .ok (.aload_n 0, 1) := by decide +kernel
theorem d5_1 : decode prog_237_method_12_code 1 = .ok (.getfield 7, 3) := by decide +kernel
theorem d5_4 : decode prog_237_method_12_code 4 = .ok (.aload_n 1, 1) := by decide +kernel
theorem d5_5 : decode prog_237_method_12_code 5 = .ok (.getfield 7, 3) := by decide +kernel
theorem d5_8 : decode prog_237_method_12_code 8 = .ok (.lcmp, 1) := by decide +kernel
theorem d5_9 : decode prog_237_method_12_code 9 = .ok (.ifCond .gt 31, 3) := by decide +kernel
theorem d5_12 : decode prog_237_method_12_code 12 = .ok (.aload_n 0, 1) := by decide +kernel
theorem d5_13 : decode prog_237_method_12_code 13 = .ok (.getfield 13, 3) := by decide +kernel
theorem d5_16 : decode prog_237_method_12_code 16 = .ok (.aload_n 1, 1) := by decide +kernel
theorem d5_17 : decode prog_237_method_12_code 17 = .ok (.getfield 13, 3) := by decide +kernel
theorem d5_20 : decode prog_237_method_12_code 20 = .ok (.lcmp, 1) := by decide +kernel
theorem d5_21 : decode prog_237_method_12_code 21 = .ok (.ifCond .gt 19, 3) := by decide +kernel
theorem d5_24 : decode prog_237_method_12_code 24 = .ok (.aload_n 0, 1) := by decide +kernel
theorem d5_25 : decode prog_237_method_12_code 25 = .ok (.getfield 16, 3) := by decide +kernel
theorem d5_28 : decode prog_237_method_12_code 28 = .ok (.aload_n 1, 1) := by decide +kernel
theorem d5_29 : decode prog_237_method_12_code 29 = .ok (.getfield 16, 3) := by decide +kernel
theorem d5_32 : decode prog_237_method_12_code 32 = .ok (.lcmp, 1) := by decide +kernel
theorem d5_33 : decode prog_237_method_12_code 33 = .ok (.ifCond .gt 7, 3) := by decide +kernel
theorem d5_36 : decode prog_237_method_12_code 36 = .ok (.iconst 1, 1) := by decide +kernel
theorem d5_37 : decode prog_237_method_12_code 37 = .ok (.goto 4, 3) := by decide +kernel
theorem d5_40 : decode prog_237_method_12_code 40 = .ok (.iconst 0, 1) := by decide +kernel
theorem d5_41 : decode prog_237_method_12_code 41 = .ok (.ireturn, 1) := by decide +kernel
theorem pn_5 : plainName "com/example/slackline/slackline/threequeue/Slots" = true := by first | (simp [plainName, overriddenIn]; done) | decide +kernel
theorem pd_5 : parseMethodDescriptor "(Lcom/example/slackline/slackline/threequeue/Slots;)Z" = some ⟨[(.object "com/example/slackline/slackline/threequeue/Slots")], some .boolean⟩ := by decide +kernel
theorem ef_5 (m : MethodId) (x0 : Addr) (x1 : Addr) : entryFrame m #[(.ref x0), (.ref x1)] 2 = mkF m 0 #[.val (.ref x0), .val (.ref x1)] [] := by first | (simp [entryFrame, mkF, argsToLocals, Value.category]; done) | rfl
theorem pn_0 : plainName "com/example/slackline/slackline/threequeue/SlotsAtMostPinLaw" = true := by first | (simp [plainName, overriddenIn]; done) | decide +kernel
theorem pd_0 : parseMethodDescriptor "(JJJJJJ)Z" = some ⟨[.long, .long, .long, .long, .long, .long], some .boolean⟩ := by decide +kernel
theorem ef_0 (m : MethodId) (x0 : Int64) (x1 : Int64) (x2 : Int64) (x3 : Int64) (x4 : Int64) (x5 : Int64) : entryFrame m #[(.long x0), (.long x1), (.long x2), (.long x3), (.long x4), (.long x5)] maxLocals = mkF m 0 #[.val (.long x0), .second, .val (.long x1), .second, .val (.long x2), .second, .val (.long x3), .second, .val (.long x4), .second, .val (.long x5), .second, .unset, .unset, .unset, .unset, .unset] [] := by first | (simp [entryFrame, mkF, argsToLocals, Value.category, maxLocals]; done) | rfl
set_option maxRecDepth 65536 in
set_option maxHeartbeats 40000000 in
def Q_rm2 (Z : State) (a1 : Addr) (h0 : Heap) (n0 : Nat) : Option Value → Heap → List Loc → Prop := fun v h L => v = none ∧ Fr n0 L ∧ h = h0
set_option maxRecDepth 65536 in
set_option maxHeartbeats 40000000 in
theorem rm2 (l : Launch) (Z : State) (a0 : Array Value) (hw : ∀ d ∈ tables_1, d.before a0 Z = true) (ws : List Jvm.Cond) (a1 : Addr) (h0 : Heap) (n0 : Nat) (Z0 : n0 ≤ h0.size) :
    Pays l (⟨"java/lang/Record", "<init>", "()V"⟩ : MethodName) jdk_30_method_1_code 1 none ws ({ frames := 1, cells := 0, slots := 0, locals := 12 } : Room) #[(.ref a1)] Z h0 (Q_rm2 Z a1 h0 n0) := by
  refine Pays.of (plainFor_of_name pn_2) ?_
  intro p e s m below meth c s₁ hx hby hml hown hnm hret hlk hZ X0 e0
  have hown : s.vm.findClass "java/lang/Record" = some m.cls := hown
  have hnm : meth.name = "<init>" := hnm
  have hml : c.maxLocals = 1 := hml
  show Ends p e below s _ _ (fun v h L => v = none ∧ Fr n0 L ∧ h = h0) s₁ _
  refine Ends.cast (ef_2 m a1) ?_
  have N0 := Fr.nil n0
  refine Ends.to (T' := s₁) (g' := (mkF m 1 #[.val (.ref a1)] [(.ref a1)])) (fun tt_ kk_ => XS.aloadN X0.here hx rfl (hb hby d2_0) rfl rfl kk_) ?_
  obtain ⟨T1, X1, e1, st1⟩ := initO X0 hx hZ hown (hw _ (List.mem_of_getElem? (i := 11) rfl)) (hw _ (List.mem_of_getElem? (i := 12) rfl)) (hw _ (List.mem_of_getElem? (i := 13) rfl)) e0 (g := (mkF m 1 #[.val (.ref a1)] [(.ref a1)])) rfl (by rw [hml]; rfl) rfl (hb hby d2_1) (by decide) (W := 0) (by show 2 * 0 + _ ≤ _; exact Nat.le_of_eq rfl) (by decide)
  refine Ends.to (T' := T1) (g' := (mkF m 4 #[.val (.ref a1)] [])) (fun tt_ kk_ => st1 tt_ kk_) ?_
  exact Ends.retV X1 hx hret (hb hby d2_4) hlk (by decide) (by decide) ⟨rfl, N0, e1⟩
set_option maxRecDepth 65536 in
set_option maxHeartbeats 40000000 in
def Q_rm1 (Z : State) (a1 : Addr) (q1 q2 q3 : Int64) (h0 : Heap) (n0 : Nat) : Option Value → Heap → List Loc → Prop := fun v h L => v = none ∧ Fr n0 L ∧ Keep h0 h [a1] ∧ Exa Z h a1 "com/example/slackline/slackline/threequeue/Slots" ∧ Fld Z h a1 "com/example/slackline/slackline/threequeue/Slots" "map" "J" (.long q1) ∧ Fld Z h a1 "com/example/slackline/slackline/threequeue/Slots" "reduce" "J" (.long q2) ∧ Fld Z h a1 "com/example/slackline/slackline/threequeue/Slots" "generic" "J" (.long q3)
set_option maxRecDepth 65536 in
set_option maxHeartbeats 40000000 in
theorem rm1 (l : Launch) (Z : State) (a0 : Array Value) (hw : ∀ d ∈ tables_1, d.before a0 Z = true) (ws : List Jvm.Cond) (a1 : Addr) (q1 q2 q3 : Int64) (h0 : Heap) (n0 : Nat) (Z0 : n0 ≤ h0.size) (Fm : Fld Z h0 a1 "com/example/slackline/slackline/threequeue/Slots" "map" "J" (.long 0)) (Fr1 : Fld Z h0 a1 "com/example/slackline/slackline/threequeue/Slots" "reduce" "J" (.long 0)) (Fg : Fld Z h0 a1 "com/example/slackline/slackline/threequeue/Slots" "generic" "J" (.long 0)) (E1 : Exa Z h0 a1 "com/example/slackline/slackline/threequeue/Slots") (g1 : n0 ≤ a1) :
    Pays l (⟨"com/example/slackline/slackline/threequeue/Slots", "<init>", "(JJJ)V"⟩ : MethodName) prog_237_method_1_code 7 none ws ({ frames := 2, cells := 0, slots := 0, locals := 24 } : Room) #[(.ref a1), (.long q1), (.long q2), (.long q3)] Z h0 (Q_rm1 Z a1 q1 q2 q3 h0 n0) := by
  refine Pays.of (plainFor_of_name pn_1) ?_
  intro p e s m below meth c s₁ hx hby hml hown hnm hret hlk hZ X0 e0
  have hown : s.vm.findClass "com/example/slackline/slackline/threequeue/Slots" = some m.cls := hown
  have hnm : meth.name = "<init>" := hnm
  have hml : c.maxLocals = 7 := hml
  show Ends p e below s _ _ (fun v h L => v = none ∧ Fr n0 L ∧ Keep h0 h [a1] ∧ Exa Z h a1 "com/example/slackline/slackline/threequeue/Slots" ∧ Fld Z h a1 "com/example/slackline/slackline/threequeue/Slots" "map" "J" (.long q1) ∧ Fld Z h a1 "com/example/slackline/slackline/threequeue/Slots" "reduce" "J" (.long q2) ∧ Fld Z h a1 "com/example/slackline/slackline/threequeue/Slots" "generic" "J" (.long q3)) s₁ _
  refine Ends.cast (ef_1 m a1 q1 q2 q3) ?_
  have N0 := Fr.nil n0
  have K1 := Keep.refl h0 [a1]
  refine Ends.to (T' := s₁) (g' := (mkF m 1 #[.val (.ref a1), .val (.long q1), .second, .val (.long q2), .second, .val (.long q3), .second] [(.ref a1)])) (fun tt_ kk_ => XS.aloadN X0.here hx rfl (hb hby d1_0) rfl rfl kk_) ?_
  obtain ⟨_, _, ⟨T2, L2, k2, n2⟩, -, X2, ⟨Lc2, hQ2, l2, y2, z2⟩, st2⟩ := X0.specialBack hx (y := (⟨"java/lang/Record", "<init>", "()V"⟩ : MethodName)) rfl hown (mvT hZ (hw _ (List.mem_of_getElem? (i := 6) rfl))) (mvT hZ (hw _ (List.mem_of_getElem? (i := 7) rfl))) (mvT hZ (hw _ (List.mem_of_getElem? (i := 10) rfl))) (by decide) (backOf (W := 0) (rm2 l Z a0 hw [] a1 h0 n0 Z0) hZ (hw _ (List.mem_of_getElem? (i := 10) rfl)) (hw _ (List.mem_of_getElem? (i := 9) rfl)) (by decide) (by decide)) (g := (mkF m 1 #[.val (.ref a1), .val (.long q1), .second, .val (.long q2), .second, .val (.long q3), .second] [(.ref a1)])) rfl (by rw [hml]; rfl) (Steps.refl _) (a := a1) (argsL := []) (rest := []) (lenOf pd_2 rfl) rfl (by show 2 * 0 + _ ≤ _; exact Nat.le_of_eq rfl) (hb hby d1_1) (fun _ _ => ⟨rfl, e0, (by decide : 0 + 0 ≤ _), (by decide : 0 + 0 ≤ _)⟩)
  dsimp only [Pt.U, Pt.locs, Pt.cells, Pt.slots] at X2 l2 y2 z2 st2 hQ2
  subst l2 y2 z2
  obtain ⟨rfl, N2q, e2q⟩ := hQ2
  have N2 := Fr.app N0 N2q
  refine Ends.to (T' := T2) (g' := (mkF m 4 #[.val (.ref a1), .val (.long q1), .second, .val (.long q2), .second, .val (.long q3), .second] [])) (fun tt_ kk_ => st2.trans kk_) ?_
  refine Ends.to (T' := T2) (g' := (mkF m 5 #[.val (.ref a1), .val (.long q1), .second, .val (.long q2), .second, .val (.long q3), .second] [(.ref a1)])) (fun tt_ kk_ => XS.aloadN X2.here hx rfl (hb hby d1_4) rfl rfl kk_) ?_
  refine Ends.to (T' := T2) (g' := (mkF m 6 #[.val (.ref a1), .val (.long q1), .second, .val (.long q2), .second, .val (.long q3), .second] [(.long q1), (.ref a1)])) (fun tt_ kk_ => XS.lloadN X2.here hx rfl (hb hby d1_5) rfl kk_) ?_
  obtain ⟨T3, h3, X3, e3, W3, st3⟩ := putF X2 hx hZ hown (host := "") (Or.inl (hw _ (List.mem_of_getElem? (i := 14) rfl))) Via.refl e2q Fm E1 (Or.inr ⟨(hw _ (List.mem_of_getElem? (i := 15) rfl)), rfl, hnm⟩) (hw _ (List.mem_of_getElem? (i := 1) rfl)) (ty := .long) (by decide) rfl rfl (g := (mkF m 6 #[.val (.ref a1), .val (.long q1), .second, .val (.long q2), .second, .val (.long q3), .second] [(.long q1), (.ref a1)])) rfl rfl (hb hby d1_6)
  have Fm := Fld.same W3 Fm
  have Fr1 := Fld.other W3 Fr1 (Or.inr (slot_ne (Or.inr (hw _ (List.mem_of_getElem? (i := 17) rfl))) (Or.inr (hw _ (List.mem_of_getElem? (i := 15) rfl))) (by decide) (t := .long) (t' := .long) (by decide) (by decide)))
  have Fg := Fld.other W3 Fg (Or.inr (slot_ne (Or.inr (hw _ (List.mem_of_getElem? (i := 19) rfl))) (Or.inr (hw _ (List.mem_of_getElem? (i := 15) rfl))) (by decide) (t := .long) (t' := .long) (by decide) (by decide)))
  have E1 := Exa.wr W3 E1
  have K1 := Keep.wr K1 W3 (Or.inl (List.mem_of_getElem? (i := 0) rfl))
  have N3 := Fr.snoc X3 N2 g1
  refine Ends.to (T' := T3) (g' := (mkF m 9 #[.val (.ref a1), .val (.long q1), .second, .val (.long q2), .second, .val (.long q3), .second] [])) (fun tt_ kk_ => st3 tt_ kk_) ?_
  refine Ends.to (T' := T3) (g' := (mkF m 10 #[.val (.ref a1), .val (.long q1), .second, .val (.long q2), .second, .val (.long q3), .second] [(.ref a1)])) (fun tt_ kk_ => XS.aloadN X3.here hx rfl (hb hby d1_9) rfl rfl kk_) ?_
  refine Ends.to (T' := T3) (g' := (mkF m 11 #[.val (.ref a1), .val (.long q1), .second, .val (.long q2), .second, .val (.long q3), .second] [(.long q2), (.ref a1)])) (fun tt_ kk_ => XS.lloadN X3.here hx rfl (hb hby d1_10) rfl kk_) ?_
  obtain ⟨T4, h4, X4, e4, W4, st4⟩ := putF X3 hx hZ hown (host := "") (Or.inl (hw _ (List.mem_of_getElem? (i := 16) rfl))) Via.refl e3 Fr1 E1 (Or.inr ⟨(hw _ (List.mem_of_getElem? (i := 17) rfl)), rfl, hnm⟩) (hw _ (List.mem_of_getElem? (i := 1) rfl)) (ty := .long) (by decide) rfl rfl (g := (mkF m 11 #[.val (.ref a1), .val (.long q1), .second, .val (.long q2), .second, .val (.long q3), .second] [(.long q2), (.ref a1)])) rfl rfl (hb hby d1_11)
  have Fr1 := Fld.same W4 Fr1
  have Fm := Fld.other W4 Fm (Or.inr (slot_ne (Or.inr (hw _ (List.mem_of_getElem? (i := 15) rfl))) (Or.inr (hw _ (List.mem_of_getElem? (i := 17) rfl))) (by decide) (t := .long) (t' := .long) (by decide) (by decide)))
  have Fg := Fld.other W4 Fg (Or.inr (slot_ne (Or.inr (hw _ (List.mem_of_getElem? (i := 19) rfl))) (Or.inr (hw _ (List.mem_of_getElem? (i := 17) rfl))) (by decide) (t := .long) (t' := .long) (by decide) (by decide)))
  have E1 := Exa.wr W4 E1
  have K1 := Keep.wr K1 W4 (Or.inl (List.mem_of_getElem? (i := 0) rfl))
  have N4 := Fr.snoc X4 N3 g1
  refine Ends.to (T' := T4) (g' := (mkF m 14 #[.val (.ref a1), .val (.long q1), .second, .val (.long q2), .second, .val (.long q3), .second] [])) (fun tt_ kk_ => st4 tt_ kk_) ?_
  refine Ends.to (T' := T4) (g' := (mkF m 15 #[.val (.ref a1), .val (.long q1), .second, .val (.long q2), .second, .val (.long q3), .second] [(.ref a1)])) (fun tt_ kk_ => XS.aloadN X4.here hx rfl (hb hby d1_14) rfl rfl kk_) ?_
  refine Ends.to (T' := T4) (g' := (mkF m 17 #[.val (.ref a1), .val (.long q1), .second, .val (.long q2), .second, .val (.long q3), .second] [(.long q3), (.ref a1)])) (fun tt_ kk_ => XS.lload X4.here hx rfl (hb hby d1_15) rfl kk_) ?_
  obtain ⟨T5, h5, X5, e5, W5, st5⟩ := putF X4 hx hZ hown (host := "") (Or.inl (hw _ (List.mem_of_getElem? (i := 18) rfl))) Via.refl e4 Fg E1 (Or.inr ⟨(hw _ (List.mem_of_getElem? (i := 19) rfl)), rfl, hnm⟩) (hw _ (List.mem_of_getElem? (i := 1) rfl)) (ty := .long) (by decide) rfl rfl (g := (mkF m 17 #[.val (.ref a1), .val (.long q1), .second, .val (.long q2), .second, .val (.long q3), .second] [(.long q3), (.ref a1)])) rfl rfl (hb hby d1_17)
  have Fg := Fld.same W5 Fg
  have Fm := Fld.other W5 Fm (Or.inr (slot_ne (Or.inr (hw _ (List.mem_of_getElem? (i := 15) rfl))) (Or.inr (hw _ (List.mem_of_getElem? (i := 19) rfl))) (by decide) (t := .long) (t' := .long) (by decide) (by decide)))
  have Fr1 := Fld.other W5 Fr1 (Or.inr (slot_ne (Or.inr (hw _ (List.mem_of_getElem? (i := 17) rfl))) (Or.inr (hw _ (List.mem_of_getElem? (i := 19) rfl))) (by decide) (t := .long) (t' := .long) (by decide) (by decide)))
  have E1 := Exa.wr W5 E1
  have K1 := Keep.wr K1 W5 (Or.inl (List.mem_of_getElem? (i := 0) rfl))
  have N5 := Fr.snoc X5 N4 g1
  refine Ends.to (T' := T5) (g' := (mkF m 20 #[.val (.ref a1), .val (.long q1), .second, .val (.long q2), .second, .val (.long q3), .second] [])) (fun tt_ kk_ => st5 tt_ kk_) ?_
  exact Ends.retV X5 hx hret (hb hby d1_20) hlk (by decide) (by decide) ⟨rfl, N5, by rw [e5]; exact ⟨K1, E1, Fm, Fr1, Fg⟩⟩
def own_max (x y : Int64) : Int64 := if x < y then y else x
set_option maxRecDepth 65536 in
set_option maxHeartbeats 40000000 in
def Q_rm4 (Z : State) (q1 q2 : Int64) (h0 : Heap) (n0 : Nat) : Option Value → Heap → List Loc → Prop := fun v h L => v = some (.long (own_max q1 q2)) ∧ Fr n0 L ∧ h = h0
set_option maxRecDepth 65536 in
set_option maxHeartbeats 40000000 in
theorem rm4 (l : Launch) (Z : State) (a0 : Array Value) (hw : ∀ d ∈ tables_1, d.before a0 Z = true) (ws : List Jvm.Cond) (q1 q2 : Int64) (h0 : Heap) (n0 : Nat) (Z0 : n0 ≤ h0.size) :
    Pays l (⟨"java/lang/Math", "max", "(JJ)J"⟩ : MethodName) jdk_29_method_66_code 4 (some .long) ws ({ frames := 0, cells := 0, slots := 0, locals := 0 } : Room) #[(.long q1), (.long q2)] Z h0 (Q_rm4 Z q1 q2 h0 n0) := by
  refine Pays.of (Jvm.Free.JP.mathPlain rfl (by decide +kernel)) ?_
  intro p e s m below meth c s₁ hx hby hml hown hnm hret hlk hZ X0 e0
  have hown : s.vm.findClass "java/lang/Math" = some m.cls := hown
  have hnm : meth.name = "max" := hnm
  have hml : c.maxLocals = 4 := hml
  show Ends p e below s _ _ (fun v h L => v = some (.long (own_max q1 q2)) ∧ Fr n0 L ∧ h = h0) s₁ _
  refine Ends.cast (ef_4 m q1 q2) ?_
  have N0 := Fr.nil n0
  refine Ends.to (T' := s₁) (g' := (mkF m 1 #[.val (.long q1), .second, .val (.long q2), .second] [(.long q1)])) (fun tt_ kk_ => XS.lloadN X0.here hx rfl (hb hby d4_0) rfl kk_) ?_
  refine Ends.to (T' := s₁) (g' := (mkF m 2 #[.val (.long q1), .second, .val (.long q2), .second] [(.long q2), (.long q1)])) (fun tt_ kk_ => XS.lloadN X0.here hx rfl (hb hby d4_1) rfl kk_) ?_
  refine Ends.to (T' := s₁) (g' := (mkF m 3 #[.val (.long q1), .second, .val (.long q2), .second] [(.int (lcmpW q1 q2))])) (fun tt_ kk_ => XS.lcmp X0.here hx rfl (hb hby d4_2) rfl kk_) ?_
  by_cases hc3 : q1 < q2
  · refine Ends.to (T' := s₁) (g' := (mkF m 10 #[.val (.long q1), .second, .val (.long q2), .second] [])) (fun tt_ kk_ => XS.ifYes X0.here hx rfl (pc0 := 3) (pc' := 10) rfl (hb hby d4_3) rfl ((if0 _ _).trans (tlt ((lw_lt _ _).mpr hc3)).1) (by decide) (by decide) kk_) ?_
    refine Ends.to (T' := s₁) (g' := (mkF m 11 #[.val (.long q1), .second, .val (.long q2), .second] [(.long q2)])) (fun tt_ kk_ => XS.lloadN X0.here hx rfl (hb hby d4_10) rfl kk_) ?_
    exact Ends.retJ X0 hx hret (hb hby d4_11) hlk (by decide) (by decide) ⟨by simp [own_max, hc3], N0, e0⟩
  · refine Ends.to (T' := s₁) (g' := (mkF m 6 #[.val (.long q1), .second, .val (.long q2), .second] [])) (fun tt_ kk_ => XS.ifNo X0.here hx rfl (hb hby d4_3) rfl ((if0 _ _).trans (flt (fun q => hc3 ((lw_lt _ _).mp q))).1) kk_) ?_
    refine Ends.to (T' := s₁) (g' := (mkF m 7 #[.val (.long q1), .second, .val (.long q2), .second] [(.long q1)])) (fun tt_ kk_ => XS.lloadN X0.here hx rfl (hb hby d4_6) rfl kk_) ?_
    refine Ends.to (T' := s₁) (g' := (mkF m 11 #[.val (.long q1), .second, .val (.long q2), .second] [(.long q1)])) (fun tt_ kk_ => XS.goto X0.here hx rfl (pc0 := 7) (pc' := 11) rfl (hb hby d4_7) (by decide) (by decide) kk_) ?_
    exact Ends.retJ X0 hx hret (hb hby d4_11) hlk (by decide) (by decide) ⟨by simp [own_max, hc3], N0, e0⟩
def own_am (x1 x2 x3 y1 y2 y3 : Int64) : Int32 := if y1 < x1 then 0 else if y2 < x2 then 0 else if y3 < x3 then 0 else 1
set_option maxRecDepth 65536 in
set_option maxHeartbeats 40000000 in
def Q_rm5 (Z : State) (a1 a2 : Addr) (x1 x2 x3 y1 y2 y3 : Int64) (h0 : Heap) (n0 : Nat) : Option Value → Heap → List Loc → Prop := fun v h L => v = some (.int (own_am x1 x2 x3 y1 y2 y3)) ∧ Fr n0 L ∧ h = h0
set_option maxRecDepth 65536 in
set_option maxHeartbeats 40000000 in
theorem rm5 (l : Launch) (Z : State) (a0 : Array Value) (hw : ∀ d ∈ tables_1, d.before a0 Z = true) (ws : List Jvm.Cond) (a1 a2 : Addr) (x1 x2 x3 y1 y2 y3 : Int64) (h0 : Heap) (n0 : Nat) (Z0 : n0 ≤ h0.size) (Fx1 : Fld Z h0 a1 "com/example/slackline/slackline/threequeue/Slots" "map" "J" (.long x1)) (Fy1 : Fld Z h0 a2 "com/example/slackline/slackline/threequeue/Slots" "map" "J" (.long y1)) (Fx2 : Fld Z h0 a1 "com/example/slackline/slackline/threequeue/Slots" "reduce" "J" (.long x2)) (Fy2 : Fld Z h0 a2 "com/example/slackline/slackline/threequeue/Slots" "reduce" "J" (.long y2)) (Fx3 : Fld Z h0 a1 "com/example/slackline/slackline/threequeue/Slots" "generic" "J" (.long x3)) (Fy3 : Fld Z h0 a2 "com/example/slackline/slackline/threequeue/Slots" "generic" "J" (.long y3)) :
    Pays l (⟨"com/example/slackline/slackline/threequeue/Slots", "atMost", "(Lcom/example/slackline/slackline/threequeue/Slots;)Z"⟩ : MethodName) prog_237_method_12_code 2 (some .boolean) ws ({ frames := 0, cells := 0, slots := 0, locals := 0 } : Room) #[(.ref a1), (.ref a2)] Z h0 (Q_rm5 Z a1 a2 x1 x2 x3 y1 y2 y3 h0 n0) := by
  refine Pays.of (plainFor_of_name pn_5) ?_
  intro p e s m below meth c s₁ hx hby hml hown hnm hret hlk hZ X0 e0
  have hown : s.vm.findClass "com/example/slackline/slackline/threequeue/Slots" = some m.cls := hown
  have hnm : meth.name = "atMost" := hnm
  have hml : c.maxLocals = 2 := hml
  show Ends p e below s _ _ (fun v h L => v = some (.int (own_am x1 x2 x3 y1 y2 y3)) ∧ Fr n0 L ∧ h = h0) s₁ _
  refine Ends.cast (ef_5 m a1 a2) ?_
  have N0 := Fr.nil n0
  refine Ends.to (T' := s₁) (g' := (mkF m 1 #[.val (.ref a1), .val (.ref a2)] [(.ref a1)])) (fun tt_ kk_ => XS.aloadN X0.here hx rfl (hb hby d5_0) rfl rfl kk_) ?_
  obtain ⟨T6, X6, e6, st6⟩ := getF X0 hx hZ hown (host := "") (Or.inl (hw _ (List.mem_of_getElem? (i := 14) rfl))) Via.refl e0 Fx1 (g := (mkF m 1 #[.val (.ref a1), .val (.ref a2)] [(.ref a1)])) rfl rfl (hb hby d5_1)
  refine Ends.to (T' := T6) (g' := (mkF m 4 #[.val (.ref a1), .val (.ref a2)] [(.long x1)])) (fun tt_ kk_ => st6 tt_ kk_) ?_
  refine Ends.to (T' := T6) (g' := (mkF m 5 #[.val (.ref a1), .val (.ref a2)] [(.ref a2), (.long x1)])) (fun tt_ kk_ => XS.aloadN X6.here hx rfl (hb hby d5_4) rfl rfl kk_) ?_
  obtain ⟨T7, X7, e7, st7⟩ := getF X6 hx hZ hown (host := "") (Or.inl (hw _ (List.mem_of_getElem? (i := 14) rfl))) Via.refl e6 Fy1 (g := (mkF m 5 #[.val (.ref a1), .val (.ref a2)] [(.ref a2), (.long x1)])) rfl rfl (hb hby d5_5)
  refine Ends.to (T' := T7) (g' := (mkF m 8 #[.val (.ref a1), .val (.ref a2)] [(.long y1), (.long x1)])) (fun tt_ kk_ => st7 tt_ kk_) ?_
  refine Ends.to (T' := T7) (g' := (mkF m 9 #[.val (.ref a1), .val (.ref a2)] [(.int (lcmpW x1 y1))])) (fun tt_ kk_ => XS.lcmp X7.here hx rfl (hb hby d5_8) rfl kk_) ?_
  by_cases hc9 : y1 < x1
  · refine Ends.to (T' := T7) (g' := (mkF m 40 #[.val (.ref a1), .val (.ref a2)] [])) (fun tt_ kk_ => XS.ifYes X7.here hx rfl (pc0 := 9) (pc' := 40) rfl (hb hby d5_9) rfl ((if0 _ _).trans (tlt ((lw_gt _ _).mpr hc9)).2.2.1) (by decide) (by decide) kk_) ?_
    refine Ends.to (T' := T7) (g' := (mkF m 41 #[.val (.ref a1), .val (.ref a2)] [(.int (0 : Int32))])) (fun tt_ kk_ => XS.iconst X7.here hx rfl (hb hby d5_40) kk_) ?_
    exact Ends.retN (t := .boolean) (by simp) X7 hx hret (hb hby d5_41) hlk (by decide) (by decide) ⟨by simp [own_am, nar, hc9] <;> decide, N0, e7⟩
  · refine Ends.to (T' := T7) (g' := (mkF m 12 #[.val (.ref a1), .val (.ref a2)] [])) (fun tt_ kk_ => XS.ifNo X7.here hx rfl (hb hby d5_9) rfl ((if0 _ _).trans (flt (fun q => hc9 ((lw_gt _ _).mp q))).2.2.1) kk_) ?_
    refine Ends.to (T' := T7) (g' := (mkF m 13 #[.val (.ref a1), .val (.ref a2)] [(.ref a1)])) (fun tt_ kk_ => XS.aloadN X7.here hx rfl (hb hby d5_12) rfl rfl kk_) ?_
    obtain ⟨T8, X8, e8, st8⟩ := getF X7 hx hZ hown (host := "") (Or.inl (hw _ (List.mem_of_getElem? (i := 16) rfl))) Via.refl e7 Fx2 (g := (mkF m 13 #[.val (.ref a1), .val (.ref a2)] [(.ref a1)])) rfl rfl (hb hby d5_13)
    refine Ends.to (T' := T8) (g' := (mkF m 16 #[.val (.ref a1), .val (.ref a2)] [(.long x2)])) (fun tt_ kk_ => st8 tt_ kk_) ?_
    refine Ends.to (T' := T8) (g' := (mkF m 17 #[.val (.ref a1), .val (.ref a2)] [(.ref a2), (.long x2)])) (fun tt_ kk_ => XS.aloadN X8.here hx rfl (hb hby d5_16) rfl rfl kk_) ?_
    obtain ⟨T9, X9, e9, st9⟩ := getF X8 hx hZ hown (host := "") (Or.inl (hw _ (List.mem_of_getElem? (i := 16) rfl))) Via.refl e8 Fy2 (g := (mkF m 17 #[.val (.ref a1), .val (.ref a2)] [(.ref a2), (.long x2)])) rfl rfl (hb hby d5_17)
    refine Ends.to (T' := T9) (g' := (mkF m 20 #[.val (.ref a1), .val (.ref a2)] [(.long y2), (.long x2)])) (fun tt_ kk_ => st9 tt_ kk_) ?_
    refine Ends.to (T' := T9) (g' := (mkF m 21 #[.val (.ref a1), .val (.ref a2)] [(.int (lcmpW x2 y2))])) (fun tt_ kk_ => XS.lcmp X9.here hx rfl (hb hby d5_20) rfl kk_) ?_
    by_cases hc21 : y2 < x2
    · refine Ends.to (T' := T9) (g' := (mkF m 40 #[.val (.ref a1), .val (.ref a2)] [])) (fun tt_ kk_ => XS.ifYes X9.here hx rfl (pc0 := 21) (pc' := 40) rfl (hb hby d5_21) rfl ((if0 _ _).trans (tlt ((lw_gt _ _).mpr hc21)).2.2.1) (by decide) (by decide) kk_) ?_
      refine Ends.to (T' := T9) (g' := (mkF m 41 #[.val (.ref a1), .val (.ref a2)] [(.int (0 : Int32))])) (fun tt_ kk_ => XS.iconst X9.here hx rfl (hb hby d5_40) kk_) ?_
      exact Ends.retN (t := .boolean) (by simp) X9 hx hret (hb hby d5_41) hlk (by decide) (by decide) ⟨by simp [own_am, nar, hc9, hc21] <;> decide, N0, e9⟩
    · refine Ends.to (T' := T9) (g' := (mkF m 24 #[.val (.ref a1), .val (.ref a2)] [])) (fun tt_ kk_ => XS.ifNo X9.here hx rfl (hb hby d5_21) rfl ((if0 _ _).trans (flt (fun q => hc21 ((lw_gt _ _).mp q))).2.2.1) kk_) ?_
      refine Ends.to (T' := T9) (g' := (mkF m 25 #[.val (.ref a1), .val (.ref a2)] [(.ref a1)])) (fun tt_ kk_ => XS.aloadN X9.here hx rfl (hb hby d5_24) rfl rfl kk_) ?_
      obtain ⟨T10, X10, e10, st10⟩ := getF X9 hx hZ hown (host := "") (Or.inl (hw _ (List.mem_of_getElem? (i := 18) rfl))) Via.refl e9 Fx3 (g := (mkF m 25 #[.val (.ref a1), .val (.ref a2)] [(.ref a1)])) rfl rfl (hb hby d5_25)
      refine Ends.to (T' := T10) (g' := (mkF m 28 #[.val (.ref a1), .val (.ref a2)] [(.long x3)])) (fun tt_ kk_ => st10 tt_ kk_) ?_
      refine Ends.to (T' := T10) (g' := (mkF m 29 #[.val (.ref a1), .val (.ref a2)] [(.ref a2), (.long x3)])) (fun tt_ kk_ => XS.aloadN X10.here hx rfl (hb hby d5_28) rfl rfl kk_) ?_
      obtain ⟨T11, X11, e11, st11⟩ := getF X10 hx hZ hown (host := "") (Or.inl (hw _ (List.mem_of_getElem? (i := 18) rfl))) Via.refl e10 Fy3 (g := (mkF m 29 #[.val (.ref a1), .val (.ref a2)] [(.ref a2), (.long x3)])) rfl rfl (hb hby d5_29)
      refine Ends.to (T' := T11) (g' := (mkF m 32 #[.val (.ref a1), .val (.ref a2)] [(.long y3), (.long x3)])) (fun tt_ kk_ => st11 tt_ kk_) ?_
      refine Ends.to (T' := T11) (g' := (mkF m 33 #[.val (.ref a1), .val (.ref a2)] [(.int (lcmpW x3 y3))])) (fun tt_ kk_ => XS.lcmp X11.here hx rfl (hb hby d5_32) rfl kk_) ?_
      by_cases hc33 : y3 < x3
      · refine Ends.to (T' := T11) (g' := (mkF m 40 #[.val (.ref a1), .val (.ref a2)] [])) (fun tt_ kk_ => XS.ifYes X11.here hx rfl (pc0 := 33) (pc' := 40) rfl (hb hby d5_33) rfl ((if0 _ _).trans (tlt ((lw_gt _ _).mpr hc33)).2.2.1) (by decide) (by decide) kk_) ?_
        refine Ends.to (T' := T11) (g' := (mkF m 41 #[.val (.ref a1), .val (.ref a2)] [(.int (0 : Int32))])) (fun tt_ kk_ => XS.iconst X11.here hx rfl (hb hby d5_40) kk_) ?_
        exact Ends.retN (t := .boolean) (by simp) X11 hx hret (hb hby d5_41) hlk (by decide) (by decide) ⟨by simp [own_am, nar, hc9, hc21, hc33] <;> decide, N0, e11⟩
      · refine Ends.to (T' := T11) (g' := (mkF m 36 #[.val (.ref a1), .val (.ref a2)] [])) (fun tt_ kk_ => XS.ifNo X11.here hx rfl (hb hby d5_33) rfl ((if0 _ _).trans (flt (fun q => hc33 ((lw_gt _ _).mp q))).2.2.1) kk_) ?_
        refine Ends.to (T' := T11) (g' := (mkF m 37 #[.val (.ref a1), .val (.ref a2)] [(.int (1 : Int32))])) (fun tt_ kk_ => XS.iconst X11.here hx rfl (hb hby d5_36) kk_) ?_
        refine Ends.to (T' := T11) (g' := (mkF m 41 #[.val (.ref a1), .val (.ref a2)] [(.int (1 : Int32))])) (fun tt_ kk_ => XS.goto X11.here hx rfl (pc0 := 37) (pc' := 41) rfl (hb hby d5_37) (by decide) (by decide) kk_) ?_
        exact Ends.retN (t := .boolean) (by simp) X11 hx hret (hb hby d5_41) hlk (by decide) (by decide) ⟨by simp [own_am, nar, hc9, hc21, hc33] <;> decide, N0, e11⟩
theorem own_max_eq {x y : Int64} : own_max x y = y ↔ ¬ y < x := by
  unfold own_max
  split <;> rename_i h
  · simp only [true_iff]; rw [Int64.lt_iff_toInt_lt] at *; omega
  · rw [← Int64.toInt_inj]; rw [Int64.lt_iff_toInt_lt] at *; omega
theorem own_irr (x : Int64) : ¬ x < x := by rw [Int64.lt_iff_toInt_lt]; omega
theorem own_am_self (x1 x2 x3 : Int64) : ¬ own_am x1 x2 x3 x1 x2 x3 = 0 := by simp [own_am, own_irr]
set_option maxRecDepth 65536 in
set_option maxHeartbeats 40000000 in
def Q_rm0 (Z : State) (q1 q2 q3 q4 q5 q6 : Int64) (h0 : Heap) (n0 : Nat) : Option Value → Heap → List Loc → Prop := fun v h L => v = some (.int 1) ∧ Fr n0 L
set_option maxRecDepth 65536 in
set_option maxHeartbeats 40000000 in
theorem rm0 (l : Launch) (Z : State) (a0 : Array Value) (hw : ∀ d ∈ tables_1, d.before a0 Z = true) (ws : List Jvm.Cond) (q1 q2 q3 q4 q5 q6 : Int64) (h0 : Heap) (n0 : Nat) (Z0 : n0 ≤ h0.size) :
    Pays l x code maxLocals ret ws room_1 #[(.long q1), (.long q2), (.long q3), (.long q4), (.long q5), (.long q6)] Z h0 (Q_rm0 Z q1 q2 q3 q4 q5 q6 h0 n0) := by
  refine Pays.of (plainFor_of_name pn_0) ?_
  intro p e s m below meth c s₁ hx hby hml hown hnm hret hlk hZ X0 e0
  have hown : s.vm.findClass "com/example/slackline/slackline/threequeue/SlotsAtMostPinLaw" = some m.cls := hown
  have hnm : meth.name = "law" := hnm
  have hml : c.maxLocals = 17 := hml
  show Ends p e below s _ _ (fun v h L => v = some (.int 1) ∧ Fr n0 L) s₁ _
  refine Ends.cast (ef_0 m q1 q2 q3 q4 q5 q6) ?_
  have N0 := Fr.nil n0
  have Zs := Z0
  obtain ⟨T12, h12, X12, e12, E12, A12, D12, -, st12⟩ := newO X0 hx hZ hown (hw _ (List.mem_of_getElem? (i := 0) rfl)) (hw _ (List.mem_of_getElem? (i := 1) rfl)) (hw _ (List.mem_of_getElem? (i := 2) rfl)) e0 (g := (mkF m 0 #[.val (.long q1), .second, .val (.long q2), .second, .val (.long q3), .second, .val (.long q4), .second, .val (.long q5), .second, .val (.long q6), .second, .unset, .unset, .unset, .unset, .unset] [])) rfl (hb hby at_0) (by decide) (by decide)
  obtain ⟨b1, g_b1⟩ : ∃ z, z = h0.size := ⟨_, rfl⟩
  rw [← g_b1] at A12 D12 st12
  have f_b1 : n0 ≤ b1 := Nat.le_trans Zs (Nat.le_of_eq g_b1.symm)
  have Zs := Nat.le_trans Zs E12.1
  have A_b1 := A12
  have F_b1_map : Fld Z h12 b1 "com/example/slackline/slackline/threequeue/Slots" "map" "J" (.long (0 : Int64)) := D12 (Or.inr (hw _ (List.mem_of_getElem? (i := 15) rfl))) (ty := .long) (by decide)
  have F_b1_reduce : Fld Z h12 b1 "com/example/slackline/slackline/threequeue/Slots" "reduce" "J" (.long (0 : Int64)) := D12 (Or.inr (hw _ (List.mem_of_getElem? (i := 17) rfl))) (ty := .long) (by decide)
  have F_b1_generic : Fld Z h12 b1 "com/example/slackline/slackline/threequeue/Slots" "generic" "J" (.long (0 : Int64)) := D12 (Or.inr (hw _ (List.mem_of_getElem? (i := 19) rfl))) (ty := .long) (by decide)
  refine Ends.to (T' := T12) (g' := (mkF m 3 #[.val (.long q1), .second, .val (.long q2), .second, .val (.long q3), .second, .val (.long q4), .second, .val (.long q5), .second, .val (.long q6), .second, .unset, .unset, .unset, .unset, .unset] [(.ref b1)])) (fun tt_ kk_ => st12 tt_ kk_) ?_
  refine Ends.to (T' := T12) (g' := (mkF m 4 #[.val (.long q1), .second, .val (.long q2), .second, .val (.long q3), .second, .val (.long q4), .second, .val (.long q5), .second, .val (.long q6), .second, .unset, .unset, .unset, .unset, .unset] [(.ref b1), (.ref b1)])) (fun tt_ kk_ => XS.dup X12.here hx rfl (hb hby at_3) rfl rfl kk_) ?_
  refine Ends.to (T' := T12) (g' := (mkF m 5 #[.val (.long q1), .second, .val (.long q2), .second, .val (.long q3), .second, .val (.long q4), .second, .val (.long q5), .second, .val (.long q6), .second, .unset, .unset, .unset, .unset, .unset] [(.long q1), (.ref b1), (.ref b1)])) (fun tt_ kk_ => XS.lloadN X12.here hx rfl (hb hby at_4) rfl kk_) ?_
  refine Ends.to (T' := T12) (g' := (mkF m 6 #[.val (.long q1), .second, .val (.long q2), .second, .val (.long q3), .second, .val (.long q4), .second, .val (.long q5), .second, .val (.long q6), .second, .unset, .unset, .unset, .unset, .unset] [(.long q2), (.long q1), (.ref b1), (.ref b1)])) (fun tt_ kk_ => XS.lloadN X12.here hx rfl (hb hby at_5) rfl kk_) ?_
  refine Ends.to (T' := T12) (g' := (mkF m 8 #[.val (.long q1), .second, .val (.long q2), .second, .val (.long q3), .second, .val (.long q4), .second, .val (.long q5), .second, .val (.long q6), .second, .unset, .unset, .unset, .unset, .unset] [(.long q3), (.long q2), (.long q1), (.ref b1), (.ref b1)])) (fun tt_ kk_ => XS.lload X12.here hx rfl (hb hby at_6) rfl kk_) ?_
  obtain ⟨_, _, ⟨T13, L13, k13, n13⟩, -, X13, ⟨Lc13, hQ13, l13, y13, z13⟩, st13⟩ := X12.specialBack hx (y := (⟨"com/example/slackline/slackline/threequeue/Slots", "<init>", "(JJJ)V"⟩ : MethodName)) rfl hown (mvT hZ (hw _ (List.mem_of_getElem? (i := 3) rfl))) (mvT hZ (hw _ (List.mem_of_getElem? (i := 4) rfl))) (mvT hZ (hw _ (List.mem_of_getElem? (i := 5) rfl))) (by decide) (backOf (W := 1) (rm1 l Z a0 hw [] b1 q1 q2 q3 h12 n0 Zs F_b1_map F_b1_reduce F_b1_generic A_b1 f_b1) hZ (hw _ (List.mem_of_getElem? (i := 5) rfl)) (hw _ (List.mem_of_getElem? (i := 2) rfl)) (by decide) (by decide)) (g := (mkF m 8 #[.val (.long q1), .second, .val (.long q2), .second, .val (.long q3), .second, .val (.long q4), .second, .val (.long q5), .second, .val (.long q6), .second, .unset, .unset, .unset, .unset, .unset] [(.long q3), (.long q2), (.long q1), (.ref b1), (.ref b1)])) rfl (by rw [hml]; rfl) (Steps.refl _) (a := b1) (argsL := [(.long q1), (.long q2), (.long q3)]) (rest := [(.ref b1)]) (lenOf pd_1 rfl) rfl (by show 2 * 0 + _ ≤ _; exact Nat.le_of_eq rfl) (hb hby at_8) (fun _ _ => ⟨rfl, e12, (by decide : 1 + 0 ≤ _), (by decide : 3 + 0 ≤ _)⟩)
  dsimp only [Pt.U, Pt.locs, Pt.cells, Pt.slots] at X13 l13 y13 z13 st13 hQ13
  subst l13 y13 z13
  obtain ⟨rfl, N13q, K13, E13x, G13map, G13reduce, G13generic⟩ := hQ13
  have N13 := Fr.app N0 N13q
  have Zs := Nat.le_trans Zs K13.1
  have A_b1 := Exa.keep A_b1 K13
  have F_b1_map := G13map
  have F_b1_reduce := G13reduce
  have F_b1_generic := G13generic
  refine Ends.to (T' := T13) (g' := (mkF m 11 #[.val (.long q1), .second, .val (.long q2), .second, .val (.long q3), .second, .val (.long q4), .second, .val (.long q5), .second, .val (.long q6), .second, .unset, .unset, .unset, .unset, .unset] [(.ref b1)])) (fun tt_ kk_ => st13.trans kk_) ?_
  refine Ends.to (T' := T13) (g' := (mkF m 13 #[.val (.long q1), .second, .val (.long q2), .second, .val (.long q3), .second, .val (.long q4), .second, .val (.long q5), .second, .val (.long q6), .second, .val (.ref b1), .unset, .unset, .unset, .unset] [])) (fun tt_ kk_ => XS.astore X13.here hx rfl (hb hby at_11) rfl rfl (l' := #[.val (.long q1), .second, .val (.long q2), .second, .val (.long q3), .second, .val (.long q4), .second, .val (.long q5), .second, .val (.long q6), .second, .val (.ref b1), .unset, .unset, .unset, .unset]) rfl kk_) ?_
  obtain ⟨T14, h14, X14, e14, E14, A14, D14, -, st14⟩ := newO X13 hx hZ hown (hw _ (List.mem_of_getElem? (i := 0) rfl)) (hw _ (List.mem_of_getElem? (i := 1) rfl)) (hw _ (List.mem_of_getElem? (i := 2) rfl)) rfl (g := (mkF m 13 #[.val (.long q1), .second, .val (.long q2), .second, .val (.long q3), .second, .val (.long q4), .second, .val (.long q5), .second, .val (.long q6), .second, .val (.ref b1), .unset, .unset, .unset, .unset] [])) rfl (hb hby at_13) (by decide) (by decide)
  obtain ⟨b2, g_b2⟩ : ∃ z, z = T13.heap.size := ⟨_, rfl⟩
  rw [← g_b2] at A14 D14 st14
  have f_b2 : n0 ≤ b2 := Nat.le_trans Zs (Nat.le_of_eq g_b2.symm)
  have lt_b1_b2 : b1 < b2 := Nat.lt_of_lt_of_le A_b1.lt (Nat.le_of_eq g_b2.symm)
  have ne_b1_b2 : b1 ≠ b2 := Nat.ne_of_lt lt_b1_b2
  have Zs := Nat.le_trans Zs E14.1
  have A_b1 := Exa.ext E14 A_b1
  have F_b1_map := Fld.ext E14 F_b1_map
  have F_b1_reduce := Fld.ext E14 F_b1_reduce
  have F_b1_generic := Fld.ext E14 F_b1_generic
  have A_b2 := A14
  have F_b2_map : Fld Z h14 b2 "com/example/slackline/slackline/threequeue/Slots" "map" "J" (.long (0 : Int64)) := D14 (Or.inr (hw _ (List.mem_of_getElem? (i := 15) rfl))) (ty := .long) (by decide)
  have F_b2_reduce : Fld Z h14 b2 "com/example/slackline/slackline/threequeue/Slots" "reduce" "J" (.long (0 : Int64)) := D14 (Or.inr (hw _ (List.mem_of_getElem? (i := 17) rfl))) (ty := .long) (by decide)
  have F_b2_generic : Fld Z h14 b2 "com/example/slackline/slackline/threequeue/Slots" "generic" "J" (.long (0 : Int64)) := D14 (Or.inr (hw _ (List.mem_of_getElem? (i := 19) rfl))) (ty := .long) (by decide)
  refine Ends.to (T' := T14) (g' := (mkF m 16 #[.val (.long q1), .second, .val (.long q2), .second, .val (.long q3), .second, .val (.long q4), .second, .val (.long q5), .second, .val (.long q6), .second, .val (.ref b1), .unset, .unset, .unset, .unset] [(.ref b2)])) (fun tt_ kk_ => st14 tt_ kk_) ?_
  refine Ends.to (T' := T14) (g' := (mkF m 17 #[.val (.long q1), .second, .val (.long q2), .second, .val (.long q3), .second, .val (.long q4), .second, .val (.long q5), .second, .val (.long q6), .second, .val (.ref b1), .unset, .unset, .unset, .unset] [(.ref b2), (.ref b2)])) (fun tt_ kk_ => XS.dup X14.here hx rfl (hb hby at_16) rfl rfl kk_) ?_
  refine Ends.to (T' := T14) (g' := (mkF m 19 #[.val (.long q1), .second, .val (.long q2), .second, .val (.long q3), .second, .val (.long q4), .second, .val (.long q5), .second, .val (.long q6), .second, .val (.ref b1), .unset, .unset, .unset, .unset] [(.long q4), (.ref b2), (.ref b2)])) (fun tt_ kk_ => XS.lload X14.here hx rfl (hb hby at_17) rfl kk_) ?_
  refine Ends.to (T' := T14) (g' := (mkF m 21 #[.val (.long q1), .second, .val (.long q2), .second, .val (.long q3), .second, .val (.long q4), .second, .val (.long q5), .second, .val (.long q6), .second, .val (.ref b1), .unset, .unset, .unset, .unset] [(.long q5), (.long q4), (.ref b2), (.ref b2)])) (fun tt_ kk_ => XS.lload X14.here hx rfl (hb hby at_19) rfl kk_) ?_
  refine Ends.to (T' := T14) (g' := (mkF m 23 #[.val (.long q1), .second, .val (.long q2), .second, .val (.long q3), .second, .val (.long q4), .second, .val (.long q5), .second, .val (.long q6), .second, .val (.ref b1), .unset, .unset, .unset, .unset] [(.long q6), (.long q5), (.long q4), (.ref b2), (.ref b2)])) (fun tt_ kk_ => XS.lload X14.here hx rfl (hb hby at_21) rfl kk_) ?_
  obtain ⟨_, _, ⟨T15, L15, k15, n15⟩, -, X15, ⟨Lc15, hQ15, l15, y15, z15⟩, st15⟩ := X14.specialBack hx (y := (⟨"com/example/slackline/slackline/threequeue/Slots", "<init>", "(JJJ)V"⟩ : MethodName)) rfl hown (mvT hZ (hw _ (List.mem_of_getElem? (i := 3) rfl))) (mvT hZ (hw _ (List.mem_of_getElem? (i := 4) rfl))) (mvT hZ (hw _ (List.mem_of_getElem? (i := 5) rfl))) (by decide) (backOf (W := 1) (rm1 l Z a0 hw [] b2 q4 q5 q6 h14 n0 Zs F_b2_map F_b2_reduce F_b2_generic A_b2 f_b2) hZ (hw _ (List.mem_of_getElem? (i := 5) rfl)) (hw _ (List.mem_of_getElem? (i := 2) rfl)) (by decide) (by decide)) (g := (mkF m 23 #[.val (.long q1), .second, .val (.long q2), .second, .val (.long q3), .second, .val (.long q4), .second, .val (.long q5), .second, .val (.long q6), .second, .val (.ref b1), .unset, .unset, .unset, .unset] [(.long q6), (.long q5), (.long q4), (.ref b2), (.ref b2)])) rfl (by rw [hml]; rfl) (Steps.refl _) (a := b2) (argsL := [(.long q4), (.long q5), (.long q6)]) (rest := [(.ref b2)]) (lenOf pd_1 rfl) rfl (by show 2 * 0 + _ ≤ _; exact Nat.le_of_eq rfl) (hb hby at_23) (fun _ _ => ⟨rfl, e14, (by decide : 2 + 0 ≤ _), (by decide : 6 + 0 ≤ _)⟩)
  dsimp only [Pt.U, Pt.locs, Pt.cells, Pt.slots] at X15 l15 y15 z15 st15 hQ15
  subst l15 y15 z15
  obtain ⟨rfl, N15q, K15, E15x, G15map, G15reduce, G15generic⟩ := hQ15
  have N15 := Fr.app N13 N15q
  have Zs := Nat.le_trans Zs K15.1
  have A_b1 := Exa.keep A_b1 K15
  have F_b1_map := Fld.keep F_b1_map K15 (ninS ne_b1_b2 nin0)
  have F_b1_reduce := Fld.keep F_b1_reduce K15 (ninS ne_b1_b2 nin0)
  have F_b1_generic := Fld.keep F_b1_generic K15 (ninS ne_b1_b2 nin0)
  have A_b2 := Exa.keep A_b2 K15
  have F_b2_map := G15map
  have F_b2_reduce := G15reduce
  have F_b2_generic := G15generic
  refine Ends.to (T' := T15) (g' := (mkF m 26 #[.val (.long q1), .second, .val (.long q2), .second, .val (.long q3), .second, .val (.long q4), .second, .val (.long q5), .second, .val (.long q6), .second, .val (.ref b1), .unset, .unset, .unset, .unset] [(.ref b2)])) (fun tt_ kk_ => st15.trans kk_) ?_
  refine Ends.to (T' := T15) (g' := (mkF m 28 #[.val (.long q1), .second, .val (.long q2), .second, .val (.long q3), .second, .val (.long q4), .second, .val (.long q5), .second, .val (.long q6), .second, .val (.ref b1), .val (.ref b2), .unset, .unset, .unset] [])) (fun tt_ kk_ => XS.astore X15.here hx rfl (hb hby at_26) rfl rfl (l' := #[.val (.long q1), .second, .val (.long q2), .second, .val (.long q3), .second, .val (.long q4), .second, .val (.long q5), .second, .val (.long q6), .second, .val (.ref b1), .val (.ref b2), .unset, .unset, .unset]) rfl kk_) ?_
  refine Ends.to (T' := T15) (g' := (mkF m 29 #[.val (.long q1), .second, .val (.long q2), .second, .val (.long q3), .second, .val (.long q4), .second, .val (.long q5), .second, .val (.long q6), .second, .val (.ref b1), .val (.ref b2), .unset, .unset, .unset] [(.long q1)])) (fun tt_ kk_ => XS.lloadN X15.here hx rfl (hb hby at_28) rfl kk_) ?_
  refine Ends.to (T' := T15) (g' := (mkF m 31 #[.val (.long q1), .second, .val (.long q2), .second, .val (.long q3), .second, .val (.long q4), .second, .val (.long q5), .second, .val (.long q6), .second, .val (.ref b1), .val (.ref b2), .unset, .unset, .unset] [(.long q4), (.long q1)])) (fun tt_ kk_ => XS.lload X15.here hx rfl (hb hby at_29) rfl kk_) ?_
  obtain ⟨_, _, ⟨T16, L16, k16, n16⟩, -, X16, ⟨Lc16, hQ16, l16, y16, z16⟩, st16⟩ := Jvm.LawKit.callS X15 hx (y := (⟨"java/lang/Math", "max", "(JJ)J"⟩ : MethodName)) hown (mvT hZ (hw _ (List.mem_of_getElem? (i := 20) rfl))) (mvT hZ (hw _ (List.mem_of_getElem? (i := 21) rfl))) (mvT hZ (hw _ (List.mem_of_getElem? (i := 22) rfl))) (mvT hZ (hw _ (List.mem_of_getElem? (i := 23) rfl))) (by decide) (backOf (W := 0) (rm4 l Z a0 hw [] q1 q4 T15.heap n0 Zs) hZ (hw _ (List.mem_of_getElem? (i := 23) rfl)) (hw _ (List.mem_of_getElem? (i := 22) rfl)) (by decide) (by decide)) (g := (mkF m 31 #[.val (.long q1), .second, .val (.long q2), .second, .val (.long q3), .second, .val (.long q4), .second, .val (.long q5), .second, .val (.long q6), .second, .val (.ref b1), .val (.ref b2), .unset, .unset, .unset] [(.long q4), (.long q1)])) rfl (by rw [hml]; rfl) (argsL := [(.long q1), (.long q4)]) (rest := []) (lenOf pd_4 rfl) rfl (by show 2 * 0 + _ ≤ _; exact Nat.le_of_eq rfl) (hb hby at_31) (fun _ _ => ⟨rfl, rfl, (by decide : 2 + 0 ≤ _), (by decide : 6 + 0 ≤ _)⟩)
  dsimp only [Pt.U, Pt.locs, Pt.cells, Pt.slots] at X16 l16 y16 z16 st16 hQ16
  subst l16 y16 z16
  obtain ⟨rfl, N16q, e16q⟩ := hQ16
  have N16 := Fr.app N15 N16q
  refine Ends.to (T' := T16) (g' := (mkF m 34 #[.val (.long q1), .second, .val (.long q2), .second, .val (.long q3), .second, .val (.long q4), .second, .val (.long q5), .second, .val (.long q6), .second, .val (.ref b1), .val (.ref b2), .unset, .unset, .unset] [(.long (own_max q1 q4))])) (fun tt_ kk_ => st16 tt_ kk_) ?_
  refine Ends.to (T' := T16) (g' := (mkF m 36 #[.val (.long q1), .second, .val (.long q2), .second, .val (.long q3), .second, .val (.long q4), .second, .val (.long q5), .second, .val (.long q6), .second, .val (.ref b1), .val (.ref b2), .unset, .unset, .unset] [(.long q4), (.long (own_max q1 q4))])) (fun tt_ kk_ => XS.lload X16.here hx rfl (hb hby at_34) rfl kk_) ?_
  refine Ends.to (T' := T16) (g' := (mkF m 37 #[.val (.long q1), .second, .val (.long q2), .second, .val (.long q3), .second, .val (.long q4), .second, .val (.long q5), .second, .val (.long q6), .second, .val (.ref b1), .val (.ref b2), .unset, .unset, .unset] [(.int (lcmpW (own_max q1 q4) q4))])) (fun tt_ kk_ => XS.lcmp X16.here hx rfl (hb hby at_36) rfl kk_) ?_
  by_cases hc37 : (own_max q1 q4) = q4
  · refine Ends.to (T' := T16) (g' := (mkF m 40 #[.val (.long q1), .second, .val (.long q2), .second, .val (.long q3), .second, .val (.long q4), .second, .val (.long q5), .second, .val (.long q6), .second, .val (.ref b1), .val (.ref b2), .unset, .unset, .unset] [])) (fun tt_ kk_ => XS.ifNo X16.here hx rfl (hb hby at_37) rfl ((if0 _ _).trans (teq ((lw_eq _ _).mpr hc37)).2) kk_) ?_
    refine Ends.to (T' := T16) (g' := (mkF m 41 #[.val (.long q1), .second, .val (.long q2), .second, .val (.long q3), .second, .val (.long q4), .second, .val (.long q5), .second, .val (.long q6), .second, .val (.ref b1), .val (.ref b2), .unset, .unset, .unset] [(.long q2)])) (fun tt_ kk_ => XS.lloadN X16.here hx rfl (hb hby at_40) rfl kk_) ?_
    refine Ends.to (T' := T16) (g' := (mkF m 43 #[.val (.long q1), .second, .val (.long q2), .second, .val (.long q3), .second, .val (.long q4), .second, .val (.long q5), .second, .val (.long q6), .second, .val (.ref b1), .val (.ref b2), .unset, .unset, .unset] [(.long q5), (.long q2)])) (fun tt_ kk_ => XS.lload X16.here hx rfl (hb hby at_41) rfl kk_) ?_
    obtain ⟨_, _, ⟨T17, L17, k17, n17⟩, -, X17, ⟨Lc17, hQ17, l17, y17, z17⟩, st17⟩ := Jvm.LawKit.callS X16 hx (y := (⟨"java/lang/Math", "max", "(JJ)J"⟩ : MethodName)) hown (mvT hZ (hw _ (List.mem_of_getElem? (i := 20) rfl))) (mvT hZ (hw _ (List.mem_of_getElem? (i := 21) rfl))) (mvT hZ (hw _ (List.mem_of_getElem? (i := 22) rfl))) (mvT hZ (hw _ (List.mem_of_getElem? (i := 23) rfl))) (by decide) (backOf (W := 0) (rm4 l Z a0 hw [] q2 q5 T15.heap n0 Zs) hZ (hw _ (List.mem_of_getElem? (i := 23) rfl)) (hw _ (List.mem_of_getElem? (i := 22) rfl)) (by decide) (by decide)) (g := (mkF m 43 #[.val (.long q1), .second, .val (.long q2), .second, .val (.long q3), .second, .val (.long q4), .second, .val (.long q5), .second, .val (.long q6), .second, .val (.ref b1), .val (.ref b2), .unset, .unset, .unset] [(.long q5), (.long q2)])) rfl (by rw [hml]; rfl) (argsL := [(.long q2), (.long q5)]) (rest := []) (lenOf pd_4 rfl) rfl (by show 2 * 0 + _ ≤ _; exact Nat.le_of_eq rfl) (hb hby at_43) (fun _ _ => ⟨rfl, e16q, (by decide : 2 + 0 ≤ _), (by decide : 6 + 0 ≤ _)⟩)
    dsimp only [Pt.U, Pt.locs, Pt.cells, Pt.slots] at X17 l17 y17 z17 st17 hQ17
    subst l17 y17 z17
    obtain ⟨rfl, N17q, e17q⟩ := hQ17
    have N17 := Fr.app N16 N17q
    refine Ends.to (T' := T17) (g' := (mkF m 46 #[.val (.long q1), .second, .val (.long q2), .second, .val (.long q3), .second, .val (.long q4), .second, .val (.long q5), .second, .val (.long q6), .second, .val (.ref b1), .val (.ref b2), .unset, .unset, .unset] [(.long (own_max q2 q5))])) (fun tt_ kk_ => st17 tt_ kk_) ?_
    refine Ends.to (T' := T17) (g' := (mkF m 48 #[.val (.long q1), .second, .val (.long q2), .second, .val (.long q3), .second, .val (.long q4), .second, .val (.long q5), .second, .val (.long q6), .second, .val (.ref b1), .val (.ref b2), .unset, .unset, .unset] [(.long q5), (.long (own_max q2 q5))])) (fun tt_ kk_ => XS.lload X17.here hx rfl (hb hby at_46) rfl kk_) ?_
    refine Ends.to (T' := T17) (g' := (mkF m 49 #[.val (.long q1), .second, .val (.long q2), .second, .val (.long q3), .second, .val (.long q4), .second, .val (.long q5), .second, .val (.long q6), .second, .val (.ref b1), .val (.ref b2), .unset, .unset, .unset] [(.int (lcmpW (own_max q2 q5) q5))])) (fun tt_ kk_ => XS.lcmp X17.here hx rfl (hb hby at_48) rfl kk_) ?_
    by_cases hc49 : (own_max q2 q5) = q5
    · refine Ends.to (T' := T17) (g' := (mkF m 52 #[.val (.long q1), .second, .val (.long q2), .second, .val (.long q3), .second, .val (.long q4), .second, .val (.long q5), .second, .val (.long q6), .second, .val (.ref b1), .val (.ref b2), .unset, .unset, .unset] [])) (fun tt_ kk_ => XS.ifNo X17.here hx rfl (hb hby at_49) rfl ((if0 _ _).trans (teq ((lw_eq _ _).mpr hc49)).2) kk_) ?_
      refine Ends.to (T' := T17) (g' := (mkF m 54 #[.val (.long q1), .second, .val (.long q2), .second, .val (.long q3), .second, .val (.long q4), .second, .val (.long q5), .second, .val (.long q6), .second, .val (.ref b1), .val (.ref b2), .unset, .unset, .unset] [(.long q3)])) (fun tt_ kk_ => XS.lload X17.here hx rfl (hb hby at_52) rfl kk_) ?_
      refine Ends.to (T' := T17) (g' := (mkF m 56 #[.val (.long q1), .second, .val (.long q2), .second, .val (.long q3), .second, .val (.long q4), .second, .val (.long q5), .second, .val (.long q6), .second, .val (.ref b1), .val (.ref b2), .unset, .unset, .unset] [(.long q6), (.long q3)])) (fun tt_ kk_ => XS.lload X17.here hx rfl (hb hby at_54) rfl kk_) ?_
      obtain ⟨_, _, ⟨T18, L18, k18, n18⟩, -, X18, ⟨Lc18, hQ18, l18, y18, z18⟩, st18⟩ := Jvm.LawKit.callS X17 hx (y := (⟨"java/lang/Math", "max", "(JJ)J"⟩ : MethodName)) hown (mvT hZ (hw _ (List.mem_of_getElem? (i := 20) rfl))) (mvT hZ (hw _ (List.mem_of_getElem? (i := 21) rfl))) (mvT hZ (hw _ (List.mem_of_getElem? (i := 22) rfl))) (mvT hZ (hw _ (List.mem_of_getElem? (i := 23) rfl))) (by decide) (backOf (W := 0) (rm4 l Z a0 hw [] q3 q6 T15.heap n0 Zs) hZ (hw _ (List.mem_of_getElem? (i := 23) rfl)) (hw _ (List.mem_of_getElem? (i := 22) rfl)) (by decide) (by decide)) (g := (mkF m 56 #[.val (.long q1), .second, .val (.long q2), .second, .val (.long q3), .second, .val (.long q4), .second, .val (.long q5), .second, .val (.long q6), .second, .val (.ref b1), .val (.ref b2), .unset, .unset, .unset] [(.long q6), (.long q3)])) rfl (by rw [hml]; rfl) (argsL := [(.long q3), (.long q6)]) (rest := []) (lenOf pd_4 rfl) rfl (by show 2 * 0 + _ ≤ _; exact Nat.le_of_eq rfl) (hb hby at_56) (fun _ _ => ⟨rfl, e17q, (by decide : 2 + 0 ≤ _), (by decide : 6 + 0 ≤ _)⟩)
      dsimp only [Pt.U, Pt.locs, Pt.cells, Pt.slots] at X18 l18 y18 z18 st18 hQ18
      subst l18 y18 z18
      obtain ⟨rfl, N18q, e18q⟩ := hQ18
      have N18 := Fr.app N17 N18q
      refine Ends.to (T' := T18) (g' := (mkF m 59 #[.val (.long q1), .second, .val (.long q2), .second, .val (.long q3), .second, .val (.long q4), .second, .val (.long q5), .second, .val (.long q6), .second, .val (.ref b1), .val (.ref b2), .unset, .unset, .unset] [(.long (own_max q3 q6))])) (fun tt_ kk_ => st18 tt_ kk_) ?_
      refine Ends.to (T' := T18) (g' := (mkF m 61 #[.val (.long q1), .second, .val (.long q2), .second, .val (.long q3), .second, .val (.long q4), .second, .val (.long q5), .second, .val (.long q6), .second, .val (.ref b1), .val (.ref b2), .unset, .unset, .unset] [(.long q6), (.long (own_max q3 q6))])) (fun tt_ kk_ => XS.lload X18.here hx rfl (hb hby at_59) rfl kk_) ?_
      refine Ends.to (T' := T18) (g' := (mkF m 62 #[.val (.long q1), .second, .val (.long q2), .second, .val (.long q3), .second, .val (.long q4), .second, .val (.long q5), .second, .val (.long q6), .second, .val (.ref b1), .val (.ref b2), .unset, .unset, .unset] [(.int (lcmpW (own_max q3 q6) q6))])) (fun tt_ kk_ => XS.lcmp X18.here hx rfl (hb hby at_61) rfl kk_) ?_
      by_cases hc62 : (own_max q3 q6) = q6
      · refine Ends.to (T' := T18) (g' := (mkF m 65 #[.val (.long q1), .second, .val (.long q2), .second, .val (.long q3), .second, .val (.long q4), .second, .val (.long q5), .second, .val (.long q6), .second, .val (.ref b1), .val (.ref b2), .unset, .unset, .unset] [])) (fun tt_ kk_ => XS.ifNo X18.here hx rfl (hb hby at_62) rfl ((if0 _ _).trans (teq ((lw_eq _ _).mpr hc62)).2) kk_) ?_
        refine Ends.to (T' := T18) (g' := (mkF m 66 #[.val (.long q1), .second, .val (.long q2), .second, .val (.long q3), .second, .val (.long q4), .second, .val (.long q5), .second, .val (.long q6), .second, .val (.ref b1), .val (.ref b2), .unset, .unset, .unset] [(.int (1 : Int32))])) (fun tt_ kk_ => XS.iconst X18.here hx rfl (hb hby at_65) kk_) ?_
        refine Ends.to (T' := T18) (g' := (mkF m 70 #[.val (.long q1), .second, .val (.long q2), .second, .val (.long q3), .second, .val (.long q4), .second, .val (.long q5), .second, .val (.long q6), .second, .val (.ref b1), .val (.ref b2), .unset, .unset, .unset] [(.int (1 : Int32))])) (fun tt_ kk_ => XS.goto X18.here hx rfl (pc0 := 66) (pc' := 70) rfl (hb hby at_66) (by decide) (by decide) kk_) ?_
        refine Ends.to (T' := T18) (g' := (mkF m 72 #[.val (.long q1), .second, .val (.long q2), .second, .val (.long q3), .second, .val (.long q4), .second, .val (.long q5), .second, .val (.long q6), .second, .val (.ref b1), .val (.ref b2), .val (.int (1 : Int32)), .unset, .unset] [])) (fun tt_ kk_ => XS.istore X18.here hx rfl (hb hby at_70) rfl (l' := #[.val (.long q1), .second, .val (.long q2), .second, .val (.long q3), .second, .val (.long q4), .second, .val (.long q5), .second, .val (.long q6), .second, .val (.ref b1), .val (.ref b2), .val (.int (1 : Int32)), .unset, .unset]) rfl kk_) ?_
        refine Ends.to (T' := T18) (g' := (mkF m 74 #[.val (.long q1), .second, .val (.long q2), .second, .val (.long q3), .second, .val (.long q4), .second, .val (.long q5), .second, .val (.long q6), .second, .val (.ref b1), .val (.ref b2), .val (.int (1 : Int32)), .unset, .unset] [(.ref b1)])) (fun tt_ kk_ => XS.aload X18.here hx rfl (hb hby at_72) rfl rfl kk_) ?_
        refine Ends.to (T' := T18) (g' := (mkF m 76 #[.val (.long q1), .second, .val (.long q2), .second, .val (.long q3), .second, .val (.long q4), .second, .val (.long q5), .second, .val (.long q6), .second, .val (.ref b1), .val (.ref b2), .val (.int (1 : Int32)), .unset, .unset] [(.ref b2), (.ref b1)])) (fun tt_ kk_ => XS.aload X18.here hx rfl (hb hby at_74) rfl rfl kk_) ?_
        obtain ⟨cq19, kq19, q19a, q19b, q19c⟩ := isOf hZ e18q A_b1
        obtain ⟨_, _, ⟨T19, L19, k19, n19⟩, -, X19, ⟨Lc19, hQ19, l19, y19, z19⟩, st19⟩ := X18.virtualBack hx (y := (⟨"com/example/slackline/slackline/threequeue/Slots", "atMost", "(Lcom/example/slackline/slackline/threequeue/Slots;)Z"⟩ : MethodName)) (z := (⟨"com/example/slackline/slackline/threequeue/Slots", "atMost", "(Lcom/example/slackline/slackline/threequeue/Slots;)Z"⟩ : MethodName)) hown (mvT hZ (hw _ (List.mem_of_getElem? (i := 24) rfl))) (mvT hZ (hw _ (List.mem_of_getElem? (i := 25) rfl))) (notFace_of_selects (args := #[]) (mvT hZ (hw _ (List.mem_of_getElem? (i := 27) rfl)))) (mvT hZ (hw _ (List.mem_of_getElem? (i := 27) rfl))) (mvT hZ (hw _ (List.mem_of_getElem? (i := 26) rfl))) (by decide) (backOf (W := 0) (rm5 l Z a0 hw [] b1 b2 q1 q2 q3 q4 q5 q6 T15.heap n0 Zs F_b1_map F_b2_map F_b1_reduce F_b2_reduce F_b1_generic F_b2_generic) hZ (hw _ (List.mem_of_getElem? (i := 28) rfl)) (hw _ (List.mem_of_getElem? (i := 2) rfl)) (by decide) (by decide)) q19a q19c (g := (mkF m 76 #[.val (.long q1), .second, .val (.long q2), .second, .val (.long q3), .second, .val (.long q4), .second, .val (.long q5), .second, .val (.long q6), .second, .val (.ref b1), .val (.ref b2), .val (.int (1 : Int32)), .unset, .unset] [(.ref b2), (.ref b1)])) rfl (by rw [hml]; rfl) (Steps.refl _) (argsL := [(.ref b2)]) (rest := []) (lenOf pd_5 rfl) rfl (by show 2 * 0 + _ ≤ _; exact Nat.le_of_eq rfl) (hb hby at_76) (fun _ _ => ⟨rfl, e18q, (by decide : 2 + 0 ≤ _), (by decide : 6 + 0 ≤ _)⟩)
        dsimp only [Pt.U, Pt.locs, Pt.cells, Pt.slots] at X19 l19 y19 z19 st19 hQ19
        subst l19 y19 z19
        obtain ⟨rfl, N19q, e19q⟩ := hQ19
        have N19 := Fr.app N18 N19q
        refine Ends.to (T' := T19) (g' := (mkF m 79 #[.val (.long q1), .second, .val (.long q2), .second, .val (.long q3), .second, .val (.long q4), .second, .val (.long q5), .second, .val (.long q6), .second, .val (.ref b1), .val (.ref b2), .val (.int (1 : Int32)), .unset, .unset] [(.int (own_am q1 q2 q3 q4 q5 q6))])) (fun tt_ kk_ => st19.trans kk_) ?_
        refine Ends.to (T' := T19) (g' := (mkF m 81 #[.val (.long q1), .second, .val (.long q2), .second, .val (.long q3), .second, .val (.long q4), .second, .val (.long q5), .second, .val (.long q6), .second, .val (.ref b1), .val (.ref b2), .val (.int (1 : Int32)), .val (.int (own_am q1 q2 q3 q4 q5 q6)), .unset] [])) (fun tt_ kk_ => XS.istore X19.here hx rfl (hb hby at_79) rfl (l' := #[.val (.long q1), .second, .val (.long q2), .second, .val (.long q3), .second, .val (.long q4), .second, .val (.long q5), .second, .val (.long q6), .second, .val (.ref b1), .val (.ref b2), .val (.int (1 : Int32)), .val (.int (own_am q1 q2 q3 q4 q5 q6)), .unset]) rfl kk_) ?_
        refine Ends.to (T' := T19) (g' := (mkF m 83 #[.val (.long q1), .second, .val (.long q2), .second, .val (.long q3), .second, .val (.long q4), .second, .val (.long q5), .second, .val (.long q6), .second, .val (.ref b1), .val (.ref b2), .val (.int (1 : Int32)), .val (.int (own_am q1 q2 q3 q4 q5 q6)), .unset] [(.ref b1)])) (fun tt_ kk_ => XS.aload X19.here hx rfl (hb hby at_81) rfl rfl kk_) ?_
        refine Ends.to (T' := T19) (g' := (mkF m 85 #[.val (.long q1), .second, .val (.long q2), .second, .val (.long q3), .second, .val (.long q4), .second, .val (.long q5), .second, .val (.long q6), .second, .val (.ref b1), .val (.ref b2), .val (.int (1 : Int32)), .val (.int (own_am q1 q2 q3 q4 q5 q6)), .unset] [(.ref b1), (.ref b1)])) (fun tt_ kk_ => XS.aload X19.here hx rfl (hb hby at_83) rfl rfl kk_) ?_
        obtain ⟨cq20, kq20, q20a, q20b, q20c⟩ := isOf hZ e19q A_b1
        obtain ⟨_, _, ⟨T20, L20, k20, n20⟩, -, X20, ⟨Lc20, hQ20, l20, y20, z20⟩, st20⟩ := X19.virtualBack hx (y := (⟨"com/example/slackline/slackline/threequeue/Slots", "atMost", "(Lcom/example/slackline/slackline/threequeue/Slots;)Z"⟩ : MethodName)) (z := (⟨"com/example/slackline/slackline/threequeue/Slots", "atMost", "(Lcom/example/slackline/slackline/threequeue/Slots;)Z"⟩ : MethodName)) hown (mvT hZ (hw _ (List.mem_of_getElem? (i := 24) rfl))) (mvT hZ (hw _ (List.mem_of_getElem? (i := 25) rfl))) (notFace_of_selects (args := #[]) (mvT hZ (hw _ (List.mem_of_getElem? (i := 27) rfl)))) (mvT hZ (hw _ (List.mem_of_getElem? (i := 27) rfl))) (mvT hZ (hw _ (List.mem_of_getElem? (i := 26) rfl))) (by decide) (backOf (W := 0) (rm5 l Z a0 hw [] b1 b1 q1 q2 q3 q1 q2 q3 T15.heap n0 Zs F_b1_map F_b1_map F_b1_reduce F_b1_reduce F_b1_generic F_b1_generic) hZ (hw _ (List.mem_of_getElem? (i := 28) rfl)) (hw _ (List.mem_of_getElem? (i := 2) rfl)) (by decide) (by decide)) q20a q20c (g := (mkF m 85 #[.val (.long q1), .second, .val (.long q2), .second, .val (.long q3), .second, .val (.long q4), .second, .val (.long q5), .second, .val (.long q6), .second, .val (.ref b1), .val (.ref b2), .val (.int (1 : Int32)), .val (.int (own_am q1 q2 q3 q4 q5 q6)), .unset] [(.ref b1), (.ref b1)])) rfl (by rw [hml]; rfl) (Steps.refl _) (argsL := [(.ref b1)]) (rest := []) (lenOf pd_5 rfl) rfl (by show 2 * 0 + _ ≤ _; exact Nat.le_of_eq rfl) (hb hby at_85) (fun _ _ => ⟨rfl, e19q, (by decide : 2 + 0 ≤ _), (by decide : 6 + 0 ≤ _)⟩)
        dsimp only [Pt.U, Pt.locs, Pt.cells, Pt.slots] at X20 l20 y20 z20 st20 hQ20
        subst l20 y20 z20
        obtain ⟨rfl, N20q, e20q⟩ := hQ20
        have N20 := Fr.app N19 N20q
        refine Ends.to (T' := T20) (g' := (mkF m 88 #[.val (.long q1), .second, .val (.long q2), .second, .val (.long q3), .second, .val (.long q4), .second, .val (.long q5), .second, .val (.long q6), .second, .val (.ref b1), .val (.ref b2), .val (.int (1 : Int32)), .val (.int (own_am q1 q2 q3 q4 q5 q6)), .unset] [(.int (own_am q1 q2 q3 q1 q2 q3))])) (fun tt_ kk_ => st20.trans kk_) ?_
        refine Ends.to (T' := T20) (g' := (mkF m 90 #[.val (.long q1), .second, .val (.long q2), .second, .val (.long q3), .second, .val (.long q4), .second, .val (.long q5), .second, .val (.long q6), .second, .val (.ref b1), .val (.ref b2), .val (.int (1 : Int32)), .val (.int (own_am q1 q2 q3 q4 q5 q6)), .val (.int (own_am q1 q2 q3 q1 q2 q3))] [])) (fun tt_ kk_ => XS.istore X20.here hx rfl (hb hby at_88) rfl (l' := #[.val (.long q1), .second, .val (.long q2), .second, .val (.long q3), .second, .val (.long q4), .second, .val (.long q5), .second, .val (.long q6), .second, .val (.ref b1), .val (.ref b2), .val (.int (1 : Int32)), .val (.int (own_am q1 q2 q3 q4 q5 q6)), .val (.int (own_am q1 q2 q3 q1 q2 q3))]) rfl kk_) ?_
        refine Ends.to (T' := T20) (g' := (mkF m 92 #[.val (.long q1), .second, .val (.long q2), .second, .val (.long q3), .second, .val (.long q4), .second, .val (.long q5), .second, .val (.long q6), .second, .val (.ref b1), .val (.ref b2), .val (.int (1 : Int32)), .val (.int (own_am q1 q2 q3 q4 q5 q6)), .val (.int (own_am q1 q2 q3 q1 q2 q3))] [(.int (own_am q1 q2 q3 q4 q5 q6))])) (fun tt_ kk_ => XS.iload X20.here hx rfl (hb hby at_90) rfl kk_) ?_
        refine Ends.to (T' := T20) (g' := (mkF m 94 #[.val (.long q1), .second, .val (.long q2), .second, .val (.long q3), .second, .val (.long q4), .second, .val (.long q5), .second, .val (.long q6), .second, .val (.ref b1), .val (.ref b2), .val (.int (1 : Int32)), .val (.int (own_am q1 q2 q3 q4 q5 q6)), .val (.int (own_am q1 q2 q3 q1 q2 q3))] [(.int (1 : Int32)), (.int (own_am q1 q2 q3 q4 q5 q6))])) (fun tt_ kk_ => XS.iload X20.here hx rfl (hb hby at_92) rfl kk_) ?_
        refine Ends.to (T' := T20) (g' := (mkF m 97 #[.val (.long q1), .second, .val (.long q2), .second, .val (.long q3), .second, .val (.long q4), .second, .val (.long q5), .second, .val (.long q6), .second, .val (.ref b1), .val (.ref b2), .val (.int (1 : Int32)), .val (.int (own_am q1 q2 q3 q4 q5 q6)), .val (.int (own_am q1 q2 q3 q1 q2 q3))] [])) (fun tt_ kk_ => XS.icmpNo X20.here hx rfl (hb hby at_94) rfl (teq (by simp [own_am, own_max_eq.mp hc37, own_max_eq.mp hc49, own_max_eq.mp hc62])).2 kk_) ?_
        refine Ends.to (T' := T20) (g' := (mkF m 99 #[.val (.long q1), .second, .val (.long q2), .second, .val (.long q3), .second, .val (.long q4), .second, .val (.long q5), .second, .val (.long q6), .second, .val (.ref b1), .val (.ref b2), .val (.int (1 : Int32)), .val (.int (own_am q1 q2 q3 q4 q5 q6)), .val (.int (own_am q1 q2 q3 q1 q2 q3))] [(.int (own_am q1 q2 q3 q1 q2 q3))])) (fun tt_ kk_ => XS.iload X20.here hx rfl (hb hby at_97) rfl kk_) ?_
        refine Ends.to (T' := T20) (g' := (mkF m 102 #[.val (.long q1), .second, .val (.long q2), .second, .val (.long q3), .second, .val (.long q4), .second, .val (.long q5), .second, .val (.long q6), .second, .val (.ref b1), .val (.ref b2), .val (.int (1 : Int32)), .val (.int (own_am q1 q2 q3 q4 q5 q6)), .val (.int (own_am q1 q2 q3 q1 q2 q3))] [])) (fun tt_ kk_ => XS.ifNo X20.here hx rfl (hb hby at_99) rfl ((if0 _ _).trans (feq (own_am_self _ _ _)).1) kk_) ?_
        refine Ends.to (T' := T20) (g' := (mkF m 103 #[.val (.long q1), .second, .val (.long q2), .second, .val (.long q3), .second, .val (.long q4), .second, .val (.long q5), .second, .val (.long q6), .second, .val (.ref b1), .val (.ref b2), .val (.int (1 : Int32)), .val (.int (own_am q1 q2 q3 q4 q5 q6)), .val (.int (own_am q1 q2 q3 q1 q2 q3))] [(.int (1 : Int32))])) (fun tt_ kk_ => XS.iconst X20.here hx rfl (hb hby at_102) kk_) ?_
        refine Ends.to (T' := T20) (g' := (mkF m 107 #[.val (.long q1), .second, .val (.long q2), .second, .val (.long q3), .second, .val (.long q4), .second, .val (.long q5), .second, .val (.long q6), .second, .val (.ref b1), .val (.ref b2), .val (.int (1 : Int32)), .val (.int (own_am q1 q2 q3 q4 q5 q6)), .val (.int (own_am q1 q2 q3 q1 q2 q3))] [(.int (1 : Int32))])) (fun tt_ kk_ => XS.goto X20.here hx rfl (pc0 := 103) (pc' := 107) rfl (hb hby at_103) (by decide) (by decide) kk_) ?_
        exact Ends.retN (t := .boolean) (by simp) X20 hx hret (hb hby at_107) hlk (by decide) (by decide) ⟨by decide, N20⟩
      · refine Ends.to (T' := T18) (g' := (mkF m 69 #[.val (.long q1), .second, .val (.long q2), .second, .val (.long q3), .second, .val (.long q4), .second, .val (.long q5), .second, .val (.long q6), .second, .val (.ref b1), .val (.ref b2), .unset, .unset, .unset] [])) (fun tt_ kk_ => XS.ifYes X18.here hx rfl (pc0 := 62) (pc' := 69) rfl (hb hby at_62) rfl ((if0 _ _).trans (feq (fun q => hc62 ((lw_eq _ _).mp q))).2) (by decide) (by decide) kk_) ?_
        refine Ends.to (T' := T18) (g' := (mkF m 70 #[.val (.long q1), .second, .val (.long q2), .second, .val (.long q3), .second, .val (.long q4), .second, .val (.long q5), .second, .val (.long q6), .second, .val (.ref b1), .val (.ref b2), .unset, .unset, .unset] [(.int (0 : Int32))])) (fun tt_ kk_ => XS.iconst X18.here hx rfl (hb hby at_69) kk_) ?_
        refine Ends.to (T' := T18) (g' := (mkF m 72 #[.val (.long q1), .second, .val (.long q2), .second, .val (.long q3), .second, .val (.long q4), .second, .val (.long q5), .second, .val (.long q6), .second, .val (.ref b1), .val (.ref b2), .val (.int (0 : Int32)), .unset, .unset] [])) (fun tt_ kk_ => XS.istore X18.here hx rfl (hb hby at_70) rfl (l' := #[.val (.long q1), .second, .val (.long q2), .second, .val (.long q3), .second, .val (.long q4), .second, .val (.long q5), .second, .val (.long q6), .second, .val (.ref b1), .val (.ref b2), .val (.int (0 : Int32)), .unset, .unset]) rfl kk_) ?_
        refine Ends.to (T' := T18) (g' := (mkF m 74 #[.val (.long q1), .second, .val (.long q2), .second, .val (.long q3), .second, .val (.long q4), .second, .val (.long q5), .second, .val (.long q6), .second, .val (.ref b1), .val (.ref b2), .val (.int (0 : Int32)), .unset, .unset] [(.ref b1)])) (fun tt_ kk_ => XS.aload X18.here hx rfl (hb hby at_72) rfl rfl kk_) ?_
        refine Ends.to (T' := T18) (g' := (mkF m 76 #[.val (.long q1), .second, .val (.long q2), .second, .val (.long q3), .second, .val (.long q4), .second, .val (.long q5), .second, .val (.long q6), .second, .val (.ref b1), .val (.ref b2), .val (.int (0 : Int32)), .unset, .unset] [(.ref b2), (.ref b1)])) (fun tt_ kk_ => XS.aload X18.here hx rfl (hb hby at_74) rfl rfl kk_) ?_
        obtain ⟨cq21, kq21, q21a, q21b, q21c⟩ := isOf hZ e18q A_b1
        obtain ⟨_, _, ⟨T21, L21, k21, n21⟩, -, X21, ⟨Lc21, hQ21, l21, y21, z21⟩, st21⟩ := X18.virtualBack hx (y := (⟨"com/example/slackline/slackline/threequeue/Slots", "atMost", "(Lcom/example/slackline/slackline/threequeue/Slots;)Z"⟩ : MethodName)) (z := (⟨"com/example/slackline/slackline/threequeue/Slots", "atMost", "(Lcom/example/slackline/slackline/threequeue/Slots;)Z"⟩ : MethodName)) hown (mvT hZ (hw _ (List.mem_of_getElem? (i := 24) rfl))) (mvT hZ (hw _ (List.mem_of_getElem? (i := 25) rfl))) (notFace_of_selects (args := #[]) (mvT hZ (hw _ (List.mem_of_getElem? (i := 27) rfl)))) (mvT hZ (hw _ (List.mem_of_getElem? (i := 27) rfl))) (mvT hZ (hw _ (List.mem_of_getElem? (i := 26) rfl))) (by decide) (backOf (W := 0) (rm5 l Z a0 hw [] b1 b2 q1 q2 q3 q4 q5 q6 T15.heap n0 Zs F_b1_map F_b2_map F_b1_reduce F_b2_reduce F_b1_generic F_b2_generic) hZ (hw _ (List.mem_of_getElem? (i := 28) rfl)) (hw _ (List.mem_of_getElem? (i := 2) rfl)) (by decide) (by decide)) q21a q21c (g := (mkF m 76 #[.val (.long q1), .second, .val (.long q2), .second, .val (.long q3), .second, .val (.long q4), .second, .val (.long q5), .second, .val (.long q6), .second, .val (.ref b1), .val (.ref b2), .val (.int (0 : Int32)), .unset, .unset] [(.ref b2), (.ref b1)])) rfl (by rw [hml]; rfl) (Steps.refl _) (argsL := [(.ref b2)]) (rest := []) (lenOf pd_5 rfl) rfl (by show 2 * 0 + _ ≤ _; exact Nat.le_of_eq rfl) (hb hby at_76) (fun _ _ => ⟨rfl, e18q, (by decide : 2 + 0 ≤ _), (by decide : 6 + 0 ≤ _)⟩)
        dsimp only [Pt.U, Pt.locs, Pt.cells, Pt.slots] at X21 l21 y21 z21 st21 hQ21
        subst l21 y21 z21
        obtain ⟨rfl, N21q, e21q⟩ := hQ21
        have N21 := Fr.app N18 N21q
        refine Ends.to (T' := T21) (g' := (mkF m 79 #[.val (.long q1), .second, .val (.long q2), .second, .val (.long q3), .second, .val (.long q4), .second, .val (.long q5), .second, .val (.long q6), .second, .val (.ref b1), .val (.ref b2), .val (.int (0 : Int32)), .unset, .unset] [(.int (own_am q1 q2 q3 q4 q5 q6))])) (fun tt_ kk_ => st21.trans kk_) ?_
        refine Ends.to (T' := T21) (g' := (mkF m 81 #[.val (.long q1), .second, .val (.long q2), .second, .val (.long q3), .second, .val (.long q4), .second, .val (.long q5), .second, .val (.long q6), .second, .val (.ref b1), .val (.ref b2), .val (.int (0 : Int32)), .val (.int (own_am q1 q2 q3 q4 q5 q6)), .unset] [])) (fun tt_ kk_ => XS.istore X21.here hx rfl (hb hby at_79) rfl (l' := #[.val (.long q1), .second, .val (.long q2), .second, .val (.long q3), .second, .val (.long q4), .second, .val (.long q5), .second, .val (.long q6), .second, .val (.ref b1), .val (.ref b2), .val (.int (0 : Int32)), .val (.int (own_am q1 q2 q3 q4 q5 q6)), .unset]) rfl kk_) ?_
        refine Ends.to (T' := T21) (g' := (mkF m 83 #[.val (.long q1), .second, .val (.long q2), .second, .val (.long q3), .second, .val (.long q4), .second, .val (.long q5), .second, .val (.long q6), .second, .val (.ref b1), .val (.ref b2), .val (.int (0 : Int32)), .val (.int (own_am q1 q2 q3 q4 q5 q6)), .unset] [(.ref b1)])) (fun tt_ kk_ => XS.aload X21.here hx rfl (hb hby at_81) rfl rfl kk_) ?_
        refine Ends.to (T' := T21) (g' := (mkF m 85 #[.val (.long q1), .second, .val (.long q2), .second, .val (.long q3), .second, .val (.long q4), .second, .val (.long q5), .second, .val (.long q6), .second, .val (.ref b1), .val (.ref b2), .val (.int (0 : Int32)), .val (.int (own_am q1 q2 q3 q4 q5 q6)), .unset] [(.ref b1), (.ref b1)])) (fun tt_ kk_ => XS.aload X21.here hx rfl (hb hby at_83) rfl rfl kk_) ?_
        obtain ⟨cq22, kq22, q22a, q22b, q22c⟩ := isOf hZ e21q A_b1
        obtain ⟨_, _, ⟨T22, L22, k22, n22⟩, -, X22, ⟨Lc22, hQ22, l22, y22, z22⟩, st22⟩ := X21.virtualBack hx (y := (⟨"com/example/slackline/slackline/threequeue/Slots", "atMost", "(Lcom/example/slackline/slackline/threequeue/Slots;)Z"⟩ : MethodName)) (z := (⟨"com/example/slackline/slackline/threequeue/Slots", "atMost", "(Lcom/example/slackline/slackline/threequeue/Slots;)Z"⟩ : MethodName)) hown (mvT hZ (hw _ (List.mem_of_getElem? (i := 24) rfl))) (mvT hZ (hw _ (List.mem_of_getElem? (i := 25) rfl))) (notFace_of_selects (args := #[]) (mvT hZ (hw _ (List.mem_of_getElem? (i := 27) rfl)))) (mvT hZ (hw _ (List.mem_of_getElem? (i := 27) rfl))) (mvT hZ (hw _ (List.mem_of_getElem? (i := 26) rfl))) (by decide) (backOf (W := 0) (rm5 l Z a0 hw [] b1 b1 q1 q2 q3 q1 q2 q3 T15.heap n0 Zs F_b1_map F_b1_map F_b1_reduce F_b1_reduce F_b1_generic F_b1_generic) hZ (hw _ (List.mem_of_getElem? (i := 28) rfl)) (hw _ (List.mem_of_getElem? (i := 2) rfl)) (by decide) (by decide)) q22a q22c (g := (mkF m 85 #[.val (.long q1), .second, .val (.long q2), .second, .val (.long q3), .second, .val (.long q4), .second, .val (.long q5), .second, .val (.long q6), .second, .val (.ref b1), .val (.ref b2), .val (.int (0 : Int32)), .val (.int (own_am q1 q2 q3 q4 q5 q6)), .unset] [(.ref b1), (.ref b1)])) rfl (by rw [hml]; rfl) (Steps.refl _) (argsL := [(.ref b1)]) (rest := []) (lenOf pd_5 rfl) rfl (by show 2 * 0 + _ ≤ _; exact Nat.le_of_eq rfl) (hb hby at_85) (fun _ _ => ⟨rfl, e21q, (by decide : 2 + 0 ≤ _), (by decide : 6 + 0 ≤ _)⟩)
        dsimp only [Pt.U, Pt.locs, Pt.cells, Pt.slots] at X22 l22 y22 z22 st22 hQ22
        subst l22 y22 z22
        obtain ⟨rfl, N22q, e22q⟩ := hQ22
        have N22 := Fr.app N21 N22q
        refine Ends.to (T' := T22) (g' := (mkF m 88 #[.val (.long q1), .second, .val (.long q2), .second, .val (.long q3), .second, .val (.long q4), .second, .val (.long q5), .second, .val (.long q6), .second, .val (.ref b1), .val (.ref b2), .val (.int (0 : Int32)), .val (.int (own_am q1 q2 q3 q4 q5 q6)), .unset] [(.int (own_am q1 q2 q3 q1 q2 q3))])) (fun tt_ kk_ => st22.trans kk_) ?_
        refine Ends.to (T' := T22) (g' := (mkF m 90 #[.val (.long q1), .second, .val (.long q2), .second, .val (.long q3), .second, .val (.long q4), .second, .val (.long q5), .second, .val (.long q6), .second, .val (.ref b1), .val (.ref b2), .val (.int (0 : Int32)), .val (.int (own_am q1 q2 q3 q4 q5 q6)), .val (.int (own_am q1 q2 q3 q1 q2 q3))] [])) (fun tt_ kk_ => XS.istore X22.here hx rfl (hb hby at_88) rfl (l' := #[.val (.long q1), .second, .val (.long q2), .second, .val (.long q3), .second, .val (.long q4), .second, .val (.long q5), .second, .val (.long q6), .second, .val (.ref b1), .val (.ref b2), .val (.int (0 : Int32)), .val (.int (own_am q1 q2 q3 q4 q5 q6)), .val (.int (own_am q1 q2 q3 q1 q2 q3))]) rfl kk_) ?_
        refine Ends.to (T' := T22) (g' := (mkF m 92 #[.val (.long q1), .second, .val (.long q2), .second, .val (.long q3), .second, .val (.long q4), .second, .val (.long q5), .second, .val (.long q6), .second, .val (.ref b1), .val (.ref b2), .val (.int (0 : Int32)), .val (.int (own_am q1 q2 q3 q4 q5 q6)), .val (.int (own_am q1 q2 q3 q1 q2 q3))] [(.int (own_am q1 q2 q3 q4 q5 q6))])) (fun tt_ kk_ => XS.iload X22.here hx rfl (hb hby at_90) rfl kk_) ?_
        refine Ends.to (T' := T22) (g' := (mkF m 94 #[.val (.long q1), .second, .val (.long q2), .second, .val (.long q3), .second, .val (.long q4), .second, .val (.long q5), .second, .val (.long q6), .second, .val (.ref b1), .val (.ref b2), .val (.int (0 : Int32)), .val (.int (own_am q1 q2 q3 q4 q5 q6)), .val (.int (own_am q1 q2 q3 q1 q2 q3))] [(.int (0 : Int32)), (.int (own_am q1 q2 q3 q4 q5 q6))])) (fun tt_ kk_ => XS.iload X22.here hx rfl (hb hby at_92) rfl kk_) ?_
        refine Ends.to (T' := T22) (g' := (mkF m 97 #[.val (.long q1), .second, .val (.long q2), .second, .val (.long q3), .second, .val (.long q4), .second, .val (.long q5), .second, .val (.long q6), .second, .val (.ref b1), .val (.ref b2), .val (.int (0 : Int32)), .val (.int (own_am q1 q2 q3 q4 q5 q6)), .val (.int (own_am q1 q2 q3 q1 q2 q3))] [])) (fun tt_ kk_ => XS.icmpNo X22.here hx rfl (hb hby at_94) rfl (teq (by simp [own_am, own_max_eq.mp hc37, own_max_eq.mp hc49, Decidable.not_not.mp (fun q => hc62 (own_max_eq.mpr q))])).2 kk_) ?_
        refine Ends.to (T' := T22) (g' := (mkF m 99 #[.val (.long q1), .second, .val (.long q2), .second, .val (.long q3), .second, .val (.long q4), .second, .val (.long q5), .second, .val (.long q6), .second, .val (.ref b1), .val (.ref b2), .val (.int (0 : Int32)), .val (.int (own_am q1 q2 q3 q4 q5 q6)), .val (.int (own_am q1 q2 q3 q1 q2 q3))] [(.int (own_am q1 q2 q3 q1 q2 q3))])) (fun tt_ kk_ => XS.iload X22.here hx rfl (hb hby at_97) rfl kk_) ?_
        refine Ends.to (T' := T22) (g' := (mkF m 102 #[.val (.long q1), .second, .val (.long q2), .second, .val (.long q3), .second, .val (.long q4), .second, .val (.long q5), .second, .val (.long q6), .second, .val (.ref b1), .val (.ref b2), .val (.int (0 : Int32)), .val (.int (own_am q1 q2 q3 q4 q5 q6)), .val (.int (own_am q1 q2 q3 q1 q2 q3))] [])) (fun tt_ kk_ => XS.ifNo X22.here hx rfl (hb hby at_99) rfl ((if0 _ _).trans (feq (own_am_self _ _ _)).1) kk_) ?_
        refine Ends.to (T' := T22) (g' := (mkF m 103 #[.val (.long q1), .second, .val (.long q2), .second, .val (.long q3), .second, .val (.long q4), .second, .val (.long q5), .second, .val (.long q6), .second, .val (.ref b1), .val (.ref b2), .val (.int (0 : Int32)), .val (.int (own_am q1 q2 q3 q4 q5 q6)), .val (.int (own_am q1 q2 q3 q1 q2 q3))] [(.int (1 : Int32))])) (fun tt_ kk_ => XS.iconst X22.here hx rfl (hb hby at_102) kk_) ?_
        refine Ends.to (T' := T22) (g' := (mkF m 107 #[.val (.long q1), .second, .val (.long q2), .second, .val (.long q3), .second, .val (.long q4), .second, .val (.long q5), .second, .val (.long q6), .second, .val (.ref b1), .val (.ref b2), .val (.int (0 : Int32)), .val (.int (own_am q1 q2 q3 q4 q5 q6)), .val (.int (own_am q1 q2 q3 q1 q2 q3))] [(.int (1 : Int32))])) (fun tt_ kk_ => XS.goto X22.here hx rfl (pc0 := 103) (pc' := 107) rfl (hb hby at_103) (by decide) (by decide) kk_) ?_
        exact Ends.retN (t := .boolean) (by simp) X22 hx hret (hb hby at_107) hlk (by decide) (by decide) ⟨by decide, N22⟩
    · refine Ends.to (T' := T17) (g' := (mkF m 69 #[.val (.long q1), .second, .val (.long q2), .second, .val (.long q3), .second, .val (.long q4), .second, .val (.long q5), .second, .val (.long q6), .second, .val (.ref b1), .val (.ref b2), .unset, .unset, .unset] [])) (fun tt_ kk_ => XS.ifYes X17.here hx rfl (pc0 := 49) (pc' := 69) rfl (hb hby at_49) rfl ((if0 _ _).trans (feq (fun q => hc49 ((lw_eq _ _).mp q))).2) (by decide) (by decide) kk_) ?_
      refine Ends.to (T' := T17) (g' := (mkF m 70 #[.val (.long q1), .second, .val (.long q2), .second, .val (.long q3), .second, .val (.long q4), .second, .val (.long q5), .second, .val (.long q6), .second, .val (.ref b1), .val (.ref b2), .unset, .unset, .unset] [(.int (0 : Int32))])) (fun tt_ kk_ => XS.iconst X17.here hx rfl (hb hby at_69) kk_) ?_
      refine Ends.to (T' := T17) (g' := (mkF m 72 #[.val (.long q1), .second, .val (.long q2), .second, .val (.long q3), .second, .val (.long q4), .second, .val (.long q5), .second, .val (.long q6), .second, .val (.ref b1), .val (.ref b2), .val (.int (0 : Int32)), .unset, .unset] [])) (fun tt_ kk_ => XS.istore X17.here hx rfl (hb hby at_70) rfl (l' := #[.val (.long q1), .second, .val (.long q2), .second, .val (.long q3), .second, .val (.long q4), .second, .val (.long q5), .second, .val (.long q6), .second, .val (.ref b1), .val (.ref b2), .val (.int (0 : Int32)), .unset, .unset]) rfl kk_) ?_
      refine Ends.to (T' := T17) (g' := (mkF m 74 #[.val (.long q1), .second, .val (.long q2), .second, .val (.long q3), .second, .val (.long q4), .second, .val (.long q5), .second, .val (.long q6), .second, .val (.ref b1), .val (.ref b2), .val (.int (0 : Int32)), .unset, .unset] [(.ref b1)])) (fun tt_ kk_ => XS.aload X17.here hx rfl (hb hby at_72) rfl rfl kk_) ?_
      refine Ends.to (T' := T17) (g' := (mkF m 76 #[.val (.long q1), .second, .val (.long q2), .second, .val (.long q3), .second, .val (.long q4), .second, .val (.long q5), .second, .val (.long q6), .second, .val (.ref b1), .val (.ref b2), .val (.int (0 : Int32)), .unset, .unset] [(.ref b2), (.ref b1)])) (fun tt_ kk_ => XS.aload X17.here hx rfl (hb hby at_74) rfl rfl kk_) ?_
      obtain ⟨cq23, kq23, q23a, q23b, q23c⟩ := isOf hZ e17q A_b1
      obtain ⟨_, _, ⟨T23, L23, k23, n23⟩, -, X23, ⟨Lc23, hQ23, l23, y23, z23⟩, st23⟩ := X17.virtualBack hx (y := (⟨"com/example/slackline/slackline/threequeue/Slots", "atMost", "(Lcom/example/slackline/slackline/threequeue/Slots;)Z"⟩ : MethodName)) (z := (⟨"com/example/slackline/slackline/threequeue/Slots", "atMost", "(Lcom/example/slackline/slackline/threequeue/Slots;)Z"⟩ : MethodName)) hown (mvT hZ (hw _ (List.mem_of_getElem? (i := 24) rfl))) (mvT hZ (hw _ (List.mem_of_getElem? (i := 25) rfl))) (notFace_of_selects (args := #[]) (mvT hZ (hw _ (List.mem_of_getElem? (i := 27) rfl)))) (mvT hZ (hw _ (List.mem_of_getElem? (i := 27) rfl))) (mvT hZ (hw _ (List.mem_of_getElem? (i := 26) rfl))) (by decide) (backOf (W := 0) (rm5 l Z a0 hw [] b1 b2 q1 q2 q3 q4 q5 q6 T15.heap n0 Zs F_b1_map F_b2_map F_b1_reduce F_b2_reduce F_b1_generic F_b2_generic) hZ (hw _ (List.mem_of_getElem? (i := 28) rfl)) (hw _ (List.mem_of_getElem? (i := 2) rfl)) (by decide) (by decide)) q23a q23c (g := (mkF m 76 #[.val (.long q1), .second, .val (.long q2), .second, .val (.long q3), .second, .val (.long q4), .second, .val (.long q5), .second, .val (.long q6), .second, .val (.ref b1), .val (.ref b2), .val (.int (0 : Int32)), .unset, .unset] [(.ref b2), (.ref b1)])) rfl (by rw [hml]; rfl) (Steps.refl _) (argsL := [(.ref b2)]) (rest := []) (lenOf pd_5 rfl) rfl (by show 2 * 0 + _ ≤ _; exact Nat.le_of_eq rfl) (hb hby at_76) (fun _ _ => ⟨rfl, e17q, (by decide : 2 + 0 ≤ _), (by decide : 6 + 0 ≤ _)⟩)
      dsimp only [Pt.U, Pt.locs, Pt.cells, Pt.slots] at X23 l23 y23 z23 st23 hQ23
      subst l23 y23 z23
      obtain ⟨rfl, N23q, e23q⟩ := hQ23
      have N23 := Fr.app N17 N23q
      refine Ends.to (T' := T23) (g' := (mkF m 79 #[.val (.long q1), .second, .val (.long q2), .second, .val (.long q3), .second, .val (.long q4), .second, .val (.long q5), .second, .val (.long q6), .second, .val (.ref b1), .val (.ref b2), .val (.int (0 : Int32)), .unset, .unset] [(.int (own_am q1 q2 q3 q4 q5 q6))])) (fun tt_ kk_ => st23.trans kk_) ?_
      refine Ends.to (T' := T23) (g' := (mkF m 81 #[.val (.long q1), .second, .val (.long q2), .second, .val (.long q3), .second, .val (.long q4), .second, .val (.long q5), .second, .val (.long q6), .second, .val (.ref b1), .val (.ref b2), .val (.int (0 : Int32)), .val (.int (own_am q1 q2 q3 q4 q5 q6)), .unset] [])) (fun tt_ kk_ => XS.istore X23.here hx rfl (hb hby at_79) rfl (l' := #[.val (.long q1), .second, .val (.long q2), .second, .val (.long q3), .second, .val (.long q4), .second, .val (.long q5), .second, .val (.long q6), .second, .val (.ref b1), .val (.ref b2), .val (.int (0 : Int32)), .val (.int (own_am q1 q2 q3 q4 q5 q6)), .unset]) rfl kk_) ?_
      refine Ends.to (T' := T23) (g' := (mkF m 83 #[.val (.long q1), .second, .val (.long q2), .second, .val (.long q3), .second, .val (.long q4), .second, .val (.long q5), .second, .val (.long q6), .second, .val (.ref b1), .val (.ref b2), .val (.int (0 : Int32)), .val (.int (own_am q1 q2 q3 q4 q5 q6)), .unset] [(.ref b1)])) (fun tt_ kk_ => XS.aload X23.here hx rfl (hb hby at_81) rfl rfl kk_) ?_
      refine Ends.to (T' := T23) (g' := (mkF m 85 #[.val (.long q1), .second, .val (.long q2), .second, .val (.long q3), .second, .val (.long q4), .second, .val (.long q5), .second, .val (.long q6), .second, .val (.ref b1), .val (.ref b2), .val (.int (0 : Int32)), .val (.int (own_am q1 q2 q3 q4 q5 q6)), .unset] [(.ref b1), (.ref b1)])) (fun tt_ kk_ => XS.aload X23.here hx rfl (hb hby at_83) rfl rfl kk_) ?_
      obtain ⟨cq24, kq24, q24a, q24b, q24c⟩ := isOf hZ e23q A_b1
      obtain ⟨_, _, ⟨T24, L24, k24, n24⟩, -, X24, ⟨Lc24, hQ24, l24, y24, z24⟩, st24⟩ := X23.virtualBack hx (y := (⟨"com/example/slackline/slackline/threequeue/Slots", "atMost", "(Lcom/example/slackline/slackline/threequeue/Slots;)Z"⟩ : MethodName)) (z := (⟨"com/example/slackline/slackline/threequeue/Slots", "atMost", "(Lcom/example/slackline/slackline/threequeue/Slots;)Z"⟩ : MethodName)) hown (mvT hZ (hw _ (List.mem_of_getElem? (i := 24) rfl))) (mvT hZ (hw _ (List.mem_of_getElem? (i := 25) rfl))) (notFace_of_selects (args := #[]) (mvT hZ (hw _ (List.mem_of_getElem? (i := 27) rfl)))) (mvT hZ (hw _ (List.mem_of_getElem? (i := 27) rfl))) (mvT hZ (hw _ (List.mem_of_getElem? (i := 26) rfl))) (by decide) (backOf (W := 0) (rm5 l Z a0 hw [] b1 b1 q1 q2 q3 q1 q2 q3 T15.heap n0 Zs F_b1_map F_b1_map F_b1_reduce F_b1_reduce F_b1_generic F_b1_generic) hZ (hw _ (List.mem_of_getElem? (i := 28) rfl)) (hw _ (List.mem_of_getElem? (i := 2) rfl)) (by decide) (by decide)) q24a q24c (g := (mkF m 85 #[.val (.long q1), .second, .val (.long q2), .second, .val (.long q3), .second, .val (.long q4), .second, .val (.long q5), .second, .val (.long q6), .second, .val (.ref b1), .val (.ref b2), .val (.int (0 : Int32)), .val (.int (own_am q1 q2 q3 q4 q5 q6)), .unset] [(.ref b1), (.ref b1)])) rfl (by rw [hml]; rfl) (Steps.refl _) (argsL := [(.ref b1)]) (rest := []) (lenOf pd_5 rfl) rfl (by show 2 * 0 + _ ≤ _; exact Nat.le_of_eq rfl) (hb hby at_85) (fun _ _ => ⟨rfl, e23q, (by decide : 2 + 0 ≤ _), (by decide : 6 + 0 ≤ _)⟩)
      dsimp only [Pt.U, Pt.locs, Pt.cells, Pt.slots] at X24 l24 y24 z24 st24 hQ24
      subst l24 y24 z24
      obtain ⟨rfl, N24q, e24q⟩ := hQ24
      have N24 := Fr.app N23 N24q
      refine Ends.to (T' := T24) (g' := (mkF m 88 #[.val (.long q1), .second, .val (.long q2), .second, .val (.long q3), .second, .val (.long q4), .second, .val (.long q5), .second, .val (.long q6), .second, .val (.ref b1), .val (.ref b2), .val (.int (0 : Int32)), .val (.int (own_am q1 q2 q3 q4 q5 q6)), .unset] [(.int (own_am q1 q2 q3 q1 q2 q3))])) (fun tt_ kk_ => st24.trans kk_) ?_
      refine Ends.to (T' := T24) (g' := (mkF m 90 #[.val (.long q1), .second, .val (.long q2), .second, .val (.long q3), .second, .val (.long q4), .second, .val (.long q5), .second, .val (.long q6), .second, .val (.ref b1), .val (.ref b2), .val (.int (0 : Int32)), .val (.int (own_am q1 q2 q3 q4 q5 q6)), .val (.int (own_am q1 q2 q3 q1 q2 q3))] [])) (fun tt_ kk_ => XS.istore X24.here hx rfl (hb hby at_88) rfl (l' := #[.val (.long q1), .second, .val (.long q2), .second, .val (.long q3), .second, .val (.long q4), .second, .val (.long q5), .second, .val (.long q6), .second, .val (.ref b1), .val (.ref b2), .val (.int (0 : Int32)), .val (.int (own_am q1 q2 q3 q4 q5 q6)), .val (.int (own_am q1 q2 q3 q1 q2 q3))]) rfl kk_) ?_
      refine Ends.to (T' := T24) (g' := (mkF m 92 #[.val (.long q1), .second, .val (.long q2), .second, .val (.long q3), .second, .val (.long q4), .second, .val (.long q5), .second, .val (.long q6), .second, .val (.ref b1), .val (.ref b2), .val (.int (0 : Int32)), .val (.int (own_am q1 q2 q3 q4 q5 q6)), .val (.int (own_am q1 q2 q3 q1 q2 q3))] [(.int (own_am q1 q2 q3 q4 q5 q6))])) (fun tt_ kk_ => XS.iload X24.here hx rfl (hb hby at_90) rfl kk_) ?_
      refine Ends.to (T' := T24) (g' := (mkF m 94 #[.val (.long q1), .second, .val (.long q2), .second, .val (.long q3), .second, .val (.long q4), .second, .val (.long q5), .second, .val (.long q6), .second, .val (.ref b1), .val (.ref b2), .val (.int (0 : Int32)), .val (.int (own_am q1 q2 q3 q4 q5 q6)), .val (.int (own_am q1 q2 q3 q1 q2 q3))] [(.int (0 : Int32)), (.int (own_am q1 q2 q3 q4 q5 q6))])) (fun tt_ kk_ => XS.iload X24.here hx rfl (hb hby at_92) rfl kk_) ?_
      refine Ends.to (T' := T24) (g' := (mkF m 97 #[.val (.long q1), .second, .val (.long q2), .second, .val (.long q3), .second, .val (.long q4), .second, .val (.long q5), .second, .val (.long q6), .second, .val (.ref b1), .val (.ref b2), .val (.int (0 : Int32)), .val (.int (own_am q1 q2 q3 q4 q5 q6)), .val (.int (own_am q1 q2 q3 q1 q2 q3))] [])) (fun tt_ kk_ => XS.icmpNo X24.here hx rfl (hb hby at_94) rfl (teq (by simp [own_am, own_max_eq.mp hc37, Decidable.not_not.mp (fun q => hc49 (own_max_eq.mpr q))])).2 kk_) ?_
      refine Ends.to (T' := T24) (g' := (mkF m 99 #[.val (.long q1), .second, .val (.long q2), .second, .val (.long q3), .second, .val (.long q4), .second, .val (.long q5), .second, .val (.long q6), .second, .val (.ref b1), .val (.ref b2), .val (.int (0 : Int32)), .val (.int (own_am q1 q2 q3 q4 q5 q6)), .val (.int (own_am q1 q2 q3 q1 q2 q3))] [(.int (own_am q1 q2 q3 q1 q2 q3))])) (fun tt_ kk_ => XS.iload X24.here hx rfl (hb hby at_97) rfl kk_) ?_
      refine Ends.to (T' := T24) (g' := (mkF m 102 #[.val (.long q1), .second, .val (.long q2), .second, .val (.long q3), .second, .val (.long q4), .second, .val (.long q5), .second, .val (.long q6), .second, .val (.ref b1), .val (.ref b2), .val (.int (0 : Int32)), .val (.int (own_am q1 q2 q3 q4 q5 q6)), .val (.int (own_am q1 q2 q3 q1 q2 q3))] [])) (fun tt_ kk_ => XS.ifNo X24.here hx rfl (hb hby at_99) rfl ((if0 _ _).trans (feq (own_am_self _ _ _)).1) kk_) ?_
      refine Ends.to (T' := T24) (g' := (mkF m 103 #[.val (.long q1), .second, .val (.long q2), .second, .val (.long q3), .second, .val (.long q4), .second, .val (.long q5), .second, .val (.long q6), .second, .val (.ref b1), .val (.ref b2), .val (.int (0 : Int32)), .val (.int (own_am q1 q2 q3 q4 q5 q6)), .val (.int (own_am q1 q2 q3 q1 q2 q3))] [(.int (1 : Int32))])) (fun tt_ kk_ => XS.iconst X24.here hx rfl (hb hby at_102) kk_) ?_
      refine Ends.to (T' := T24) (g' := (mkF m 107 #[.val (.long q1), .second, .val (.long q2), .second, .val (.long q3), .second, .val (.long q4), .second, .val (.long q5), .second, .val (.long q6), .second, .val (.ref b1), .val (.ref b2), .val (.int (0 : Int32)), .val (.int (own_am q1 q2 q3 q4 q5 q6)), .val (.int (own_am q1 q2 q3 q1 q2 q3))] [(.int (1 : Int32))])) (fun tt_ kk_ => XS.goto X24.here hx rfl (pc0 := 103) (pc' := 107) rfl (hb hby at_103) (by decide) (by decide) kk_) ?_
      exact Ends.retN (t := .boolean) (by simp) X24 hx hret (hb hby at_107) hlk (by decide) (by decide) ⟨by decide, N24⟩
  · refine Ends.to (T' := T16) (g' := (mkF m 69 #[.val (.long q1), .second, .val (.long q2), .second, .val (.long q3), .second, .val (.long q4), .second, .val (.long q5), .second, .val (.long q6), .second, .val (.ref b1), .val (.ref b2), .unset, .unset, .unset] [])) (fun tt_ kk_ => XS.ifYes X16.here hx rfl (pc0 := 37) (pc' := 69) rfl (hb hby at_37) rfl ((if0 _ _).trans (feq (fun q => hc37 ((lw_eq _ _).mp q))).2) (by decide) (by decide) kk_) ?_
    refine Ends.to (T' := T16) (g' := (mkF m 70 #[.val (.long q1), .second, .val (.long q2), .second, .val (.long q3), .second, .val (.long q4), .second, .val (.long q5), .second, .val (.long q6), .second, .val (.ref b1), .val (.ref b2), .unset, .unset, .unset] [(.int (0 : Int32))])) (fun tt_ kk_ => XS.iconst X16.here hx rfl (hb hby at_69) kk_) ?_
    refine Ends.to (T' := T16) (g' := (mkF m 72 #[.val (.long q1), .second, .val (.long q2), .second, .val (.long q3), .second, .val (.long q4), .second, .val (.long q5), .second, .val (.long q6), .second, .val (.ref b1), .val (.ref b2), .val (.int (0 : Int32)), .unset, .unset] [])) (fun tt_ kk_ => XS.istore X16.here hx rfl (hb hby at_70) rfl (l' := #[.val (.long q1), .second, .val (.long q2), .second, .val (.long q3), .second, .val (.long q4), .second, .val (.long q5), .second, .val (.long q6), .second, .val (.ref b1), .val (.ref b2), .val (.int (0 : Int32)), .unset, .unset]) rfl kk_) ?_
    refine Ends.to (T' := T16) (g' := (mkF m 74 #[.val (.long q1), .second, .val (.long q2), .second, .val (.long q3), .second, .val (.long q4), .second, .val (.long q5), .second, .val (.long q6), .second, .val (.ref b1), .val (.ref b2), .val (.int (0 : Int32)), .unset, .unset] [(.ref b1)])) (fun tt_ kk_ => XS.aload X16.here hx rfl (hb hby at_72) rfl rfl kk_) ?_
    refine Ends.to (T' := T16) (g' := (mkF m 76 #[.val (.long q1), .second, .val (.long q2), .second, .val (.long q3), .second, .val (.long q4), .second, .val (.long q5), .second, .val (.long q6), .second, .val (.ref b1), .val (.ref b2), .val (.int (0 : Int32)), .unset, .unset] [(.ref b2), (.ref b1)])) (fun tt_ kk_ => XS.aload X16.here hx rfl (hb hby at_74) rfl rfl kk_) ?_
    obtain ⟨cq25, kq25, q25a, q25b, q25c⟩ := isOf hZ e16q A_b1
    obtain ⟨_, _, ⟨T25, L25, k25, n25⟩, -, X25, ⟨Lc25, hQ25, l25, y25, z25⟩, st25⟩ := X16.virtualBack hx (y := (⟨"com/example/slackline/slackline/threequeue/Slots", "atMost", "(Lcom/example/slackline/slackline/threequeue/Slots;)Z"⟩ : MethodName)) (z := (⟨"com/example/slackline/slackline/threequeue/Slots", "atMost", "(Lcom/example/slackline/slackline/threequeue/Slots;)Z"⟩ : MethodName)) hown (mvT hZ (hw _ (List.mem_of_getElem? (i := 24) rfl))) (mvT hZ (hw _ (List.mem_of_getElem? (i := 25) rfl))) (notFace_of_selects (args := #[]) (mvT hZ (hw _ (List.mem_of_getElem? (i := 27) rfl)))) (mvT hZ (hw _ (List.mem_of_getElem? (i := 27) rfl))) (mvT hZ (hw _ (List.mem_of_getElem? (i := 26) rfl))) (by decide) (backOf (W := 0) (rm5 l Z a0 hw [] b1 b2 q1 q2 q3 q4 q5 q6 T15.heap n0 Zs F_b1_map F_b2_map F_b1_reduce F_b2_reduce F_b1_generic F_b2_generic) hZ (hw _ (List.mem_of_getElem? (i := 28) rfl)) (hw _ (List.mem_of_getElem? (i := 2) rfl)) (by decide) (by decide)) q25a q25c (g := (mkF m 76 #[.val (.long q1), .second, .val (.long q2), .second, .val (.long q3), .second, .val (.long q4), .second, .val (.long q5), .second, .val (.long q6), .second, .val (.ref b1), .val (.ref b2), .val (.int (0 : Int32)), .unset, .unset] [(.ref b2), (.ref b1)])) rfl (by rw [hml]; rfl) (Steps.refl _) (argsL := [(.ref b2)]) (rest := []) (lenOf pd_5 rfl) rfl (by show 2 * 0 + _ ≤ _; exact Nat.le_of_eq rfl) (hb hby at_76) (fun _ _ => ⟨rfl, e16q, (by decide : 2 + 0 ≤ _), (by decide : 6 + 0 ≤ _)⟩)
    dsimp only [Pt.U, Pt.locs, Pt.cells, Pt.slots] at X25 l25 y25 z25 st25 hQ25
    subst l25 y25 z25
    obtain ⟨rfl, N25q, e25q⟩ := hQ25
    have N25 := Fr.app N16 N25q
    refine Ends.to (T' := T25) (g' := (mkF m 79 #[.val (.long q1), .second, .val (.long q2), .second, .val (.long q3), .second, .val (.long q4), .second, .val (.long q5), .second, .val (.long q6), .second, .val (.ref b1), .val (.ref b2), .val (.int (0 : Int32)), .unset, .unset] [(.int (own_am q1 q2 q3 q4 q5 q6))])) (fun tt_ kk_ => st25.trans kk_) ?_
    refine Ends.to (T' := T25) (g' := (mkF m 81 #[.val (.long q1), .second, .val (.long q2), .second, .val (.long q3), .second, .val (.long q4), .second, .val (.long q5), .second, .val (.long q6), .second, .val (.ref b1), .val (.ref b2), .val (.int (0 : Int32)), .val (.int (own_am q1 q2 q3 q4 q5 q6)), .unset] [])) (fun tt_ kk_ => XS.istore X25.here hx rfl (hb hby at_79) rfl (l' := #[.val (.long q1), .second, .val (.long q2), .second, .val (.long q3), .second, .val (.long q4), .second, .val (.long q5), .second, .val (.long q6), .second, .val (.ref b1), .val (.ref b2), .val (.int (0 : Int32)), .val (.int (own_am q1 q2 q3 q4 q5 q6)), .unset]) rfl kk_) ?_
    refine Ends.to (T' := T25) (g' := (mkF m 83 #[.val (.long q1), .second, .val (.long q2), .second, .val (.long q3), .second, .val (.long q4), .second, .val (.long q5), .second, .val (.long q6), .second, .val (.ref b1), .val (.ref b2), .val (.int (0 : Int32)), .val (.int (own_am q1 q2 q3 q4 q5 q6)), .unset] [(.ref b1)])) (fun tt_ kk_ => XS.aload X25.here hx rfl (hb hby at_81) rfl rfl kk_) ?_
    refine Ends.to (T' := T25) (g' := (mkF m 85 #[.val (.long q1), .second, .val (.long q2), .second, .val (.long q3), .second, .val (.long q4), .second, .val (.long q5), .second, .val (.long q6), .second, .val (.ref b1), .val (.ref b2), .val (.int (0 : Int32)), .val (.int (own_am q1 q2 q3 q4 q5 q6)), .unset] [(.ref b1), (.ref b1)])) (fun tt_ kk_ => XS.aload X25.here hx rfl (hb hby at_83) rfl rfl kk_) ?_
    obtain ⟨cq26, kq26, q26a, q26b, q26c⟩ := isOf hZ e25q A_b1
    obtain ⟨_, _, ⟨T26, L26, k26, n26⟩, -, X26, ⟨Lc26, hQ26, l26, y26, z26⟩, st26⟩ := X25.virtualBack hx (y := (⟨"com/example/slackline/slackline/threequeue/Slots", "atMost", "(Lcom/example/slackline/slackline/threequeue/Slots;)Z"⟩ : MethodName)) (z := (⟨"com/example/slackline/slackline/threequeue/Slots", "atMost", "(Lcom/example/slackline/slackline/threequeue/Slots;)Z"⟩ : MethodName)) hown (mvT hZ (hw _ (List.mem_of_getElem? (i := 24) rfl))) (mvT hZ (hw _ (List.mem_of_getElem? (i := 25) rfl))) (notFace_of_selects (args := #[]) (mvT hZ (hw _ (List.mem_of_getElem? (i := 27) rfl)))) (mvT hZ (hw _ (List.mem_of_getElem? (i := 27) rfl))) (mvT hZ (hw _ (List.mem_of_getElem? (i := 26) rfl))) (by decide) (backOf (W := 0) (rm5 l Z a0 hw [] b1 b1 q1 q2 q3 q1 q2 q3 T15.heap n0 Zs F_b1_map F_b1_map F_b1_reduce F_b1_reduce F_b1_generic F_b1_generic) hZ (hw _ (List.mem_of_getElem? (i := 28) rfl)) (hw _ (List.mem_of_getElem? (i := 2) rfl)) (by decide) (by decide)) q26a q26c (g := (mkF m 85 #[.val (.long q1), .second, .val (.long q2), .second, .val (.long q3), .second, .val (.long q4), .second, .val (.long q5), .second, .val (.long q6), .second, .val (.ref b1), .val (.ref b2), .val (.int (0 : Int32)), .val (.int (own_am q1 q2 q3 q4 q5 q6)), .unset] [(.ref b1), (.ref b1)])) rfl (by rw [hml]; rfl) (Steps.refl _) (argsL := [(.ref b1)]) (rest := []) (lenOf pd_5 rfl) rfl (by show 2 * 0 + _ ≤ _; exact Nat.le_of_eq rfl) (hb hby at_85) (fun _ _ => ⟨rfl, e25q, (by decide : 2 + 0 ≤ _), (by decide : 6 + 0 ≤ _)⟩)
    dsimp only [Pt.U, Pt.locs, Pt.cells, Pt.slots] at X26 l26 y26 z26 st26 hQ26
    subst l26 y26 z26
    obtain ⟨rfl, N26q, e26q⟩ := hQ26
    have N26 := Fr.app N25 N26q
    refine Ends.to (T' := T26) (g' := (mkF m 88 #[.val (.long q1), .second, .val (.long q2), .second, .val (.long q3), .second, .val (.long q4), .second, .val (.long q5), .second, .val (.long q6), .second, .val (.ref b1), .val (.ref b2), .val (.int (0 : Int32)), .val (.int (own_am q1 q2 q3 q4 q5 q6)), .unset] [(.int (own_am q1 q2 q3 q1 q2 q3))])) (fun tt_ kk_ => st26.trans kk_) ?_
    refine Ends.to (T' := T26) (g' := (mkF m 90 #[.val (.long q1), .second, .val (.long q2), .second, .val (.long q3), .second, .val (.long q4), .second, .val (.long q5), .second, .val (.long q6), .second, .val (.ref b1), .val (.ref b2), .val (.int (0 : Int32)), .val (.int (own_am q1 q2 q3 q4 q5 q6)), .val (.int (own_am q1 q2 q3 q1 q2 q3))] [])) (fun tt_ kk_ => XS.istore X26.here hx rfl (hb hby at_88) rfl (l' := #[.val (.long q1), .second, .val (.long q2), .second, .val (.long q3), .second, .val (.long q4), .second, .val (.long q5), .second, .val (.long q6), .second, .val (.ref b1), .val (.ref b2), .val (.int (0 : Int32)), .val (.int (own_am q1 q2 q3 q4 q5 q6)), .val (.int (own_am q1 q2 q3 q1 q2 q3))]) rfl kk_) ?_
    refine Ends.to (T' := T26) (g' := (mkF m 92 #[.val (.long q1), .second, .val (.long q2), .second, .val (.long q3), .second, .val (.long q4), .second, .val (.long q5), .second, .val (.long q6), .second, .val (.ref b1), .val (.ref b2), .val (.int (0 : Int32)), .val (.int (own_am q1 q2 q3 q4 q5 q6)), .val (.int (own_am q1 q2 q3 q1 q2 q3))] [(.int (own_am q1 q2 q3 q4 q5 q6))])) (fun tt_ kk_ => XS.iload X26.here hx rfl (hb hby at_90) rfl kk_) ?_
    refine Ends.to (T' := T26) (g' := (mkF m 94 #[.val (.long q1), .second, .val (.long q2), .second, .val (.long q3), .second, .val (.long q4), .second, .val (.long q5), .second, .val (.long q6), .second, .val (.ref b1), .val (.ref b2), .val (.int (0 : Int32)), .val (.int (own_am q1 q2 q3 q4 q5 q6)), .val (.int (own_am q1 q2 q3 q1 q2 q3))] [(.int (0 : Int32)), (.int (own_am q1 q2 q3 q4 q5 q6))])) (fun tt_ kk_ => XS.iload X26.here hx rfl (hb hby at_92) rfl kk_) ?_
    refine Ends.to (T' := T26) (g' := (mkF m 97 #[.val (.long q1), .second, .val (.long q2), .second, .val (.long q3), .second, .val (.long q4), .second, .val (.long q5), .second, .val (.long q6), .second, .val (.ref b1), .val (.ref b2), .val (.int (0 : Int32)), .val (.int (own_am q1 q2 q3 q4 q5 q6)), .val (.int (own_am q1 q2 q3 q1 q2 q3))] [])) (fun tt_ kk_ => XS.icmpNo X26.here hx rfl (hb hby at_94) rfl (teq (by simp [own_am, Decidable.not_not.mp (fun q => hc37 (own_max_eq.mpr q))])).2 kk_) ?_
    refine Ends.to (T' := T26) (g' := (mkF m 99 #[.val (.long q1), .second, .val (.long q2), .second, .val (.long q3), .second, .val (.long q4), .second, .val (.long q5), .second, .val (.long q6), .second, .val (.ref b1), .val (.ref b2), .val (.int (0 : Int32)), .val (.int (own_am q1 q2 q3 q4 q5 q6)), .val (.int (own_am q1 q2 q3 q1 q2 q3))] [(.int (own_am q1 q2 q3 q1 q2 q3))])) (fun tt_ kk_ => XS.iload X26.here hx rfl (hb hby at_97) rfl kk_) ?_
    refine Ends.to (T' := T26) (g' := (mkF m 102 #[.val (.long q1), .second, .val (.long q2), .second, .val (.long q3), .second, .val (.long q4), .second, .val (.long q5), .second, .val (.long q6), .second, .val (.ref b1), .val (.ref b2), .val (.int (0 : Int32)), .val (.int (own_am q1 q2 q3 q4 q5 q6)), .val (.int (own_am q1 q2 q3 q1 q2 q3))] [])) (fun tt_ kk_ => XS.ifNo X26.here hx rfl (hb hby at_99) rfl ((if0 _ _).trans (feq (own_am_self _ _ _)).1) kk_) ?_
    refine Ends.to (T' := T26) (g' := (mkF m 103 #[.val (.long q1), .second, .val (.long q2), .second, .val (.long q3), .second, .val (.long q4), .second, .val (.long q5), .second, .val (.long q6), .second, .val (.ref b1), .val (.ref b2), .val (.int (0 : Int32)), .val (.int (own_am q1 q2 q3 q4 q5 q6)), .val (.int (own_am q1 q2 q3 q1 q2 q3))] [(.int (1 : Int32))])) (fun tt_ kk_ => XS.iconst X26.here hx rfl (hb hby at_102) kk_) ?_
    refine Ends.to (T' := T26) (g' := (mkF m 107 #[.val (.long q1), .second, .val (.long q2), .second, .val (.long q3), .second, .val (.long q4), .second, .val (.long q5), .second, .val (.long q6), .second, .val (.ref b1), .val (.ref b2), .val (.int (0 : Int32)), .val (.int (own_am q1 q2 q3 q4 q5 q6)), .val (.int (own_am q1 q2 q3 q1 q2 q3))] [(.int (1 : Int32))])) (fun tt_ kk_ => XS.goto X26.here hx rfl (pc0 := 103) (pc' := 107) rfl (hb hby at_103) (by decide) (by decide) kk_) ?_
    exact Ends.retN (t := .boolean) (by simp) X26 hx hret (hb hby at_107) hlk (by decide) (by decide) ⟨by decide, N26⟩
set_option maxRecDepth 65536 in
set_option maxHeartbeats 40000000 in
theorem comes_1 {Post : Tables → Env → Array Value → State → Outcome → State → Prop} (hpost : ∀ tb e args s v u, (limb_1_1.after args s (.returned v) u = true ∧ limb_1_2.after args s (.returned v) u = true ∧ True) → FrameEnd s (.returned v) u (Jvm.fieldLocs frame_1_writes args s ++ Jvm.arrayLocs frame_1_arrays args s ++ Jvm.staticLocs frame_1_statics s) 16 128 → Post tb e args s (.returned v) u) :
    ArmFor flags0 classFile x code maxLocals ret World_1 tables_1 room_1 Calls_1 rest_1 Pre_1 Post := by
  intro l hfl _ _ p e ha hc hk s m args below hf hA hF happ hP
  obtain ⟨hcalls, hrest, hpre⟩ := hP
  obtain ⟨-, -, -, hnamed, -, -, -, hat⟩ := (Spec.applies_iff hf).mp happ
  obtain ⟨hg, hn⟩ := and_e (Cond.before_iff.mp (show (Jvm.Cond.and given_1 narrow_1).before args s = true from hpre))
  obtain ⟨hcount, t0⟩ := and_e hg
  obtain ⟨k0, t1⟩ := and_e t0
  obtain ⟨k1, t2⟩ := and_e t1
  obtain ⟨k2, t3⟩ := and_e t2
  obtain ⟨k3, t4⟩ := and_e t3
  obtain ⟨k4, t5⟩ := and_e t4
  obtain ⟨w0, w1, w2, w3, w4, w5, rfl⟩ : ∃ w0 w1 w2 w3 w4 w5 : Value, args = #[w0, w1, w2, w3, w4, w5] := by
    have hs : args.size = 6 := by simpa [Cond.value, given_1] using hcount
    obtain ⟨L⟩ := args
    match L, hs with
    | [w0, w1, w2, w3, w4, w5], _ => exact ⟨w0, w1, w2, w3, w4, w5, rfl⟩
  have hw := fun d (hd : d ∈ tables_1) => atoms_spec (ws := Jvm.Cond.code x code maxLocals ret :: tables_1) hat d (List.mem_cons_of_mem _ hd)
  obtain ⟨i0, ei0⟩ := isL_v k0
  obtain rfl : w0 = (.long i0) := Option.some.inj ei0
  obtain ⟨i1, ei1⟩ := isL_v k1
  obtain rfl : w1 = (.long i1) := Option.some.inj ei1
  obtain ⟨i2, ei2⟩ := isL_v k2
  obtain rfl : w2 = (.long i2) := Option.some.inj ei2
  obtain ⟨i3, ei3⟩ := isL_v k3
  obtain rfl : w3 = (.long i3) := Option.some.inj ei3
  obtain ⟨i4, ei4⟩ := isL_v k4
  obtain rfl : w4 = (.long i4) := Option.some.inj ei4
  obtain ⟨i5, ei5⟩ := isL_v t5
  obtain rfl : w5 = (.long i5) := Option.some.inj ei5
  obtain ⟨n, o, h1, h2, h3, _, L, rfl, ⟨rfl, N⟩, hq⟩ := rm0 l s _ hw tables_1 i0 i1 i2 i3 i4 i5 s.heap s.heap.size (Nat.le_refl _) p e ha hc hk s m _ below hf ((Spec.applies_iff_loose hf).mp happ).1 ⟨rfl, State.Warmed39.refl s, rfl⟩ trivial
  refine ⟨n, _, h1, h2, h3, hpost _ _ _ _ _ _ ⟨Cond.after_iff.mpr rfl, Cond.after_iff.mpr (eq_i res_at (Term.int_eval (1)) rfl), trivial⟩ ⟨hq.1, hq.2.1, (hq.2.2.sift fun y hy => Or.inr (N y hy)).mono (by decide) (by decide)⟩⟩
theorem main_1_1 : Claimed_1_1 := comes_1 fun _ _ _ _ _ _ h hF => ⟨h.1, hF⟩
theorem main_1_2 : Claimed_1_2 := comes_1 fun _ _ _ _ _ _ h hF => ⟨h.2.1, hF⟩
end Jvm.Pilot.@@N@@
namespace Jvm.Pilot.@@N@@
open Jvm Jvm.ClassFile Sem Op Lib Jvm.Free Jvm.Stand Jvm.Pilot.@@N@@.Jvm.D
/-! MADE BY PROGRAM (witnessworld.py) out of the Statement's table words and the real class files: 11 classes; the members and pool entries that the words name. The judged class is class 1, her method 1. -/
namespace start1
open Jvm.ClassFile
def u (s : String) : CpInfo := .utf8 (stringToUtf16 s)
/-- a pool by its gaps: so many unusable entries, then the entry; so many at the end -/
def gap : Nat → List CpInfo → List CpInfo
  | 0, r => r
  | n + 1, r => .unusable :: gap n r
def poolList (es : List (Nat × CpInfo)) (last : Nat) : List CpInfo := es.foldr (fun e r => gap e.1 (e.2 :: r)) (gap last [])
def pool (es : List (Nat × CpInfo)) (last : Nat) : Array CpInfo := ⟨poolList es last⟩
def fileOf (pool : Array CpInfo) (this : Nat) (attrs : Array Attribute := #[]) (ms : Array MethodInfo := #[]) (fl : Nat := 33) (sup : Nat := 0) (ifs : Array Nat := #[]) (fds : Array FieldInfo := #[]) : ClassFile where
  minorVersion := 0
  majorVersion := 65
  constantPool := pool
  accessFlags := fl
  thisClass := this
  superClass := sup
  interfaces := ifs
  fields := fds
  methods := ms
  attributes := attrs
def plain (name : String) (sup : Option ClassId) : Class where
  name := name
  kind := .ordinary
  loader := none
  accessFlags := 33
  super := sup
  interfaces := #[]
  cf := none
  fields := #[]
  methods := #[]
  instanceTypes := #[]
  staticTypes := #[]
  resolved := #[]
  callSites := []
  init := .initialized
  statics := none
  mirror := none

def pool0 : Array CpInfo := pool [(5, u "<init>"), (0, u "()V"), (1, .class_ 10), (1, u "java/lang/Object")] 113

def k0c0 : Code := { maxStack := 0, maxLocals := 1, code := object_method_1_code, exceptionTable := #[], attributes := #[] }
def k0m0 : Method := { name := "<init>", desc := "()V", sig := { parameters := [], returnType := none }, accessFlags := 1, code := some k0c0 }
/-- java/lang/Object -/
def k0 : Class := { plain "java/lang/Object" none with
  accessFlags := 33
  interfaces := #[]
  cf := some (fileOf pool0 8 #[] #[{ accessFlags := 1, nameIndex := 5, descriptorIndex := 6, attributes := #[] }] 33 0 #[] #[])
  fields := #[]
  methods := #[k0m0]
  instanceTypes := #[]
  staticTypes := #[]
  resolved := Array.replicate 124 none
  statics := none }

def pool1 : Array CpInfo := pool [(2, .class_ 4), (1, u "java/lang/Object"), (0, u "<init>"), (0, u "()V"), (0, .class_ 8), (0, u "com/example/slackline/slackline/threequeue/Slots"), (0, .methodref 7 10), (0, .nameAndType 5 11), (0, u "(JJJ)V"), (0, .methodref 13 14), (0, .class_ 15), (0, .nameAndType 16 17), (0, u "java/lang/Math"), (0, u "max"), (0, u "(JJ)J"), (0, .methodref 7 19), (0, .nameAndType 20 21), (0, u "atMost"), (0, u "(Lcom/example/slackline/slackline/threequeue/Slots;)Z"), (0, .class_ 23), (0, u "com/example/slackline/slackline/threequeue/SlotsAtMostPinLaw"), (2, u "law"), (0, u "(JJJJJJ)Z")] 3

def k1m0 : Method := { name := "<init>", desc := "()V", sig := { parameters := [], returnType := none }, accessFlags := 2, code := none }
def k1c1 : Code := { maxStack := 8, maxLocals := 17, code := code, exceptionTable := #[], attributes := #[] }
def k1m1 : Method := { name := "law", desc := "(JJJJJJ)Z", sig := { parameters := [.long, .long, .long, .long, .long, .long], returnType := some .boolean }, accessFlags := 9, code := some k1c1 }
/-- com/example/slackline/slackline/threequeue/SlotsAtMostPinLaw -/
def k1 : Class := { plain "com/example/slackline/slackline/threequeue/SlotsAtMostPinLaw" (some 0) with
  accessFlags := 49
  interfaces := #[]
  cf := some (fileOf pool1 22 #[] #[{ accessFlags := 2, nameIndex := 5, descriptorIndex := 6, attributes := #[] }, { accessFlags := 9, nameIndex := 26, descriptorIndex := 27, attributes := #[] }] 49 2 #[] #[])
  fields := #[]
  methods := #[k1m0, k1m1]
  instanceTypes := #[]
  staticTypes := #[]
  resolved := Array.replicate 31 none
  statics := none }

def pool2 : Array CpInfo := pool [(1, .methodref 2 3), (0, .class_ 4), (0, .nameAndType 5 6), (0, u "java/lang/Object"), (0, u "<init>"), (0, u "()V"), (0, .class_ 8), (0, u "java/lang/Record")] 13

def k2c0 : Code := { maxStack := 1, maxLocals := 1, code := jdk_30_method_1_code, exceptionTable := #[], attributes := #[] }
def k2m0 : Method := { name := "<init>", desc := "()V", sig := { parameters := [], returnType := none }, accessFlags := 4, code := some k2c0 }
/-- java/lang/Record -/
def k2 : Class := { plain "java/lang/Record" (some 0) with
  accessFlags := 1057
  interfaces := #[]
  cf := some (fileOf pool2 7 #[] #[{ accessFlags := 4, nameIndex := 5, descriptorIndex := 6, attributes := #[] }] 1057 2 #[] #[])
  fields := #[]
  methods := #[k2m0]
  instanceTypes := #[]
  staticTypes := #[]
  resolved := Array.replicate 22 none
  statics := none }

def pool3 : Array CpInfo := pool [(1, .methodref 2 3), (0, .class_ 4), (0, .nameAndType 5 6), (0, u "java/lang/Record"), (0, u "<init>"), (0, u "()V"), (0, .fieldref 8 9), (0, .class_ 10), (0, .nameAndType 11 12), (0, u "com/example/slackline/slackline/threequeue/Slots"), (0, u "map"), (0, u "J"), (0, .fieldref 8 14), (0, .nameAndType 15 12), (0, u "reduce"), (0, .fieldref 8 17), (0, .nameAndType 18 12), (0, u "generic"), (1, .class_ 22), (1, u "com/example/slackline/slackline/threequeue/Slots$1"), (10, u "(JJJ)V"), (53, u "NONE"), (0, u "Lcom/example/slackline/slackline/threequeue/Slots;"), (6, u "UNBOUNDED"), (15, u "atMost"), (0, u "(Lcom/example/slackline/slackline/threequeue/Slots;)Z")] 55

def k3c0 : Code := { maxStack := 3, maxLocals := 7, code := prog_237_method_1_code, exceptionTable := #[], attributes := #[] }
def k3m0 : Method := { name := "<init>", desc := "(JJJ)V", sig := { parameters := [.long, .long, .long], returnType := none }, accessFlags := 0, code := some k3c0 }
def k3c1 : Code := { maxStack := 4, maxLocals := 2, code := prog_237_method_12_code, exceptionTable := #[], attributes := #[] }
def k3m1 : Method := { name := "atMost", desc := "(Lcom/example/slackline/slackline/threequeue/Slots;)Z", sig := { parameters := [(.object "com/example/slackline/slackline/threequeue/Slots")], returnType := some .boolean }, accessFlags := 0, code := some k3c1 }
/-- com/example/slackline/slackline/threequeue/Slots -/
def k3 : Class := { plain "com/example/slackline/slackline/threequeue/Slots" (some 2) with
  accessFlags := 48
  interfaces := #[]
  cf := some (fileOf pool3 8 #[.nestMembers #[20]] #[{ accessFlags := 0, nameIndex := 5, descriptorIndex := 33, attributes := #[] }, { accessFlags := 0, nameIndex := 111, descriptorIndex := 112, attributes := #[] }] 48 2 #[] #[{ accessFlags := 18, nameIndex := 11, descriptorIndex := 12, attributes := #[] }, { accessFlags := 18, nameIndex := 15, descriptorIndex := 12, attributes := #[] }, { accessFlags := 18, nameIndex := 18, descriptorIndex := 12, attributes := #[] }, { accessFlags := 24, nameIndex := 87, descriptorIndex := 88, attributes := #[] }, { accessFlags := 24, nameIndex := 95, descriptorIndex := 88, attributes := #[] }])
  fields := #[{ name := "map", type := .long, accessFlags := 18, slot := 0, constantValue := 0 }, { name := "reduce", type := .long, accessFlags := 18, slot := 1, constantValue := 0 }, { name := "generic", type := .long, accessFlags := 18, slot := 2, constantValue := 0 }, { name := "NONE", type := (.object "com/example/slackline/slackline/threequeue/Slots"), accessFlags := 24, slot := 0, constantValue := 0 }, { name := "UNBOUNDED", type := (.object "com/example/slackline/slackline/threequeue/Slots"), accessFlags := 24, slot := 1, constantValue := 0 }]
  methods := #[k3m0, k3m1]
  instanceTypes := #[.long, .long, .long]
  staticTypes := #[(.object "com/example/slackline/slackline/threequeue/Slots"), (.object "com/example/slackline/slackline/threequeue/Slots")]
  resolved := Array.replicate 168 none
  statics := none }

def pool4 : Array CpInfo := pool [(1, .class_ 2), (0, u "java/lang/Math"), (1, .class_ 6), (1, u "java/lang/Object"), (0, u "<init>"), (0, u "()V"), (89, .class_ 100), (1, u "java/lang/Math$RandomNumberGeneratorHolder"), (20, u "(JJ)J"), (50, u "negativeZeroFloatBits"), (0, u "J"), (2, u "negativeZeroDoubleBits"), (21, u "max"), (46, u "$assertionsDisabled"), (0, u "Z"), (91, u "twoToTheDoubleScaleDown"), (0, u "D"), (4, u "twoToTheDoubleScaleUp"), (9, u "E"), (3, u "PI"), (2, u "TAU"), (2, u "DEGREES_TO_RADIANS"), (0, u "RADIANS_TO_DEGREES")] 94

def k4m0 : Method := { name := "<init>", desc := "()V", sig := { parameters := [], returnType := none }, accessFlags := 2, code := none }
def k4c1 : Code := { maxStack := 4, maxLocals := 4, code := jdk_29_method_66_code, exceptionTable := #[], attributes := #[] }
def k4m1 : Method := { name := "max", desc := "(JJ)J", sig := { parameters := [.long, .long], returnType := some .long }, accessFlags := 9, code := some k4c1 }
/-- java/lang/Math -/
def k4 : Class := { plain "java/lang/Math" (some 0) with
  accessFlags := 49
  interfaces := #[]
  cf := some (fileOf pool4 1 #[.nestMembers #[98]] #[{ accessFlags := 2, nameIndex := 7, descriptorIndex := 8, attributes := #[] }, { accessFlags := 9, nameIndex := 198, descriptorIndex := 121, attributes := #[] }] 49 4 #[] #[{ accessFlags := 25, nameIndex := 354, descriptorIndex := 339, attributes := #[] }, { accessFlags := 25, nameIndex := 358, descriptorIndex := 339, attributes := #[] }, { accessFlags := 25, nameIndex := 361, descriptorIndex := 339, attributes := #[] }, { accessFlags := 26, nameIndex := 364, descriptorIndex := 339, attributes := #[] }, { accessFlags := 26, nameIndex := 365, descriptorIndex := 339, attributes := #[] }, { accessFlags := 26, nameIndex := 172, descriptorIndex := 173, attributes := #[] }, { accessFlags := 26, nameIndex := 176, descriptorIndex := 173, attributes := #[] }, { accessFlags := 8, nameIndex := 344, descriptorIndex := 339, attributes := #[] }, { accessFlags := 8, nameIndex := 338, descriptorIndex := 339, attributes := #[] }, { accessFlags := 4120, nameIndex := 245, descriptorIndex := 246, attributes := #[] }])
  fields := #[{ name := "E", type := .double, accessFlags := 25, slot := 0, constantValue := 0 }, { name := "PI", type := .double, accessFlags := 25, slot := 1, constantValue := 0 }, { name := "TAU", type := .double, accessFlags := 25, slot := 2, constantValue := 0 }, { name := "DEGREES_TO_RADIANS", type := .double, accessFlags := 26, slot := 3, constantValue := 0 }, { name := "RADIANS_TO_DEGREES", type := .double, accessFlags := 26, slot := 4, constantValue := 0 }, { name := "negativeZeroFloatBits", type := .long, accessFlags := 26, slot := 5, constantValue := 0 }, { name := "negativeZeroDoubleBits", type := .long, accessFlags := 26, slot := 6, constantValue := 0 }, { name := "twoToTheDoubleScaleUp", type := .double, accessFlags := 8, slot := 7, constantValue := 0 }, { name := "twoToTheDoubleScaleDown", type := .double, accessFlags := 8, slot := 8, constantValue := 0 }, { name := "$assertionsDisabled", type := .boolean, accessFlags := 4120, slot := 9, constantValue := 0 }]
  methods := #[k4m0, k4m1]
  instanceTypes := #[]
  staticTypes := #[.double, .double, .double, .double, .double, .long, .long, .double, .double, .boolean]
  resolved := Array.replicate 460 none
  statics := none }

def pool5 : Array CpInfo := pool [(1, u "java/lang/Cloneable"), (0, .class_ 1), (0, u "java/lang/Object"), (0, .class_ 3)] 3

/-- java/lang/Cloneable -/
def k5 : Class := { plain "java/lang/Cloneable" (some 0) with
  accessFlags := 1537
  interfaces := #[]
  cf := some (fileOf pool5 2 #[] #[] 1537 4 #[] #[])
  fields := #[]
  methods := #[]
  instanceTypes := #[]
  staticTypes := #[]
  resolved := Array.replicate 8 none
  statics := none }

def pool6 : Array CpInfo := pool [(1, u "java/io/Serializable"), (0, .class_ 1), (0, u "java/lang/Object"), (0, .class_ 3)] 3

/-- java/io/Serializable -/
def k6 : Class := { plain "java/io/Serializable" (some 0) with
  accessFlags := 1537
  interfaces := #[]
  cf := some (fileOf pool6 2 #[] #[] 1537 4 #[] #[])
  fields := #[]
  methods := #[]
  instanceTypes := #[]
  staticTypes := #[]
  resolved := Array.replicate 8 none
  statics := none }

/-- the primitive byte -/
def k7 : Class := { plain "byte" none with kind := .primitive 'B', accessFlags := 0x411 }
/-- [B -/
def k8 : Class := { plain "[B" (some 0) with kind := .array 7 .byte, interfaces := #[5, 6], accessFlags := 1041 }

/-- the primitive int -/
def k9 : Class := { plain "int" none with kind := .primitive 'I', accessFlags := 0x411 }
/-- [I -/
def k10 : Class := { plain "[I" (some 0) with kind := .array 9 .int, interfaces := #[5, 6], accessFlags := 1041 }

def heap : Heap := #[]
def classes : Array Class := #[k0, k1, k2, k3, k4, k5, k6, k7, k8, k9, k10]
def interned : List (Array UInt16 × Addr) := []
def slotsUsed : Nat := 0
def theMethod : MethodId := ⟨1, 1⟩
def args0 : Array Value := #[.long 1, .long 2, .long 3, .long 4, .long 5, .long 6]
def aboutOver (below : List Frame) : State where
  vm := { classes := classes, interned := interned.toArray }
  heap := heap
  slotsUsed := slotsUsed
  threads := #[{ frames := .invoking theMethod args0 :: below }]
def below0 : List Frame := [.native { method := ⟨0, 0⟩, args := #[] }]
def about1 : State := aboutOver below0
def p0 : Program := .bare "" "" ""
def e0 : Env := launch0.env 0 0 0
theorem w_frames : about1.frames = Frame.invoking theMethod args0 :: below0 := rfl
set_option maxRecDepth 65536 in
theorem w_args : argsFit about1.vm theMethod args0 = true := by decide +kernel
set_option maxRecDepth 65536 in
theorem w_heap : heapFits about1 = true := by decide +kernel
set_option maxRecDepth 65536 in
theorem w_runnable : about1.curStatus? = some .runnable := by decide +kernel
set_option maxRecDepth 65536 in
theorem w_alone : about1.alone = true := by decide +kernel
set_option maxRecDepth 65536 in
theorem w_named : about1.methodNamed? x = some theMethod := by decide +kernel
set_option maxRecDepth 65536 in
theorem w_hears : about1.hears theMethod below0 = true := by decide +kernel
set_option maxRecDepth 65536 in
theorem w_ripe : about1.ripe theMethod args0 below0 = true := by decide +kernel
theorem w_running : about1.status = .running := rfl
set_option maxRecDepth 65536 in
theorem w_room : about1.hasRoom e0.platform room_1 = true :=
  launch0.hasRoom_least _ room_1 (by decide +kernel) (by decide +kernel) (by decide +kernel) (by decide +kernel) (by decide +kernel) (by decide +kernel)
theorem allAtoms_all (ts : List Jvm.Cond) (a : Array Jvm.Value) (st : Jvm.State) : (allAtoms ts).before a st = ts.all (fun c => c.before a st) := by
  induction ts with
  | nil => rfl
  | cons c t ih =>
    show (Jvm.Cond.and c (allAtoms t)).before a st = _
    rw [Jvm.Cond.before_and, ih, List.all_cons]
def words1 : List Jvm.Cond := Jvm.Cond.code x code maxLocals ret :: tables_1
/-- a 'code' word, met by the world's own term for the bytes: nothing is compared byte by byte -/
theorem code_word {y : MethodName} {bytes : ByteArray} {mx : Nat} {rt : Option FieldType} {a : Array Value} {s : State} {m : MethodId} {meth : Method} {c : Code} (h1 : s.methodNamed? y = some m) (h2 : s.vm.method? m = some meth) (h3 : meth.code = some c) (h4 : c.code = bytes)
    (h5 : (c.maxLocals == mx && c.exceptionTable.isEmpty && decide (c.maxStack ≤ mostOperands) && decide (meth.sig.returnType = rt) && !meth.locks && decide (parseMethodDescriptor y.desc = some meth.sig)) = true) : (Jvm.Cond.code y bytes mx rt).before a s = true := by
  simp only [Bool.and_eq_true, beq_iff_eq, Bool.not_eq_true', decide_eq_true_eq] at h5
  obtain ⟨⟨⟨⟨⟨g1, g2⟩, g3⟩, g4⟩, g5⟩, g6⟩ := h5
  simp [Cond.before, Cond.holds, Cond.value, h1, h2, h3, h4, g1, g2, g3, g4, g5, g6]
def isCode : Jvm.Cond → Bool
  | .code _ _ _ _ => true
  | _ => false
theorem all_split {L : List Jvm.Cond} {P : Jvm.Cond → Bool} (h1 : L.all (fun c => isCode c || P c) = true) (h2 : ∀ c ∈ L.filter isCode, P c = true) : L.all P = true := by
  refine List.all_eq_true.mpr fun c hc => ?_
  have h := List.all_eq_true.mp h1 c hc
  rcases Bool.eq_false_or_eq_true (isCode c) with hi | hi
  · exact h2 c (List.mem_filter.mpr ⟨hc, hi⟩)
  · simpa [hi] using h
set_option maxRecDepth 65536 in
theorem w_c0 : (Jvm.Cond.code x code maxLocals ret).before args0 about1 = true := code_word (m := ⟨1, 1⟩) (meth := k1m1) (c := k1c1) (by decide +kernel) rfl rfl rfl (by decide +kernel)
set_option maxRecDepth 65536 in
theorem w_c1 : (Jvm.Cond.code ({ cls := "com/example/slackline/slackline/threequeue/Slots", name := "<init>", desc := "(JJJ)V" } : Jvm.MethodName) prog_237_method_1_code (7 : Nat) (Option.none : Option Jvm.ClassFile.FieldType)).before args0 about1 = true := code_word (m := ⟨3, 0⟩) (meth := k3m0) (c := k3c0) (by decide +kernel) rfl rfl rfl (by decide +kernel)
set_option maxRecDepth 65536 in
theorem w_c2 : (Jvm.Cond.code ({ cls := "java/lang/Record", name := "<init>", desc := "()V" } : Jvm.MethodName) jdk_30_method_1_code (1 : Nat) (Option.none : Option Jvm.ClassFile.FieldType)).before args0 about1 = true := code_word (m := ⟨2, 0⟩) (meth := k2m0) (c := k2c0) (by decide +kernel) rfl rfl rfl (by decide +kernel)
set_option maxRecDepth 65536 in
theorem w_c3 : (Jvm.Cond.code ({ cls := "java/lang/Object", name := "<init>", desc := "()V" } : Jvm.MethodName) object_method_1_code (1 : Nat) (Option.none : Option Jvm.ClassFile.FieldType)).before args0 about1 = true := code_word (m := ⟨0, 0⟩) (meth := k0m0) (c := k0c0) (by decide +kernel) rfl rfl rfl (by decide +kernel)
set_option maxRecDepth 65536 in
theorem w_c4 : (Jvm.Cond.code ({ cls := "java/lang/Math", name := "max", desc := "(JJ)J" } : Jvm.MethodName) jdk_29_method_66_code (4 : Nat) (Option.some Jvm.ClassFile.FieldType.long)).before args0 about1 = true := code_word (m := ⟨4, 1⟩) (meth := k4m1) (c := k4c1) (by decide +kernel) rfl rfl rfl (by decide +kernel)
set_option maxRecDepth 65536 in
theorem w_c5 : (Jvm.Cond.code ({ cls := "com/example/slackline/slackline/threequeue/Slots", name := "atMost", desc := "(Lcom/example/slackline/slackline/threequeue/Slots;)Z" } : Jvm.MethodName) prog_237_method_12_code (2 : Nat) (Option.some Jvm.ClassFile.FieldType.boolean)).before args0 about1 = true := code_word (m := ⟨3, 1⟩) (meth := k3m1) (c := k3c1) (by decide +kernel) rfl rfl rfl (by decide +kernel)
def codes1 : List Jvm.Cond := [Jvm.Cond.code x code maxLocals ret, Jvm.Cond.code ({ cls := "com/example/slackline/slackline/threequeue/Slots", name := "<init>", desc := "(JJJ)V" } : Jvm.MethodName) prog_237_method_1_code (7 : Nat) (Option.none : Option Jvm.ClassFile.FieldType), Jvm.Cond.code ({ cls := "java/lang/Record", name := "<init>", desc := "()V" } : Jvm.MethodName) jdk_30_method_1_code (1 : Nat) (Option.none : Option Jvm.ClassFile.FieldType), Jvm.Cond.code ({ cls := "java/lang/Object", name := "<init>", desc := "()V" } : Jvm.MethodName) object_method_1_code (1 : Nat) (Option.none : Option Jvm.ClassFile.FieldType), Jvm.Cond.code ({ cls := "java/lang/Math", name := "max", desc := "(JJ)J" } : Jvm.MethodName) jdk_29_method_66_code (4 : Nat) (Option.some Jvm.ClassFile.FieldType.long), Jvm.Cond.code ({ cls := "com/example/slackline/slackline/threequeue/Slots", name := "atMost", desc := "(Lcom/example/slackline/slackline/threequeue/Slots;)Z" } : Jvm.MethodName) prog_237_method_12_code (2 : Nat) (Option.some Jvm.ClassFile.FieldType.boolean)]
set_option maxRecDepth 65536 in
theorem codes_eq : words1.filter isCode = codes1 := rfl
theorem w_codes : ∀ c ∈ words1.filter isCode, c.before args0 about1 = true := by
  rw [codes_eq]
  intro c hc
  simp only [codes1, List.mem_cons, List.not_mem_nil, or_false] at hc
  rcases hc with rfl | rfl | rfl | rfl | rfl | rfl
  · exact w_c0
  · exact w_c1
  · exact w_c2
  · exact w_c3
  · exact w_c4
  · exact w_c5
set_option maxRecDepth 65536 in
theorem w_t1 : (words1.take 24).all (fun c => isCode c || c.before args0 about1) = true := by decide +kernel
set_option maxRecDepth 65536 in
theorem w_t2 : (words1.drop 24).all (fun c => isCode c || c.before args0 about1) = true := by decide +kernel
theorem w_tables : (allAtoms (Jvm.Cond.code x code maxLocals ret :: tables_1)).before args0 about1 = true := by
  rw [allAtoms_all]
  show words1.all (fun c => c.before args0 about1) = true
  refine all_split ?_ w_codes
  rw [← List.take_append_drop 24 words1, List.all_append, w_t1, w_t2]
  rfl
set_option maxRecDepth 65536 in
theorem w_case : (Jvm.Cond.and given_1 narrow_1).before args0 about1 = true := by decide +kernel
theorem w_applies : (headSpec (Jvm.Cond.code x code maxLocals ret :: tables_1) room_1).applies x e0.platform about1 = true :=
  (Spec.applies_iff w_frames).mpr ⟨w_running, w_runnable, w_alone, w_named, w_hears, w_ripe, w_room, w_tables⟩
theorem atStart : AtStart classFile x code maxLocals ret World_1 tables_1 room_1 Calls_1 rest_1 Pre_1 launch0 p0 e0 about1 theMethod args0 below0 :=
  ⟨lists_1, trivial, launch0.admits_env _ _ _, launch0.least_env, fairChoices_fair.cas, fairChoices_fair.clock, w_frames, w_args, w_heap, w_applies, trivial, trivial, w_case⟩
end start1
theorem witness_1 : WitnessClaimed_1 := ⟨start1.p0, start1.e0, start1.about1, start1.theMethod, start1.args0, start1.below0, start1.atStart⟩
end Jvm.Pilot.@@N@@
