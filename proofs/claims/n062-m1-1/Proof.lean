import JvmDerived
import JvmDerived.Pilot.@@N@@Statement
import JvmDerived.Pilot.@@N@@Code
set_option linter.unusedVariables false
set_option linter.unusedSimpArgs false
namespace Jvm.Pilot.@@N@@
open Jvm Jvm.ClassFile Sem Op Lib Jvm.Free Jvm.Stand Jvm.LawKit Jvm.RoadKit Bundle Jvm.Pilot.@@N@@.Jvm.D
section Own
variable {p : Program} {l : Launch} {e : Env} {R : Room} {s : State} {m : MethodId} {args : Array Value} {below : List Frame} {meth : Method} {c : Code} {T : State} {locs : List Loc} {cells slots : Nat} {Z : State} {a0 : Array Value} {h h' : Heap} {Q : Option Value → Heap → List Loc → Prop} {k n : Nat} {S S' : State}
/-- from S the walk comes to its end, and Q holds there -/
def own_Go (p : Program) (e : Env) (below : List Frame) (s : State) (Q : Option Value → Heap → List Loc → Prop) (k n : Nat) (S : State) : Prop :=
  ∃ s₂ o, Steps p.tables e below S s₂ ∧ s₂.status = .running ∧ Ended s₂ below o ∧ ∃ v L, o = .returned v ∧ Q v s₂.heap L ∧ FrameEnd s o s₂ L k n
theorem own_step (f : ∀ t, Steps p.tables e below S' t → Steps p.tables e below S t) (g : own_Go p e below s Q k n S') : own_Go p e below s Q k n S := by
  obtain ⟨s₂, o, h1, r⟩ := g
  exact ⟨s₂, o, f _ h1, r⟩
theorem own_ret (X : Stand p l e R s m args below meth c T locs cells slots) (hx : p.tables.exec = Jvm.exec) (hlk : meth.locks = false) {pc : Nat} {Ls : Array Slot} {w : Value} {t : FieldType} {i : Instr} {rest : List Value} (hret : meth.sig.returnType = some t) (hn : narrow t w = w)
    (hi : (i = .ireturn ∧ (t = .int ∨ t = .boolean ∨ t = .byte ∨ t = .char ∨ t = .short) ∧ ∃ z, w = .int z) ∨ (i = .lreturn ∧ t = .long ∧ ∃ z, w = .long z) ∨ (i = .dreturn ∧ t = .double ∧ ∃ z, w = .double z) ∨ (i = .freturn ∧ t = .float ∧ ∃ z, w = .float z) ∨ (i = .areturn ∧ t.isReference = true ∧ w.isRef = true))
    (hd : decode c.code pc = .ok (i, 1)) (hQ : Q (some w) T.heap locs) (hk : cells ≤ k) (hs : slots ≤ n) : own_Go p e below s Q k n (T.setTop (mkF m pc Ls (w :: rest))) := by
  obtain ⟨fs, hr, hrun, hended, hW, hsame⟩ := X.leave (v := some w) (fun h => by rw [hret] at h; cases h) hlk
  exact ⟨_, _, retOut X hx hret hn hi hd hr, hrun, hended, _, _, rfl, hQ, ⟨_, rfl⟩, hW, hsame.mono hk hs⟩
theorem own_retI (X : Stand p l e R s m args below meth c T locs cells slots) (hx : p.tables.exec = Jvm.exec) (hlk : meth.locks = false) {pc : Nat} {Ls : Array Slot} {z : Int32} {t : FieldType} {rest : List Value} (hret : meth.sig.returnType = some t) (ht : t = .int ∨ t = .boolean ∨ t = .byte ∨ t = .char ∨ t = .short) (hn : narrow t (.int z) = .int z)
    (hd : decode c.code pc = .ok (.ireturn, 1)) (hQ : Q (some (.int z)) T.heap locs) (hk : cells ≤ k) (hs : slots ≤ n) : own_Go p e below s Q k n (T.setTop (mkF m pc Ls (.int z :: rest))) :=
  own_ret X hx hlk hret hn (Or.inl ⟨rfl, ht, z, rfl⟩) hd hQ hk hs
theorem own_retJ (X : Stand p l e R s m args below meth c T locs cells slots) (hx : p.tables.exec = Jvm.exec) (hlk : meth.locks = false) {pc : Nat} {Ls : Array Slot} {z : Int64} {rest : List Value} (hret : meth.sig.returnType = some .long)
    (hd : decode c.code pc = .ok (.lreturn, 1)) (hQ : Q (some (.long z)) T.heap locs) (hk : cells ≤ k) (hs : slots ≤ n) : own_Go p e below s Q k n (T.setTop (mkF m pc Ls (.long z :: rest))) :=
  own_ret X hx hlk hret rfl (Or.inr (Or.inl ⟨rfl, rfl, z, rfl⟩)) hd hQ hk hs
theorem own_narrow_ref {t : FieldType} {w : Value} (ht : t.isReference = true) (hw : w.isRef = true) : narrow t w = w := by
  rcases ref_cases hw with rfl | ⟨z, rfl⟩ <;> cases t <;> first | rfl | (simp [FieldType.isReference] at ht)
theorem own_retA (X : Stand p l e R s m args below meth c T locs cells slots) (hx : p.tables.exec = Jvm.exec) (hlk : meth.locks = false) {pc : Nat} {Ls : Array Slot} {w : Value} {t : FieldType} {rest : List Value} (hret : meth.sig.returnType = some t) (ht : t.isReference = true) (hw : w.isRef = true)
    (hd : decode c.code pc = .ok (.areturn, 1)) (hQ : Q (some w) T.heap locs) (hk : cells ≤ k) (hs : slots ≤ n) : own_Go p e below s Q k n (T.setTop (mkF m pc Ls (w :: rest))) :=
  own_ret X hx hlk hret (own_narrow_ref ht hw) (Or.inr (Or.inr (Or.inr (Or.inr ⟨rfl, ht, hw⟩)))) hd hQ hk hs
theorem own_retV (X : Stand p l e R s m args below meth c T locs cells slots) (hx : p.tables.exec = Jvm.exec) (hlk : meth.locks = false) {pc : Nat} {Ls : Array Slot} (hret : meth.sig.returnType = none)
    (hd : decode c.code pc = .ok (.return_, 1)) (hQ : Q none T.heap locs) (hk : cells ≤ k) (hs : slots ≤ n) : own_Go p e below s Q k n (T.setTop (mkF m pc Ls [])) := by
  obtain ⟨fs, hr, hrun, hended, hW, hsame⟩ := X.leave (v := none) (fun _ => rfl) hlk
  exact ⟨_, _, X.returnOut hx hret hd hr, hrun, hended, _, _, rfl, hQ, ⟨_, rfl⟩, hW, hsame.mono hk hs⟩
theorem own_cat {v : Value} (q : v.isRef = true) : v.category = 1 := by
  rcases ref_cases q with rfl | ⟨z, rfl⟩ <;> rfl
/-- what a body is asked for: it is called with the arguments as', over the heap h0 -/
abbrev own_Met (l : Launch) (Z : State) (y : MethodName) (bytes : ByteArray) (maxL : Nat) (ret : Option FieldType) (ws : List Jvm.Cond) (rm : Room) (as' : Array Value) (h0 : Heap) (Q : Option Value → Heap → List Loc → Prop) : Prop :=
  MetFree l y (head1 (Jvm.Cond.code y bytes maxL ret :: ws) rm) (fun a U => a = as' ∧ Z.Warmed39 U.vm ∧ U.heap = h0) (fun _ _ _ _ _ => True) (fun _ U o U' => ∃ v L, o = .returned v ∧ Q v U'.heap L ∧ FrameEnd U o U' L rm.cells rm.slots)
/-- a body that leaves the heap as it was, and returns V -/
def own_P (Z : State) (h0 : Heap) (V : Value) (v : Option Value) (h : Heap) (L : List Loc) : Prop := v = some V ∧ Fr Z.heap.size L ∧ h = h0
theorem own_body {y : MethodName} {bytes : ByteArray} {maxL : Nat} {ret : Option FieldType} {ws : List Jvm.Cond} {rm : Room} {as' : Array Value} {h0 : Heap} {ls : Array Slot} (hn : plainFor y = true) (hf : ∀ m : MethodId, entryFrame m as' maxL = mkF m 0 ls [])
    (H : ∀ (p : Program) (e : Env) (s : State) (m : MethodId) (below : List Frame) (meth : Method) (c : Code) (T : State), Z.Warmed39 s.vm → p.tables.exec = Jvm.exec → c.code = bytes → c.maxLocals = maxL → s.vm.findClass y.cls = some m.cls → meth.name = y.name → meth.sig.returnType = ret → meth.locks = false →
      Stand p l e rm s m as' below meth c T [] 0 0 → T.heap = h0 → own_Go p e below s Q rm.cells rm.slots (T.setTop (mkF m 0 ls []))) : own_Met l Z y bytes maxL ret ws rm as' h0 Q := by
  refine MetFree.of_bodySF hn hisR ?_
  intro p e s m args below meth c s₁ Bd hml0 hP hK
  obtain ⟨rfl, hZ, hh⟩ := hP
  obtain ⟨s₂, o, h1, h2, h3, r⟩ := H p e s m below meth c s₁ hZ Bd.exec Bd.bytes hml0 (findClass_of_methodNamed Bd.named) (name_of_methodNamed Bd.named Bd.method).1 Bd.returns (BodyLoose.notSynchronized Bd) (Stand.of_body Bd) (by rw [← hh, Bd.state]; rfl)
  exact ⟨s₂, o, castTop (hf m) h1, h2, h3, r⟩
theorem own_callV (X : Stand p l e R s m args below meth c T locs cells slots) (hx : p.tables.exec = Jvm.exec) (hZ : Z.Warmed39 s.vm) {own C : String} {index : Nat} {y : MethodName} (hown : s.vm.findClass own = some m.cls)
    (w1 : (Jvm.Cond.methodLink own index y).before a0 Z = true) (w2 : (Jvm.Cond.declares y).before a0 Z = true) (w3 : (Jvm.Cond.selects C y y).before a0 Z = true) (w4 : (Jvm.Cond.instanceMethod y).before a0 Z = true) {bytes : ByteArray} {maxL : Nat} {ret : Option FieldType} (wc : (Jvm.Cond.code y bytes maxL ret).before a0 Z = true) (wz : (Jvm.Cond.initialized y.cls).before a0 Z = true)
    (hy : y.cls ≠ "java/lang/invoke/MethodHandle" ∧ y.cls ≠ "java/lang/invoke/VarHandle") {rm : Room} {b : Addr} {argsL rest : List Value} (hM : own_Met l Z y bytes maxL ret [] rm (.ref b :: argsL).toArray h Q) {W : Nat} (hf : rm.frames + 1 ≤ R.frames) (hl : W + (maxL + 11) + rm.locals ≤ R.locals)
    (eT : T.heap = h) (E : Exa Z h b C) {g : JFrame} (hg : g.method = m) (hsize : g.locals.size = c.maxLocals) (hlen : ∀ sig, parseMethodDescriptor y.desc = some sig → argsL.length = sig.parameters.length) (hstack : g.stack = argsL.reverse ++ .ref b :: rest)
    (hW : 2 * g.monitorRoom + (rest.map fun v => v.category).sum ≤ W) (hdg : decode c.code g.pc = .ok (.invokevirtual index, 3)) (hc : cells + rm.cells ≤ R.cells) (hs : slots + rm.slots ≤ R.slots) :
    ∃ v T' L', Stand p l e R s m args below meth c T' (locs ++ L') (cells + rm.cells) (slots + rm.slots) ∧ Q v T'.heap L' ∧ ∀ target, Steps p.tables e below (T'.setTop { g with pc := g.pc + 3, stack := v.toList ++ rest }) target → Steps p.tables e below (T.setTop g) target := by
  obtain ⟨cq, kq, qa, qb, qc⟩ := isOf hZ eT E
  obtain ⟨v, _, ⟨T8, L8, k8, n8⟩, -, X8, ⟨Lc8, hQ8, l8, y8, z8⟩, st8⟩ := X.virtualBack hx hown (mvT hZ w1) (mvT hZ w2) (notFace_of_selects (args := #[]) (mvT hZ w3)) (mvT hZ w3) (mvT hZ w4) hy (backOf (W := W) hM hZ wc wz hf hl) qa qc hg hsize (Steps.refl _) hlen hstack hW hdg (fun _ _ => ⟨rfl, eT, hc, hs⟩)
  dsimp only [Pt.U, Pt.locs, Pt.cells, Pt.slots] at X8 l8 y8 z8 st8 hQ8
  subst l8 y8 z8
  exact ⟨v, T8, Lc8, X8, hQ8, fun t q => st8.trans q⟩
theorem own_callS (X : Stand p l e R s m args below meth c T locs cells slots) (hx : p.tables.exec = Jvm.exec) (hZ : Z.Warmed39 s.vm) {own : String} {index : Nat} {y : MethodName} (hown : s.vm.findClass own = some m.cls)
    (w1 : (Jvm.Cond.methodLink own index y).before a0 Z = true) (w2 : (Jvm.Cond.static y).before a0 Z = true) {bytes : ByteArray} {maxL : Nat} {ret : Option FieldType} (wc : (Jvm.Cond.code y bytes maxL ret).before a0 Z = true) (wz : (Jvm.Cond.initialized y.cls).before a0 Z = true)
    (hy : y.cls ≠ "java/lang/invoke/MethodHandle" ∧ y.cls ≠ "java/lang/invoke/VarHandle") {rm : Room} {argsL rest : List Value} (hM : own_Met l Z y bytes maxL ret [] rm argsL.toArray h Q) {W : Nat} (hf : rm.frames + 1 ≤ R.frames) (hl : W + (maxL + 11) + rm.locals ≤ R.locals)
    (eT : T.heap = h) {g : JFrame} (hg : g.method = m) (hsize : g.locals.size = c.maxLocals) (hlen : ∀ sig, parseMethodDescriptor y.desc = some sig → argsL.length = sig.parameters.length) (hstack : g.stack = argsL.reverse ++ rest)
    (hW : 2 * g.monitorRoom + (rest.map fun v => v.category).sum ≤ W) (hdg : decode c.code g.pc = .ok (.invokestatic index, 3)) (hc : cells + rm.cells ≤ R.cells) (hs : slots + rm.slots ≤ R.slots) :
    ∃ v T' L', Stand p l e R s m args below meth c T' (locs ++ L') (cells + rm.cells) (slots + rm.slots) ∧ Q v T'.heap L' ∧ ∀ target, Steps p.tables e below (T'.setTop { g with pc := g.pc + 3, stack := v.toList ++ rest }) target → Steps p.tables e below (T.setTop g) target := by
  obtain ⟨v, _, ⟨T8, L8, k8, n8⟩, -, X8, ⟨Lc8, hQ8, l8, y8, z8⟩, st8⟩ := Jvm.LawKit.callS X hx hown (mvT hZ w1) (mvT hZ w2) (mvT hZ wz) (mvT hZ wc) hy (backOf (W := W) hM hZ wc wz hf hl) hg hsize hlen hstack hW hdg (fun _ _ => ⟨rfl, eT, hc, hs⟩)
  dsimp only [Pt.U, Pt.locs, Pt.cells, Pt.slots] at X8 l8 y8 z8 st8 hQ8
  subst l8 y8 z8
  exact ⟨v, T8, Lc8, X8, hQ8, st8⟩
theorem own_callI (X : Stand p l e R s m args below meth c T locs cells slots) (hx : p.tables.exec = Jvm.exec) (hZ : Z.Warmed39 s.vm) {own : String} {index : Nat} {y : MethodName} (hy1 : y.name = "<init>") (hown : s.vm.findClass own = some m.cls)
    (w1 : (Jvm.Cond.methodLink own index y).before a0 Z = true) (w2 : (Jvm.Cond.instanceMethod y).before a0 Z = true) {bytes : ByteArray} {maxL : Nat} (wc : (Jvm.Cond.code y bytes maxL none).before a0 Z = true) (wz : (Jvm.Cond.initialized y.cls).before a0 Z = true)
    (hy : y.cls ≠ "java/lang/invoke/MethodHandle" ∧ y.cls ≠ "java/lang/invoke/VarHandle") {rm : Room} {b : Addr} {argsL rest : List Value} (hM : own_Met l Z y bytes maxL none [] rm (.ref b :: argsL).toArray h Q) {W : Nat} (hf : rm.frames + 1 ≤ R.frames) (hl : W + (maxL + 11) + rm.locals ≤ R.locals)
    (eT : T.heap = h) {g : JFrame} (hg : g.method = m) (hsize : g.locals.size = c.maxLocals) (hlen : ∀ sig, parseMethodDescriptor y.desc = some sig → argsL.length = sig.parameters.length) (hstack : g.stack = argsL.reverse ++ .ref b :: rest)
    (hW : 2 * g.monitorRoom + (rest.map fun v => v.category).sum ≤ W) (hdg : decode c.code g.pc = .ok (.invokespecial index, 3)) (hc : cells + rm.cells ≤ R.cells) (hs : slots + rm.slots ≤ R.slots) :
    ∃ v T' L', Stand p l e R s m args below meth c T' (locs ++ L') (cells + rm.cells) (slots + rm.slots) ∧ Q v T'.heap L' ∧ ∀ target, Steps p.tables e below (T'.setTop { g with pc := g.pc + 3, stack := v.toList ++ rest }) target → Steps p.tables e below (T.setTop g) target := by
  obtain ⟨v, _, ⟨T8, L8, k8, n8⟩, -, X8, ⟨Lc8, hQ8, l8, y8, z8⟩, st8⟩ := X.specialBack hx hy1 hown (mvT hZ w1) (mvT hZ w2) (mvT hZ wc) hy (backOf (W := W) hM hZ wc wz hf hl) hg hsize (Steps.refl _) hlen hstack hW hdg (fun _ _ => ⟨rfl, eT, hc, hs⟩)
  dsimp only [Pt.U, Pt.locs, Pt.cells, Pt.slots] at X8 l8 y8 z8 st8 hQ8
  subst l8 y8 z8
  exact ⟨v, T8, Lc8, X8, hQ8, fun t q => st8.trans q⟩
theorem own_ldcI (X : Stand p l e R s m args below meth c T locs cells slots) (hx : p.tables.exec = Jvm.exec) (hZ : Z.Warmed39 s.vm) {own : String} {index : Nat} {v : Int32} (hown : s.vm.findClass own = some m.cls) (w : (Jvm.Cond.constant own index v).before a0 Z = true)
    {g : JFrame} (hg : g.method = m) (hd : decode c.code g.pc = .ok (.ldc index, 2)) : ∀ target, Steps p.tables e below (T.setTop { g with pc := g.pc + 2, stack := .int v :: g.stack }) target → Steps p.tables e below (T.setTop g) target := X.ldcInt hx hown (mvT hZ w) hg hd
theorem own_ldcJ (X : Stand p l e R s m args below meth c T locs cells slots) (hx : p.tables.exec = Jvm.exec) (hZ : Z.Warmed39 s.vm) {own : String} {index : Nat} {v : Int64} (hown : s.vm.findClass own = some m.cls) (w : (Jvm.Cond.constantLong own index v).before a0 Z = true)
    {g : JFrame} (hg : g.method = m) (hd : decode c.code g.pc = .ok (.ldc2_w index, 3)) : ∀ target, Steps p.tables e below (T.setTop { g with pc := g.pc + 3, stack := .long v :: g.stack }) target → Steps p.tables e below (T.setTop g) target := X.ldc2Long hx hown (mvT hZ w) hg hd
/-! arrays: what stands in them, as a list -/
def own_Ar (Z : State) (h : Heap) (a : Addr) (kc : ClassId) (ty : FieldType) (vs : List Value) : Prop := ∃ c : Cell, Arr Z h a c ty ∧ c.cls = kc ∧ c.slots.toList = vs
variable {a b : Addr} {kc : ClassId} {ty : FieldType} {vs vs' : List Value} {v : Value} {i : Nat}
theorem own_Ar.new {z : Int32} (A : Arr Z h a (newA kc ty z) ty) (hz : List.replicate z.toNatClampNeg (defaultValue ty) = vs) : own_Ar Z h a kc ty vs := ⟨_, A, rfl, by rw [← hz]; simp [newA]⟩
theorem own_Ar.set (W : Wr h h' a i v) (F : own_Ar Z h a kc ty vs) (hv : vs.set i v = vs') : own_Ar Z h' a kc ty vs' := by
  obtain ⟨c, A, q, r⟩ := F
  exact ⟨_, A.same W, q, by rw [← hv, ← r]; simp [Cell.setSlot]⟩
theorem own_Ar.other (W : Wr h h' b i v) (F : own_Ar Z h a kc ty vs) (q : a ≠ b) : own_Ar Z h' a kc ty vs := by
  obtain ⟨c, A, r⟩ := F
  exact ⟨c, A.other W q, r⟩
theorem own_Ar.ext (E : Ext h h') (F : own_Ar Z h a kc ty vs) : own_Ar Z h' a kc ty vs := by
  obtain ⟨c, A, r⟩ := F
  exact ⟨c, A.ext E, r⟩
theorem own_Ar.lt (F : own_Ar Z h a kc ty vs) : a < h.size := by
  obtain ⟨c, A, r⟩ := F
  exact A.lt
theorem own_ext_trans {h'' : Heap} (E : Ext h h') (E' : Ext h' h'') : Ext h h'' := ⟨Nat.le_trans E.1 E'.1, fun a c q => E'.2 a c (E.2 a c q)⟩
theorem own_ext_wr {h0 : Heap} (E : Ext h0 h) (W : Wr h h' a i v) (q : h0.size ≤ a) : Ext h0 h' := by
  refine ⟨Nat.le_trans E.1 (Nat.le_of_eq W.size.symm), fun x cx hc => ?_⟩
  obtain ⟨c', e1, -, -, -, e5, -⟩ := wr_at W (E.2 x cx hc)
  have ne : x ≠ a := fun z => by
    have := (Array.getElem?_eq_some_iff.mp hc).1
    subst z
    exact absurd this (Nat.not_lt.mpr q)
  rw [← e5 ne]; exact e1
theorem own_inb {c : Cell} {j : Int32} (r : c.slots.toList = vs) (hj : ¬ j < 0) (hv : vs[j.toNatClampNeg]? = some v) : ¬ (j < 0 ∨ c.slots.size ≤ j.toNatClampNeg) ∧ c.slots[j.toNatClampNeg]? = some v := by
  have q : c.slots[j.toNatClampNeg]? = some v := by rw [← hv, ← r, Array.getElem?_toList]
  refine ⟨fun z => ?_, q⟩
  rcases z with z | z
  · exact hj z
  · exact absurd (Array.getElem?_eq_some_iff.mp q).1 (Nat.not_lt.mpr z)
theorem own_aaload (X : Stand p l e R s m args below meth c T locs cells slots) (hx : p.tables.exec = Jvm.exec) (hZ : Z.Warmed39 s.vm) (eT : T.heap = h) (F : own_Ar Z h a kc ty vs) (hty : ty.isReference = true) {j : Int32} (hj : ¬ j < 0) (hv : vs[j.toNatClampNeg]? = some v)
    {g : JFrame} (hg : g.method = m) {rest : List Value} (hs : g.stack = .int j :: .ref a :: rest) (hd : decode c.code g.pc = .ok (.aaload, 1)) : ∀ target, Steps p.tables e below (T.setTop { g with pc := g.pc + 1, stack := v :: rest }) target → Steps p.tables e below (T.setTop g) target := by
  obtain ⟨cl, A, -, r⟩ := F
  obtain ⟨q1, q2⟩ := own_inb r hj hv
  exact X.aaload hx (by rw [eT]; exact A.1) (State.isArrayOf_alike hZ.alike A.2.1) hty A.2.2 q1 q2 hg hs hd
theorem own_iaload (X : Stand p l e R s m args below meth c T locs cells slots) (hx : p.tables.exec = Jvm.exec) (hZ : Z.Warmed39 s.vm) (eT : T.heap = h) (F : own_Ar Z h a kc .int vs) {j : Int32} (hj : ¬ j < 0) (hv : vs[j.toNatClampNeg]? = some v)
    {g : JFrame} (hg : g.method = m) {rest : List Value} (hs : g.stack = .int j :: .ref a :: rest) (hd : decode c.code g.pc = .ok (.iaload, 1)) : ∀ target, Steps p.tables e below (T.setTop { g with pc := g.pc + 1, stack := v :: rest }) target → Steps p.tables e below (T.setTop g) target := by
  obtain ⟨cl, A, -, r⟩ := F
  obtain ⟨q1, q2⟩ := own_inb r hj hv
  exact fun t k => X.iaload hx (by rw [eT]; exact A.1) (State.isArrayOf_alike hZ.alike A.2.1) A.2.2 q1 q2 hg hs hd t k
theorem own_zaload (X : Stand p l e R s m args below meth c T locs cells slots) (hx : p.tables.exec = Jvm.exec) (hZ : Z.Warmed39 s.vm) (eT : T.heap = h) (F : own_Ar Z h a kc .boolean vs) {j : Int32} (hj : ¬ j < 0) (hv : vs[j.toNatClampNeg]? = some v)
    {g : JFrame} (hg : g.method = m) {rest : List Value} (hs : g.stack = .int j :: .ref a :: rest) (hd : decode c.code g.pc = .ok (.baload, 1)) : ∀ target, Steps p.tables e below (T.setTop { g with pc := g.pc + 1, stack := v :: rest }) target → Steps p.tables e below (T.setTop g) target := by
  obtain ⟨cl, A, -, r⟩ := F
  obtain ⟨q1, q2⟩ := own_inb r hj hv
  exact fun t k => X.baloadBooleans hx (by rw [eT]; exact A.1) (State.isArrayOf_alike hZ.alike A.2.1) A.2.2 q1 q2 hg hs hd t k
theorem own_alen (X : Stand p l e R s m args below meth c T locs cells slots) (hx : p.tables.exec = Jvm.exec) (hZ : Z.Warmed39 s.vm) (eT : T.heap = h) (F : own_Ar Z h a kc ty vs) {z : Int32} (hz : vs.length.toInt32 = z)
    {g : JFrame} (hg : g.method = m) {rest : List Value} (hs : g.stack = .ref a :: rest) (hd : decode c.code g.pc = .ok (.arraylength, 1)) : ∀ target, Steps p.tables e below (T.setTop { g with pc := g.pc + 1, stack := .int z :: rest }) target → Steps p.tables e below (T.setTop g) target := by
  obtain ⟨cl, A, -, r⟩ := F
  have q : cl.slots.size.toInt32 = z := by rw [← hz, ← r]; simp
  subst q
  exact fun t k => X.arraylength hx (by rw [eT]; exact A.1) (State.isArrayOf_alike hZ.alike A.2.1) hg hs hd t k
theorem own_stin {c : Cell} {j : Int32} (r : c.slots.toList = vs) (hj : ¬ j < 0) (hi : j.toNatClampNeg = i) (hlt : i < vs.length) : ¬ (j < 0 ∨ c.slots.size ≤ j.toNatClampNeg) := by
  have q : c.slots.size = vs.length := by rw [← r]; simp
  rintro (z | z)
  · exact hj z
  · omega
theorem own_stR (X : Stand p l e R s m args below meth c T locs cells slots) (hx : p.tables.exec = Jvm.exec) (hZ : Z.Warmed39 s.vm) (eT : T.heap = h) {C : String} (F : own_Ar Z h a kc (.object C) vs) (O : Ovr Z kc C) {y : Addr} (I : Exa Z h y C) {j : Int32} (i : Nat) (vs' : List Value) (hj : ¬ j < 0) (hi : j.toNatClampNeg = i) (hlt : i < vs.length) (hv : vs.set i (.ref y) = vs')
    (Ex : Ext Z.heap h) (ha : Z.heap.size ≤ a) (N : Fr Z.heap.size locs) {g : JFrame} (hg : g.method = m) {rest : List Value} (hs : g.stack = .ref y :: .int j :: .ref a :: rest) (hd : decode c.code g.pc = .ok (.aastore, 1)) :
    ∃ T' h' locs', Stand p l e R s m args below meth c T' locs' cells slots ∧ T'.heap = h' ∧ own_Ar Z h' a kc (.object C) vs' ∧ Ext Z.heap h' ∧ Fr Z.heap.size locs' ∧ Wr h h' a i (.ref y) ∧ ∀ target, Steps p.tables e below (T'.setTop { g with pc := g.pc + 1, stack := rest }) target → Steps p.tables e below (T.setTop g) target := by
  obtain ⟨cl, A, q, r⟩ := F
  obtain ⟨T', h', X', e', W', st⟩ := stR X hx hZ eT A (own_stin r hj hi hlt) rfl (Sto.of A (q ▸ O) (Ins.self I)) hg hs hd
  rw [hi] at W'
  exact ⟨T', h', _, X', e', own_Ar.set W' ⟨cl, A, q, r⟩ hv, own_ext_wr Ex W' ha, Fr.snoc X' N ha, W', st⟩
theorem own_stI (X : Stand p l e R s m args below meth c T locs cells slots) (hx : p.tables.exec = Jvm.exec) (hZ : Z.Warmed39 s.vm) (eT : T.heap = h) (F : own_Ar Z h a kc .int vs) {x j : Int32} (i : Nat) (vs' : List Value) (hj : ¬ j < 0) (hi : j.toNatClampNeg = i) (hlt : i < vs.length) (hv : vs.set i (.int x) = vs')
    (Ex : Ext Z.heap h) (ha : Z.heap.size ≤ a) (N : Fr Z.heap.size locs) {g : JFrame} (hg : g.method = m) {rest : List Value} (hs : g.stack = .int x :: .int j :: .ref a :: rest) (hd : decode c.code g.pc = .ok (.iastore, 1)) :
    ∃ T' h' locs', Stand p l e R s m args below meth c T' locs' cells slots ∧ T'.heap = h' ∧ own_Ar Z h' a kc .int vs' ∧ Ext Z.heap h' ∧ Fr Z.heap.size locs' ∧ Wr h h' a i (.int x) ∧ ∀ target, Steps p.tables e below (T'.setTop { g with pc := g.pc + 1, stack := rest }) target → Steps p.tables e below (T.setTop g) target := by
  obtain ⟨cl, A, q, r⟩ := F
  obtain ⟨T', h', X', e', W', st⟩ := stI X hx hZ eT A (own_stin r hj hi hlt) hg hs hd
  rw [hi] at W'
  exact ⟨T', h', _, X', e', own_Ar.set W' ⟨cl, A, q, r⟩ hv, own_ext_wr Ex W' ha, Fr.snoc X' N ha, W', st⟩
theorem own_stZ (X : Stand p l e R s m args below meth c T locs cells slots) (hx : p.tables.exec = Jvm.exec) (hZ : Z.Warmed39 s.vm) (eT : T.heap = h) (F : own_Ar Z h a kc .boolean vs) {x j : Int32} (i : Nat) (vs' : List Value) (hj : ¬ j < 0) (hi : j.toNatClampNeg = i) (hlt : i < vs.length) (hn : nar .boolean x = x) (hv : vs.set i (.int x) = vs')
    (Ex : Ext Z.heap h) (ha : Z.heap.size ≤ a) (N : Fr Z.heap.size locs) {g : JFrame} (hg : g.method = m) {rest : List Value} (hs : g.stack = .int x :: .int j :: .ref a :: rest) (hd : decode c.code g.pc = .ok (.bastore, 1)) :
    ∃ T' h' locs', Stand p l e R s m args below meth c T' locs' cells slots ∧ T'.heap = h' ∧ own_Ar Z h' a kc .boolean vs' ∧ Ext Z.heap h' ∧ Fr Z.heap.size locs' ∧ Wr h h' a i (.int x) ∧ ∀ target, Steps p.tables e below (T'.setTop { g with pc := g.pc + 1, stack := rest }) target → Steps p.tables e below (T.setTop g) target := by
  obtain ⟨cl, A, q, r⟩ := F
  obtain ⟨T', h', X', e', W', st⟩ := stZ X hx hZ eT A (own_stin r hj hi hlt) hg hs hd
  rw [hi, hn] at W'
  exact ⟨T', h', _, X', e', own_Ar.set W' ⟨cl, A, q, r⟩ hv, own_ext_wr Ex W' ha, Fr.snoc X' N ha, W', st⟩
theorem own_newR (X : Stand p l e R s m args below meth c T locs cells slots) (hx : p.tables.exec = Jvm.exec) (hZ : Z.Warmed39 s.vm) {own C : String} {index : Nat} (hown : s.vm.findClass own = some m.cls) (w1 : (Jvm.Cond.classLink own index C).before a0 Z = true) (w2 : (Jvm.Cond.arrayOver (.object C)).before a0 Z = true)
    (eT : T.heap = h) (Ex : Ext Z.heap h) {g : JFrame} (hg : g.method = m) (hd : decode c.code g.pc = .ok (.anewarray index, 3)) {z : Int32} {rest : List Value} (hs : g.stack = .int z :: rest) (hn : ¬ z < 0) (vs : List Value) (hz : List.replicate z.toNatClampNeg (.null : Value) = vs) {cap : Nat} (hcap : z.toNatClampNeg ≤ cap) (hb : cap * 8 ≤ 536870912) (hc : cells + 1 ≤ R.cells) (hl : slots + cap ≤ R.slots) :
    ∃ T' h' kc a, Stand p l e R s m args below meth c T' locs (cells + 1) (slots + cap) ∧ T'.heap = h' ∧ Ext h h' ∧ Ext Z.heap h' ∧ own_Ar Z h' a kc (.object C) vs ∧ Ovr Z kc C ∧ Z.heap.size ≤ a ∧ h.size = a ∧
      ∀ target, Steps p.tables e below (T'.setTop { g with pc := g.pc + 3, stack := .ref a :: rest }) target → Steps p.tables e below (T.setTop g) target := by
  obtain ⟨T', h', kc, X', e', E', A', O', st⟩ := newR X hx hZ hown w1 w2 eT hg hd hs hn hcap hb hc hl
  exact ⟨T', h', kc, h.size, X', e', E', own_ext_trans Ex E', own_Ar.new A' hz, O', Ex.1, rfl, st⟩
theorem own_newP (X : Stand p l e R s m args below meth c T locs cells slots) (hx : p.tables.exec = Jvm.exec) (hZ : Z.Warmed39 s.vm) {aty : ArrayType} (ty : FieldType) (hty : newarray.typeOf aty = ty) (w : (Jvm.Cond.arrayClass ty).before a0 Z = true)
    (eT : T.heap = h) (Ex : Ext Z.heap h) {g : JFrame} (hg : g.method = m) (hd : decode c.code g.pc = .ok (.newarray aty, 2)) {z : Int32} {rest : List Value} (hs : g.stack = .int z :: rest) (hn : ¬ z < 0) (vs : List Value) (hz : List.replicate z.toNatClampNeg (defaultValue ty) = vs) {cap : Nat} (hcap : z.toNatClampNeg ≤ cap) (hb : cap * 8 ≤ 536870912) (hc : cells + 1 ≤ R.cells) (hl : slots + cap ≤ R.slots) :
    ∃ T' h' kc a, Stand p l e R s m args below meth c T' locs (cells + 1) (slots + cap) ∧ T'.heap = h' ∧ Ext h h' ∧ Ext Z.heap h' ∧ own_Ar Z h' a kc ty vs ∧ Z.heap.size ≤ a ∧ h.size = a ∧
      ∀ target, Steps p.tables e below (T'.setTop { g with pc := g.pc + 2, stack := .ref a :: rest }) target → Steps p.tables e below (T.setTop g) target := by
  subst hty
  obtain ⟨T', h', kc, X', e', E', A', st⟩ := newP X hx hZ w eT hg hd hs hn hcap hb hc hl
  exact ⟨T', h', kc, h.size, X', e', E', own_ext_trans Ex E', own_Ar.new A' hz, Ex.1, rfl, st⟩
theorem own_Ar.keep {ws : List Addr} (K : Keep h h' ws) (F : own_Ar Z h a kc ty vs) (q : a ∉ ws) : own_Ar Z h' a kc ty vs := by
  obtain ⟨c, A, r⟩ := F
  exact ⟨c, ⟨K.2.1 a c A.1 q, A.2⟩, r⟩
/-! objects -/
theorem own_new (X : Stand p l e R s m args below meth c T locs cells slots) (hx : p.tables.exec = Jvm.exec) (hZ : Z.Warmed39 s.vm) {own C : String} {index n : Nat} (hown : s.vm.findClass own = some m.cls) (w : (Jvm.Cond.classLink own index C).before a0 Z = true) (wi : (Jvm.Cond.instantiable C n).before a0 Z = true) (wz : (Jvm.Cond.initialized C).before a0 Z = true) (eT : T.heap = h) (Ex : Ext Z.heap h)
    {g : JFrame} (hg : g.method = m) (hd : decode c.code g.pc = .ok (.new index, 3)) (hc : cells + 1 ≤ R.cells) (hl : slots + n ≤ R.slots) :
    ∃ T' h' a, Stand p l e R s m args below meth c T' locs (cells + 1) (slots + n) ∧ T'.heap = h' ∧ Ext h h' ∧ Ext Z.heap h' ∧ Exa Z h' a C ∧ (∀ {O nm d : String} {ty : FieldType}, Laid Z a0 C O nm d → parseFieldDescriptor d = some ty → Fld Z h' a O nm d (defaultValue ty)) ∧ Z.heap.size ≤ a ∧ h.size = a ∧
      ∀ target, Steps p.tables e below (T'.setTop { g with pc := g.pc + 3, stack := .ref a :: g.stack }) target → Steps p.tables e below (T.setTop g) target := by
  obtain ⟨T', h', X', e', E', A', D', -, st⟩ := newO X hx hZ hown w wi wz eT hg hd hc hl
  exact ⟨T', h', h.size, X', e', E', own_ext_trans Ex E', A', D', Ex.1, rfl, st⟩
theorem own_putF (X : Stand p l e R s m args below meth c T locs cells slots) (hx : p.tables.exec = Jvm.exec) (hZ : Z.Warmed39 s.vm) {own R0 O nm d C : String} {index kk : Nat} {ty : FieldType} (hown : s.vm.findClass own = some m.cls) (w : (Jvm.Cond.fieldLink own index R0 nm d).before a0 Z = true) (via : Via Z R0 O nm d)
    (eT : T.heap = h) {v old : Value} (F : Fld Z h a O nm d old) (E : Exa Z h a C) (L : (Jvm.Cond.lays C O nm d).before a0 Z = true ∨ ((Jvm.Cond.laysFinal C O nm d).before a0 Z = true ∧ own = O ∧ meth.name = "<init>")) (wi : (Jvm.Cond.instantiable C kk).before a0 Z = true)
    (hty : parseFieldDescriptor d = some ty) (hn : narrow ty v = v) (hf : fits ty v = true) (Ex : Ext Z.heap h) (ha : Z.heap.size ≤ a) (N : Fr Z.heap.size locs) {g : JFrame} (hg : g.method = m) {rest : List Value} (hs : g.stack = v :: .ref a :: rest) (hd : decode c.code g.pc = .ok (.putfield index, 3)) :
    ∃ T' h' locs', Stand p l e R s m args below meth c T' locs' cells slots ∧ T'.heap = h' ∧ Fld Z h' a O nm d v ∧ Exa Z h' a C ∧ Ext Z.heap h' ∧ Fr Z.heap.size locs' ∧ Wr h h' a (Jvm.RoadKit.slotOf Z O nm d) v ∧ ∀ target, Steps p.tables e below (T'.setTop { g with pc := g.pc + 3, stack := rest }) target → Steps p.tables e below (T.setTop g) target := by
  obtain ⟨T', h', X', e', W', st⟩ := putF X hx hZ hown (host := "") (Or.inl w) via eT F E L wi hty hn hf hg hs hd
  exact ⟨T', h', _, X', e', Fld.same W' F, Exa.wr W' E, own_ext_wr Ex W' ha, Fr.snoc X' N ha, W', st⟩
/-! from the case's words to facts on the heap -/
theorem own_exa {C nm d K : String} (hn : (Jvm.Cond.exactly (.static C nm d) K).value args s none s [] = some true) (w1 : (Jvm.Cond.initialized C).before args s = true) (w2 : (Jvm.Cond.laysStatic C nm d).before args s = true) :
    ∃ w, (Term.static C nm d).eval args s none [] s = some (.ref w) ∧ Sta s s.heap C nm d (.ref w) ∧ Exa s s.heap w K := by
  obtain ⟨w, ev⟩ := exa_v hn
  exact ⟨w, ev, Sta.start ev (Or.inr ⟨w1, w2⟩), Exa.start ev hn⟩
theorem own_fldI {t : Term} {O f d : String} {w : Addr} {z : Int32} (ev : t.eval args s none [] s = some (.ref w)) (hn : (Jvm.Cond.eq (.field t O f d) (.int z)).value args s none s [] = some true) : Fld s s.heap w O f d (.int z) := by
  obtain ⟨x, y, h1, h2, k1, k2⟩ := cmp_v (Or.inl hn)
  cases (Term.int_eval z).symm.trans h2
  obtain ⟨z', rfl⟩ := k2
  simp only [Cond.value, h1, h2] at hn
  have e1 : z' = z := by simpa using hn
  subst e1
  refine Fld.start ?_
  rw [← fld_at (C := O) (n := f) (dd := d) ev]
  exact h1
theorem own_fldJ {t : Term} {O f d : String} {w : Addr} {z : Int64} (ev : t.eval args s none [] s = some (.ref w)) (hn : (Jvm.Cond.eq (.field t O f d) (.long z)).value args s none s [] = some true) : Fld s s.heap w O f d (.long z) := by
  obtain ⟨x, y, h1, h2, k1, k2⟩ := cmp_v (Or.inl hn)
  cases (show (Term.long z).eval args s none [] s = some (.long z) from rfl).symm.trans h2
  obtain ⟨z', rfl⟩ := k2
  simp only [Cond.value, h1, h2] at hn
  have e1 : z' = z := by simpa using hn
  subst e1
  refine Fld.start ?_
  rw [← fld_at (C := O) (n := f) (dd := d) ev]
  exact h1
theorem own_fld_inj {C nm d : String} {w w' : Value} (F : Fld Z h a C nm d w) (G : Fld Z h a C nm d w') : w = w' := by
  by_cases q : w = w'
  · exact q
  · exact absurd rfl (Fld.ne F G q)
theorem own_idx (x d : Int32) (hd : 0 < d.toInt) : 0 ≤ ((x &&& 2147483647) % d).toInt ∧ ((x &&& 2147483647) % d).toInt < d.toInt := by
  have h := c_mask x 2147483647 31 (by decide) (by decide)
  have h0 : 0 ≤ (x &&& 2147483647).toInt := by omega
  have q := (c_iremV (x &&& 2147483647) d).1 h0 hd
  exact ⟨q.1, q.2.1⟩
theorem own_bm32 {x : Int} (h0 : -2147483648 ≤ x) (h1 : x < 2147483648) : x.bmod (2 ^ 32) = x := Int.bmod_eq_of_le (by omega) (by omega)
theorem own_bm64 {x : Int} (h0 : -9223372036854775808 ≤ x) (h1 : x < 9223372036854775808) : x.bmod (2 ^ 64) = x := Int.bmod_eq_of_le (by omega) (by omega)
theorem own_iadd {x y : Int32} (h0 : -2147483648 ≤ x.toInt + y.toInt) (h1 : x.toInt + y.toInt < 2147483648) : (x + y).toInt = x.toInt + y.toInt := by rw [Int32.toInt_add, own_bm32 h0 h1]
theorem own_isub {x y : Int32} (h0 : -2147483648 ≤ x.toInt - y.toInt) (h1 : x.toInt - y.toInt < 2147483648) : (x - y).toInt = x.toInt - y.toInt := by rw [Int32.toInt_sub, own_bm32 h0 h1]
theorem own_lneg {x : Int64} (h0 : -9223372036854775808 ≤ -x.toInt) (h1 : -x.toInt < 9223372036854775808) : (-x).toInt = -x.toInt := by rw [Int64.toInt_neg, own_bm64 h0 h1]
theorem own_lmul {x y : Int64} (h0 : -9223372036854775808 ≤ x.toInt * y.toInt) (h1 : x.toInt * y.toInt < 9223372036854775808) : (x * y).toInt = x.toInt * y.toInt := by rw [Int64.toInt_mul, own_bm64 h0 h1]
theorem own_cl {x y : Int64} : XT.cmpL x y < 0 ↔ x < y := by
  have h : XT.cmpL x y = lcmpV x y := by simp [XT.cmpL, lcmpV]
  rw [h]; exact lc_lt x y
theorem own_cg {x y : Int64} : 0 < XT.cmpL x y ↔ y < x := by
  have h : XT.cmpL x y = lcmpV x y := by simp [XT.cmpL, lcmpV]
  rw [h]; exact lc_gt x y
theorem own_ce {x y : Int64} : XT.cmpL x y = 0 ↔ x = y := by
  have h : XT.cmpL x y = lcmpV x y := by simp [XT.cmpL, lcmpV]
  rw [h]; exact lc_eq x y
theorem own_short {x : Int32} (h0 : -32768 ≤ x.toInt) (h1 : x.toInt < 32768) : x.toInt16.toInt32 = x := by
  have h := c_i2s x
  exact Int32.toInt_inj.mp (by omega)
theorem own_nn {i : Int32} (q : 0 ≤ i.toInt) : ¬ i < 0 := by
  rw [Int32.lt_iff_toInt_lt]
  have h : (0 : Int32).toInt = 0 := by decide
  omega
theorem own_len {t : Term} {cl : Cell} {z : Int32} (ev : t.eval args s none [] s = some (.ref a)) (A : Arr s s.heap a cl ty) (hn : (Jvm.Cond.eq (.length t) (.int z)).value args s none s [] = some true) : cl.slots.size = z.toNatClampNeg := by
  have ha : s.arrayAt? a = some cl := Arr.fin (Vm.Alike.refl _) A
  by_cases hlt : cl.slots.size < 2147483648
  · have h3 := len_f ev ha hlt
    have e1 : cl.slots.size.toInt32 = z := by
      have h4 := Term.int_eval (args := args) (first := s) (o := none) (idx := []) (s := s) z
      simp only [Cond.value, h3, h4] at hn
      simpa using hn
    have h5 := len_toInt hlt
    have h6 := nat_of (own_nn (i := cl.slots.size.toInt32) (by omega))
    rw [← e1]
    omega
  · exfalso
    simp [Cond.value, Term.eval, ev, ha, hlt] at hn
theorem own_elem {t u : Term} {cl : Cell} {j : Int32} {x : Value} (ev : t.eval args s none [] s = some (.ref a)) (A : Arr s s.heap a cl ty) (hu : u.eval args s none [] s = some x) (hx : x.isRef = true) (hn : (Jvm.Cond.eq (.elem t (.int j)) u).value args s none s [] = some true) : cl.slots[j.toNatClampNeg]? = some x := by
  obtain ⟨v, y, h1, h2, k1, k2⟩ := cmp_v (Or.inl hn)
  cases hu.symm.trans h2
  have hv : v.isRef = true := by
    rcases ref_cases hx with rfl | ⟨q, rfl⟩ <;> cases v <;> simp [Kin, Value.isRef] at k1 k2 ⊢
  have e1 := gotT (eq_R h1 hu hv hx) hn
  subst e1
  exact (elem_in h1 ev (Term.int_eval j) A.1).2
theorem own_toList {cl : Cell} (hs : cl.slots.size = vs.length) (H : HasL cl 0 vs) : cl.slots.toList = vs := by
  refine List.ext_getElem? fun j => ?_
  rw [Array.getElem?_toList]
  by_cases q : j < vs.length
  · have := HasL.at (dv := .null) vs 0 H j q
    rw [Nat.zero_add] at this
    rw [this, List.getElem?_eq_getElem q]
    simp [List.getD, q]
  · rw [List.getElem?_eq_none (by omega), Array.getElem?_eq_none (by omega)]
theorem own_arr {C nm d : String} (hn : (Jvm.Cond.arrayOf (.static C nm d) ty).value args s none s [] = some true) (w1 : (Jvm.Cond.initialized C).before args s = true) (w2 : (Jvm.Cond.laysStatic C nm d).before args s = true) :
    ∃ w cl, (Term.static C nm d).eval args s none [] s = some (.ref w) ∧ Sta s s.heap C nm d (.ref w) ∧ Arr s s.heap w cl ty := by
  obtain ⟨w, ev⟩ := arr_v hn
  obtain ⟨cl, A⟩ := Arr.start ev hn
  exact ⟨w, cl, ev, Sta.start ev (Or.inr ⟨w1, w2⟩), A⟩
theorem own_and3 (x : Int32) : 0 ≤ (x &&& 3).toInt ∧ (x &&& 3).toInt < 4 := by
  have h := c_mask x 3 2 (by decide) (by decide)
  omega
end Own
end Jvm.Pilot.@@N@@
namespace Jvm.Pilot.@@N@@
open Jvm Jvm.ClassFile Sem Op Lib Jvm.Free Jvm.Stand Jvm.LawKit Jvm.RoadKit Bundle Jvm.Pilot.@@N@@.Jvm.D
theorem own_pd0 : parseMethodDescriptor "(S)Z" = some ⟨[.short], some .boolean⟩ := by decide +kernel
theorem d1_0 : decode prog_2_method_8_code 0 = .ok (.iload_n 1, 1) := by decide +kernel
theorem d1_1 : decode prog_2_method_8_code 1 = .ok (.aload_n 0, 1) := by decide +kernel
theorem d1_2 : decode prog_2_method_8_code 2 = .ok (.getfield 72, 3) := by decide +kernel
theorem d1_5 : decode prog_2_method_8_code 5 = .ok (.if_icmp .lt 15, 3) := by decide +kernel
theorem d1_8 : decode prog_2_method_8_code 8 = .ok (.iload_n 1, 1) := by decide +kernel
theorem d1_9 : decode prog_2_method_8_code 9 = .ok (.aload_n 0, 1) := by decide +kernel
theorem d1_10 : decode prog_2_method_8_code 10 = .ok (.getfield 75, 3) := by decide +kernel
theorem d1_13 : decode prog_2_method_8_code 13 = .ok (.if_icmp .gt 7, 3) := by decide +kernel
theorem d1_16 : decode prog_2_method_8_code 16 = .ok (.iconst 1, 1) := by decide +kernel
theorem d1_17 : decode prog_2_method_8_code 17 = .ok (.goto 4, 3) := by decide +kernel
theorem d1_20 : decode prog_2_method_8_code 20 = .ok (.iconst 0, 1) := by decide +kernel
theorem d1_21 : decode prog_2_method_8_code 21 = .ok (.ireturn, 1) := by decide +kernel
theorem own_pn0 : plainFor x = true := by first | exact plainFor_of_name (by first | (simp [plainName, overriddenIn]; done) | decide +kernel) | decide +kernel
theorem own_pn1 : plainFor (⟨"com/example/usher/usher/ApiKey", "offers", "(S)Z"⟩ : MethodName) = true := by first | exact plainFor_of_name (by first | (simp [plainName, overriddenIn]; done) | decide +kernel) | decide +kernel
def Hyp (Z : State) (w : Nat → Addr) : Prop :=
  Sta Z Z.heap "com/example/usher/usher/ApiKey" "PRODUCE" "Lcom/example/usher/usher/ApiKey;" (.ref (w 0)) ∧
  Exa Z Z.heap (w 0) "com/example/usher/usher/ApiKey" ∧
  Fld Z Z.heap (w 0) "com/example/usher/usher/ApiKey" "highestVersion" "S" (.int (7 : Int32)) ∧
  Fld Z Z.heap (w 0) "com/example/usher/usher/ApiKey" "lowestVersion" "S" (.int (0 : Int32)) ∧
  Sta Z Z.heap "com/example/usher/usher/ApiKey" "FETCH" "Lcom/example/usher/usher/ApiKey;" (.ref (w 1)) ∧
  Exa Z Z.heap (w 1) "com/example/usher/usher/ApiKey" ∧
  Fld Z Z.heap (w 1) "com/example/usher/usher/ApiKey" "highestVersion" "S" (.int (11 : Int32)) ∧
  Fld Z Z.heap (w 1) "com/example/usher/usher/ApiKey" "lowestVersion" "S" (.int (4 : Int32)) ∧
  Sta Z Z.heap "com/example/usher/usher/ApiKey" "LIST_OFFSETS" "Lcom/example/usher/usher/ApiKey;" (.ref (w 2)) ∧
  Exa Z Z.heap (w 2) "com/example/usher/usher/ApiKey" ∧
  Fld Z Z.heap (w 2) "com/example/usher/usher/ApiKey" "highestVersion" "S" (.int (2 : Int32)) ∧
  Fld Z Z.heap (w 2) "com/example/usher/usher/ApiKey" "lowestVersion" "S" (.int (1 : Int32)) ∧
  Sta Z Z.heap "com/example/usher/usher/ApiKey" "METADATA" "Lcom/example/usher/usher/ApiKey;" (.ref (w 3)) ∧
  Exa Z Z.heap (w 3) "com/example/usher/usher/ApiKey" ∧
  Fld Z Z.heap (w 3) "com/example/usher/usher/ApiKey" "highestVersion" "S" (.int (5 : Int32)) ∧
  Fld Z Z.heap (w 3) "com/example/usher/usher/ApiKey" "lowestVersion" "S" (.int (0 : Int32)) ∧
  Sta Z Z.heap "com/example/usher/usher/ApiKey" "OFFSET_COMMIT" "Lcom/example/usher/usher/ApiKey;" (.ref (w 4)) ∧
  Exa Z Z.heap (w 4) "com/example/usher/usher/ApiKey" ∧
  Fld Z Z.heap (w 4) "com/example/usher/usher/ApiKey" "highestVersion" "S" (.int (7 : Int32)) ∧
  Fld Z Z.heap (w 4) "com/example/usher/usher/ApiKey" "lowestVersion" "S" (.int (1 : Int32)) ∧
  Sta Z Z.heap "com/example/usher/usher/ApiKey" "OFFSET_FETCH" "Lcom/example/usher/usher/ApiKey;" (.ref (w 5)) ∧
  Exa Z Z.heap (w 5) "com/example/usher/usher/ApiKey" ∧
  Fld Z Z.heap (w 5) "com/example/usher/usher/ApiKey" "highestVersion" "S" (.int (5 : Int32)) ∧
  Fld Z Z.heap (w 5) "com/example/usher/usher/ApiKey" "lowestVersion" "S" (.int (1 : Int32)) ∧
  Sta Z Z.heap "com/example/usher/usher/ApiKey" "FIND_COORDINATOR" "Lcom/example/usher/usher/ApiKey;" (.ref (w 6)) ∧
  Exa Z Z.heap (w 6) "com/example/usher/usher/ApiKey" ∧
  Fld Z Z.heap (w 6) "com/example/usher/usher/ApiKey" "highestVersion" "S" (.int (2 : Int32)) ∧
  Fld Z Z.heap (w 6) "com/example/usher/usher/ApiKey" "lowestVersion" "S" (.int (0 : Int32)) ∧
  Sta Z Z.heap "com/example/usher/usher/ApiKey" "JOIN_GROUP" "Lcom/example/usher/usher/ApiKey;" (.ref (w 7)) ∧
  Exa Z Z.heap (w 7) "com/example/usher/usher/ApiKey" ∧
  Fld Z Z.heap (w 7) "com/example/usher/usher/ApiKey" "highestVersion" "S" (.int (5 : Int32)) ∧
  Fld Z Z.heap (w 7) "com/example/usher/usher/ApiKey" "lowestVersion" "S" (.int (0 : Int32)) ∧
  Sta Z Z.heap "com/example/usher/usher/ApiKey" "HEARTBEAT" "Lcom/example/usher/usher/ApiKey;" (.ref (w 8)) ∧
  Exa Z Z.heap (w 8) "com/example/usher/usher/ApiKey" ∧
  Fld Z Z.heap (w 8) "com/example/usher/usher/ApiKey" "highestVersion" "S" (.int (3 : Int32)) ∧
  Fld Z Z.heap (w 8) "com/example/usher/usher/ApiKey" "lowestVersion" "S" (.int (0 : Int32)) ∧
  Sta Z Z.heap "com/example/usher/usher/ApiKey" "LEAVE_GROUP" "Lcom/example/usher/usher/ApiKey;" (.ref (w 9)) ∧
  Exa Z Z.heap (w 9) "com/example/usher/usher/ApiKey" ∧
  Fld Z Z.heap (w 9) "com/example/usher/usher/ApiKey" "highestVersion" "S" (.int (1 : Int32)) ∧
  Fld Z Z.heap (w 9) "com/example/usher/usher/ApiKey" "lowestVersion" "S" (.int (0 : Int32)) ∧
  Sta Z Z.heap "com/example/usher/usher/ApiKey" "SYNC_GROUP" "Lcom/example/usher/usher/ApiKey;" (.ref (w 10)) ∧
  Exa Z Z.heap (w 10) "com/example/usher/usher/ApiKey" ∧
  Fld Z Z.heap (w 10) "com/example/usher/usher/ApiKey" "highestVersion" "S" (.int (3 : Int32)) ∧
  Fld Z Z.heap (w 10) "com/example/usher/usher/ApiKey" "lowestVersion" "S" (.int (0 : Int32)) ∧
  Sta Z Z.heap "com/example/usher/usher/ApiKey" "DESCRIBE_GROUPS" "Lcom/example/usher/usher/ApiKey;" (.ref (w 11)) ∧
  Exa Z Z.heap (w 11) "com/example/usher/usher/ApiKey" ∧
  Fld Z Z.heap (w 11) "com/example/usher/usher/ApiKey" "highestVersion" "S" (.int (4 : Int32)) ∧
  Fld Z Z.heap (w 11) "com/example/usher/usher/ApiKey" "lowestVersion" "S" (.int (0 : Int32)) ∧
  Sta Z Z.heap "com/example/usher/usher/ApiKey" "LIST_GROUPS" "Lcom/example/usher/usher/ApiKey;" (.ref (w 12)) ∧
  Exa Z Z.heap (w 12) "com/example/usher/usher/ApiKey" ∧
  Fld Z Z.heap (w 12) "com/example/usher/usher/ApiKey" "highestVersion" "S" (.int (2 : Int32)) ∧
  Fld Z Z.heap (w 12) "com/example/usher/usher/ApiKey" "lowestVersion" "S" (.int (0 : Int32)) ∧
  Sta Z Z.heap "com/example/usher/usher/ApiKey" "API_VERSIONS" "Lcom/example/usher/usher/ApiKey;" (.ref (w 13)) ∧
  Exa Z Z.heap (w 13) "com/example/usher/usher/ApiKey" ∧
  Fld Z Z.heap (w 13) "com/example/usher/usher/ApiKey" "highestVersion" "S" (.int (3 : Int32)) ∧
  Fld Z Z.heap (w 13) "com/example/usher/usher/ApiKey" "lowestVersion" "S" (.int (0 : Int32)) ∧
  Sta Z Z.heap "com/example/usher/usher/ApiKey" "INIT_PRODUCER_ID" "Lcom/example/usher/usher/ApiKey;" (.ref (w 14)) ∧
  Exa Z Z.heap (w 14) "com/example/usher/usher/ApiKey" ∧
  Fld Z Z.heap (w 14) "com/example/usher/usher/ApiKey" "highestVersion" "S" (.int (1 : Int32)) ∧
  Fld Z Z.heap (w 14) "com/example/usher/usher/ApiKey" "lowestVersion" "S" (.int (0 : Int32))
theorem own_cases15 {i : Int32} (h0 : 0 ≤ i.toInt) (h1 : i.toInt < 15) : i = 0 ∨ i = 1 ∨ i = 2 ∨ i = 3 ∨ i = 4 ∨ i = 5 ∨ i = 6 ∨ i = 7 ∨ i = 8 ∨ i = 9 ∨ i = 10 ∨ i = 11 ∨ i = 12 ∨ i = 13 ∨ i = 14 := by
  have h : i.toInt = 0 ∨ i.toInt = 1 ∨ i.toInt = 2 ∨ i.toInt = 3 ∨ i.toInt = 4 ∨ i.toInt = 5 ∨ i.toInt = 6 ∨ i.toInt = 7 ∨ i.toInt = 8 ∨ i.toInt = 9 ∨ i.toInt = 10 ∨ i.toInt = 11 ∨ i.toInt = 12 ∨ i.toInt = 13 ∨ i.toInt = 14 := by omega
  rcases h with h | h | h | h | h | h | h | h | h | h | h | h | h | h | h <;> simp [← Int32.toInt_inj, h]
def own_pick (i : Int32) (w : Nat → Addr) : Addr := if i = 0 then w 0 else if i = 1 then w 1 else if i = 2 then w 2 else if i = 3 then w 3 else if i = 4 then w 4 else if i = 5 then w 5 else if i = 6 then w 6 else if i = 7 then w 7 else if i = 8 then w 8 else if i = 9 then w 9 else if i = 10 then w 10 else if i = 11 then w 11 else if i = 12 then w 12 else if i = 13 then w 13 else w 14
def own_lo (i : Int32) : Int32 := if i = 0 then 0 else if i = 1 then 4 else if i = 2 then 1 else if i = 3 then 0 else if i = 4 then 1 else if i = 5 then 1 else if i = 6 then 0 else if i = 7 then 0 else if i = 8 then 0 else if i = 9 then 0 else if i = 10 then 0 else if i = 11 then 0 else if i = 12 then 0 else if i = 13 then 0 else 0
def own_hi (i : Int32) : Int32 := if i = 0 then 7 else if i = 1 then 11 else if i = 2 then 2 else if i = 3 then 5 else if i = 4 then 7 else if i = 5 then 5 else if i = 6 then 2 else if i = 7 then 5 else if i = 8 then 3 else if i = 9 then 1 else if i = 10 then 3 else if i = 11 then 4 else if i = 12 then 2 else if i = 13 then 3 else 1
def own_off (lo hi v : Int32) : Int32 := if v < lo then 0 else if hi < v then 0 else 1
set_option maxRecDepth 65536 in
set_option maxHeartbeats 4000000 in
theorem rm1 (l : Launch) (Z : State) (a0 : Array Value) (hw : ∀ d ∈ tables_1, d.before a0 Z = true) (ws : List Jvm.Cond) (a : Addr) (lo hi v : Int32) (h0 : Heap) (Ex0 : Ext Z.heap h0) (Flo : Fld Z Z.heap a "com/example/usher/usher/ApiKey" "lowestVersion" "S" (.int lo)) (Fhi : Fld Z Z.heap a "com/example/usher/usher/ApiKey" "highestVersion" "S" (.int hi)) :
    own_Met l Z (⟨"com/example/usher/usher/ApiKey", "offers", "(S)Z"⟩ : MethodName) prog_2_method_8_code 2 (some .boolean) ws ({ frames := 0, cells := 0, slots := 0, locals := 0 } : Room) #[(.ref a), (.int v)] h0 (own_P Z h0 (.int (own_off lo hi v))) := by
  refine own_body (ls := #[.val (.ref a), .val (.int v)]) own_pn1 (fun m => by first | (simp [entryFrame, mkF, argsToLocals, Value.category]; done) | rfl) ?_
  intro p e s m below meth c T0 hZ hx hby hml' hown' hnm hret' hlk X0 e0
  have hml : c.maxLocals = 2 := hml'
  have hown : s.vm.findClass "com/example/usher/usher/ApiKey" = some m.cls := hown'
  have hret : meth.sig.returnType = (some .boolean) := hret'
  have N0 := Fr.nil Z.heap.size
  refine own_step (S' := T0.setTop (mkF m 1 #[.val (.ref a), .val (.int v)] [(.int v)])) (fun t k => XS.iloadN X0.here hx rfl (hb hby d1_0) rfl k) ?_
  refine own_step (S' := T0.setTop (mkF m 2 #[.val (.ref a), .val (.int v)] [(.ref a), (.int v)])) (fun t k => XS.aloadN X0.here hx rfl (hb hby d1_1) rfl rfl k) ?_
  obtain ⟨T1, X1, e1, st1⟩ := getF X0 hx hZ hown (host := "") (Or.inl (hw _ (List.mem_of_getElem? (i := 41) rfl))) Via.refl e0 (Flo.ext Ex0) (g := (mkF m 2 #[.val (.ref a), .val (.int v)] [(.ref a), (.int v)])) rfl rfl (hb hby d1_2)
  refine own_step (S' := T1.setTop (mkF m 5 #[.val (.ref a), .val (.int v)] [(.int lo), (.int v)])) (fun t k => st1 t k) ?_
  by_cases q2 : v < lo
  ·
    refine own_step (S' := T1.setTop (mkF m 20 #[.val (.ref a), .val (.int v)] [])) (fun t k => XS.icmpYes X1.here hx rfl (pc0 := 5) (pc' := 20) rfl (hb hby d1_5) rfl (tlt (q2 : v < lo)).1 (by decide) (by decide) k) ?_
    refine own_step (S' := T1.setTop (mkF m 21 #[.val (.ref a), .val (.int v)] [(.int (0 : Int32))])) (fun t k => XS.iconst X1.here hx rfl (hb hby d1_20) k) ?_
    exact own_retI (t := .boolean) X1 hx hlk hret (Or.inr (Or.inl rfl)) rfl (hb hby d1_21) (⟨by unfold own_off; rw [if_pos q2], N0, e1⟩) (by decide) (by decide)
  ·
    refine own_step (S' := T1.setTop (mkF m 8 #[.val (.ref a), .val (.int v)] [])) (fun t k => XS.icmpNo X1.here hx rfl (hb hby d1_5) rfl (flt (q2 : ¬ (v < lo))).1 k) ?_
    refine own_step (S' := T1.setTop (mkF m 9 #[.val (.ref a), .val (.int v)] [(.int v)])) (fun t k => XS.iloadN X1.here hx rfl (hb hby d1_8) rfl k) ?_
    refine own_step (S' := T1.setTop (mkF m 10 #[.val (.ref a), .val (.int v)] [(.ref a), (.int v)])) (fun t k => XS.aloadN X1.here hx rfl (hb hby d1_9) rfl rfl k) ?_
    obtain ⟨T3, X3, e3, st3⟩ := getF X1 hx hZ hown (host := "") (Or.inl (hw _ (List.mem_of_getElem? (i := 43) rfl))) Via.refl e1 (Fhi.ext Ex0) (g := (mkF m 10 #[.val (.ref a), .val (.int v)] [(.ref a), (.int v)])) rfl rfl (hb hby d1_10)
    refine own_step (S' := T3.setTop (mkF m 13 #[.val (.ref a), .val (.int v)] [(.int hi), (.int v)])) (fun t k => st3 t k) ?_
    by_cases q4 : hi < v
    ·
      refine own_step (S' := T3.setTop (mkF m 20 #[.val (.ref a), .val (.int v)] [])) (fun t k => XS.icmpYes X3.here hx rfl (pc0 := 13) (pc' := 20) rfl (hb hby d1_13) rfl (tlt (q4 : hi < v)).2.2.1 (by decide) (by decide) k) ?_
      refine own_step (S' := T3.setTop (mkF m 21 #[.val (.ref a), .val (.int v)] [(.int (0 : Int32))])) (fun t k => XS.iconst X3.here hx rfl (hb hby d1_20) k) ?_
      exact own_retI (t := .boolean) X3 hx hlk hret (Or.inr (Or.inl rfl)) rfl (hb hby d1_21) (⟨by unfold own_off; rw [if_neg q2, if_pos q4], N0, e3⟩) (by decide) (by decide)
    ·
      refine own_step (S' := T3.setTop (mkF m 16 #[.val (.ref a), .val (.int v)] [])) (fun t k => XS.icmpNo X3.here hx rfl (hb hby d1_13) rfl (flt (q4 : ¬ (hi < v))).2.2.1 k) ?_
      refine own_step (S' := T3.setTop (mkF m 17 #[.val (.ref a), .val (.int v)] [(.int (1 : Int32))])) (fun t k => XS.iconst X3.here hx rfl (hb hby d1_16) k) ?_
      refine own_step (S' := T3.setTop (mkF m 21 #[.val (.ref a), .val (.int v)] [(.int (1 : Int32))])) (fun t k => XS.goto X3.here hx rfl (pc0 := 17) (pc' := 21) rfl (hb hby d1_17) (by decide) (by decide) k) ?_
      exact own_retI (t := .boolean) X3 hx hlk hret (Or.inr (Or.inl rfl)) rfl (hb hby d1_21) (⟨by unfold own_off; rw [if_neg q2, if_neg q4], N0, e3⟩) (by decide) (by decide)
set_option maxRecDepth 65536 in
set_option maxHeartbeats 4000000 in
theorem rm0 (l : Launch) (Z : State) (a0 : Array Value) (hw : ∀ d ∈ tables_1, d.before a0 Z = true) (ws : List Jvm.Cond) (w : Nat → Addr) (H : Hyp Z w) (p0 p1 p2 : Int32) (h0 : Heap) (Ex0 : Ext Z.heap h0)  :
    own_Met l Z x code maxLocals ret ws room_1 #[(.int p0), (.int p1), (.int p2)] h0 (fun v _ L => v = some (.int 1) ∧ Fr Z.heap.size L) := by
  have H0 := H
  obtain ⟨sS0, sE0, sF0_highestVersion, sF0_lowestVersion, sS1, sE1, sF1_highestVersion, sF1_lowestVersion, sS2, sE2, sF2_highestVersion, sF2_lowestVersion, sS3, sE3, sF3_highestVersion, sF3_lowestVersion, sS4, sE4, sF4_highestVersion, sF4_lowestVersion, sS5, sE5, sF5_highestVersion, sF5_lowestVersion, sS6, sE6, sF6_highestVersion, sF6_lowestVersion, sS7, sE7, sF7_highestVersion, sF7_lowestVersion, sS8, sE8, sF8_highestVersion, sF8_lowestVersion, sS9, sE9, sF9_highestVersion, sF9_lowestVersion, sS10, sE10, sF10_highestVersion, sF10_lowestVersion, sS11, sE11, sF11_highestVersion, sF11_lowestVersion, sS12, sE12, sF12_highestVersion, sF12_lowestVersion, sS13, sE13, sF13_highestVersion, sF13_lowestVersion, sS14, sE14, sF14_highestVersion, sF14_lowestVersion⟩ := H0
  refine own_body (ls := #[.val (.int p0), .val (.int p1), .val (.int p2), .unset, .unset, .unset, .unset, .unset, .unset, .unset, .unset]) own_pn0 (fun m => by first | (simp [entryFrame, mkF, argsToLocals, Value.category, maxLocals]; done) | rfl) ?_
  intro p e s m below meth c T0 hZ hx hby hml' hown' hnm hret' hlk X0 e0
  have hml : c.maxLocals = 11 := hml'
  have hown : s.vm.findClass "com/example/usher/usher/ApiKeyOffersPinLaw" = some m.cls := hown'
  have hret : meth.sig.returnType = (some .boolean) := hret'
  have N0 := Fr.nil Z.heap.size
  refine own_step (S' := T0.setTop (mkF m 2 #[.val (.int p0), .val (.int p1), .val (.int p2), .unset, .unset, .unset, .unset, .unset, .unset, .unset, .unset] [(.int (15 : Int32))])) (fun t k => XS.bipush X0.here hx rfl (hb hby at_0) k) ?_
  obtain ⟨T1, h1, kc1, b1, X1, e1, E1, Ex1, A1, O1, hb1, hs1, st1⟩ := own_newR X0 hx hZ hown (hw _ (List.mem_of_getElem? (i := 0) rfl)) (hw _ (List.mem_of_getElem? (i := 1) rfl)) e0 Ex0 (g := (mkF m 2 #[.val (.int p0), .val (.int p1), .val (.int p2), .unset, .unset, .unset, .unset, .unset, .unset, .unset, .unset] [(.int (15 : Int32))])) rfl (hb hby at_2) rfl (by decide) [.null, .null, .null, .null, .null, .null, .null, .null, .null, .null, .null, .null, .null, .null, .null] rfl (cap := 15) (by decide) (by decide) (by decide) (by decide)
  refine own_step (S' := T1.setTop (mkF m 5 #[.val (.int p0), .val (.int p1), .val (.int p2), .unset, .unset, .unset, .unset, .unset, .unset, .unset, .unset] [(.ref b1)])) (fun t k => st1 t k) ?_
  refine own_step (S' := T1.setTop (mkF m 6 #[.val (.int p0), .val (.int p1), .val (.int p2), .unset, .unset, .unset, .unset, .unset, .unset, .unset, .unset] [(.ref b1), (.ref b1)])) (fun t k => XS.dup X1.here hx rfl (hb hby at_5) rfl rfl k) ?_
  refine own_step (S' := T1.setTop (mkF m 7 #[.val (.int p0), .val (.int p1), .val (.int p2), .unset, .unset, .unset, .unset, .unset, .unset, .unset, .unset] [(.int (0 : Int32)), (.ref b1), (.ref b1)])) (fun t k => XS.iconst X1.here hx rfl (hb hby at_6) k) ?_
  obtain ⟨T2, X2, e2, st2⟩ := getS2 X1 hx hZ hown (host := "") (Or.inl (hw _ (List.mem_of_getElem? (i := 2) rfl))) Via.refl e1 (sS0.ext Ex1) (g := (mkF m 7 #[.val (.int p0), .val (.int p1), .val (.int p2), .unset, .unset, .unset, .unset, .unset, .unset, .unset, .unset] [(.int (0 : Int32)), (.ref b1), (.ref b1)])) rfl (hb hby at_7)
  refine own_step (S' := T2.setTop (mkF m 10 #[.val (.int p0), .val (.int p1), .val (.int p2), .unset, .unset, .unset, .unset, .unset, .unset, .unset, .unset] [(.ref (w 0)), (.int (0 : Int32)), (.ref b1), (.ref b1)])) (fun t k => st2 t k) ?_
  obtain ⟨T3, h3, lc3, X3, e3, A3, Ex3, N3, W3, st3⟩ := own_stR X2 hx hZ e2 A1 O1 (sE0.ext Ex1) (j := (0 : Int32)) 0 [.ref (w 0), .null, .null, .null, .null, .null, .null, .null, .null, .null, .null, .null, .null, .null, .null] (by decide) (by decide) (by decide : 0 < 15) rfl Ex1 hb1 N0 (g := (mkF m 10 #[.val (.int p0), .val (.int p1), .val (.int p2), .unset, .unset, .unset, .unset, .unset, .unset, .unset, .unset] [(.ref (w 0)), (.int (0 : Int32)), (.ref b1), (.ref b1)])) rfl rfl (hb hby at_10)
  refine own_step (S' := T3.setTop (mkF m 11 #[.val (.int p0), .val (.int p1), .val (.int p2), .unset, .unset, .unset, .unset, .unset, .unset, .unset, .unset] [(.ref b1)])) (fun t k => st3 t k) ?_
  refine own_step (S' := T3.setTop (mkF m 12 #[.val (.int p0), .val (.int p1), .val (.int p2), .unset, .unset, .unset, .unset, .unset, .unset, .unset, .unset] [(.ref b1), (.ref b1)])) (fun t k => XS.dup X3.here hx rfl (hb hby at_11) rfl rfl k) ?_
  refine own_step (S' := T3.setTop (mkF m 13 #[.val (.int p0), .val (.int p1), .val (.int p2), .unset, .unset, .unset, .unset, .unset, .unset, .unset, .unset] [(.int (1 : Int32)), (.ref b1), (.ref b1)])) (fun t k => XS.iconst X3.here hx rfl (hb hby at_12) k) ?_
  obtain ⟨T4, X4, e4, st4⟩ := getS2 X3 hx hZ hown (host := "") (Or.inl (hw _ (List.mem_of_getElem? (i := 6) rfl))) Via.refl e3 (sS1.ext Ex3) (g := (mkF m 13 #[.val (.int p0), .val (.int p1), .val (.int p2), .unset, .unset, .unset, .unset, .unset, .unset, .unset, .unset] [(.int (1 : Int32)), (.ref b1), (.ref b1)])) rfl (hb hby at_13)
  refine own_step (S' := T4.setTop (mkF m 16 #[.val (.int p0), .val (.int p1), .val (.int p2), .unset, .unset, .unset, .unset, .unset, .unset, .unset, .unset] [(.ref (w 1)), (.int (1 : Int32)), (.ref b1), (.ref b1)])) (fun t k => st4 t k) ?_
  obtain ⟨T5, h5, lc5, X5, e5, A5, Ex5, N5, W5, st5⟩ := own_stR X4 hx hZ e4 A3 O1 (sE1.ext Ex3) (j := (1 : Int32)) 1 [.ref (w 0), .ref (w 1), .null, .null, .null, .null, .null, .null, .null, .null, .null, .null, .null, .null, .null] (by decide) (by decide) (by decide : 1 < 15) rfl Ex3 hb1 N3 (g := (mkF m 16 #[.val (.int p0), .val (.int p1), .val (.int p2), .unset, .unset, .unset, .unset, .unset, .unset, .unset, .unset] [(.ref (w 1)), (.int (1 : Int32)), (.ref b1), (.ref b1)])) rfl rfl (hb hby at_16)
  refine own_step (S' := T5.setTop (mkF m 17 #[.val (.int p0), .val (.int p1), .val (.int p2), .unset, .unset, .unset, .unset, .unset, .unset, .unset, .unset] [(.ref b1)])) (fun t k => st5 t k) ?_
  refine own_step (S' := T5.setTop (mkF m 18 #[.val (.int p0), .val (.int p1), .val (.int p2), .unset, .unset, .unset, .unset, .unset, .unset, .unset, .unset] [(.ref b1), (.ref b1)])) (fun t k => XS.dup X5.here hx rfl (hb hby at_17) rfl rfl k) ?_
  refine own_step (S' := T5.setTop (mkF m 19 #[.val (.int p0), .val (.int p1), .val (.int p2), .unset, .unset, .unset, .unset, .unset, .unset, .unset, .unset] [(.int (2 : Int32)), (.ref b1), (.ref b1)])) (fun t k => XS.iconst X5.here hx rfl (hb hby at_18) k) ?_
  obtain ⟨T6, X6, e6, st6⟩ := getS2 X5 hx hZ hown (host := "") (Or.inl (hw _ (List.mem_of_getElem? (i := 8) rfl))) Via.refl e5 (sS2.ext Ex5) (g := (mkF m 19 #[.val (.int p0), .val (.int p1), .val (.int p2), .unset, .unset, .unset, .unset, .unset, .unset, .unset, .unset] [(.int (2 : Int32)), (.ref b1), (.ref b1)])) rfl (hb hby at_19)
  refine own_step (S' := T6.setTop (mkF m 22 #[.val (.int p0), .val (.int p1), .val (.int p2), .unset, .unset, .unset, .unset, .unset, .unset, .unset, .unset] [(.ref (w 2)), (.int (2 : Int32)), (.ref b1), (.ref b1)])) (fun t k => st6 t k) ?_
  obtain ⟨T7, h7, lc7, X7, e7, A7, Ex7, N7, W7, st7⟩ := own_stR X6 hx hZ e6 A5 O1 (sE2.ext Ex5) (j := (2 : Int32)) 2 [.ref (w 0), .ref (w 1), .ref (w 2), .null, .null, .null, .null, .null, .null, .null, .null, .null, .null, .null, .null] (by decide) (by decide) (by decide : 2 < 15) rfl Ex5 hb1 N5 (g := (mkF m 22 #[.val (.int p0), .val (.int p1), .val (.int p2), .unset, .unset, .unset, .unset, .unset, .unset, .unset, .unset] [(.ref (w 2)), (.int (2 : Int32)), (.ref b1), (.ref b1)])) rfl rfl (hb hby at_22)
  refine own_step (S' := T7.setTop (mkF m 23 #[.val (.int p0), .val (.int p1), .val (.int p2), .unset, .unset, .unset, .unset, .unset, .unset, .unset, .unset] [(.ref b1)])) (fun t k => st7 t k) ?_
  refine own_step (S' := T7.setTop (mkF m 24 #[.val (.int p0), .val (.int p1), .val (.int p2), .unset, .unset, .unset, .unset, .unset, .unset, .unset, .unset] [(.ref b1), (.ref b1)])) (fun t k => XS.dup X7.here hx rfl (hb hby at_23) rfl rfl k) ?_
  refine own_step (S' := T7.setTop (mkF m 25 #[.val (.int p0), .val (.int p1), .val (.int p2), .unset, .unset, .unset, .unset, .unset, .unset, .unset, .unset] [(.int (3 : Int32)), (.ref b1), (.ref b1)])) (fun t k => XS.iconst X7.here hx rfl (hb hby at_24) k) ?_
  obtain ⟨T8, X8, e8, st8⟩ := getS2 X7 hx hZ hown (host := "") (Or.inl (hw _ (List.mem_of_getElem? (i := 10) rfl))) Via.refl e7 (sS3.ext Ex7) (g := (mkF m 25 #[.val (.int p0), .val (.int p1), .val (.int p2), .unset, .unset, .unset, .unset, .unset, .unset, .unset, .unset] [(.int (3 : Int32)), (.ref b1), (.ref b1)])) rfl (hb hby at_25)
  refine own_step (S' := T8.setTop (mkF m 28 #[.val (.int p0), .val (.int p1), .val (.int p2), .unset, .unset, .unset, .unset, .unset, .unset, .unset, .unset] [(.ref (w 3)), (.int (3 : Int32)), (.ref b1), (.ref b1)])) (fun t k => st8 t k) ?_
  obtain ⟨T9, h9, lc9, X9, e9, A9, Ex9, N9, W9, st9⟩ := own_stR X8 hx hZ e8 A7 O1 (sE3.ext Ex7) (j := (3 : Int32)) 3 [.ref (w 0), .ref (w 1), .ref (w 2), .ref (w 3), .null, .null, .null, .null, .null, .null, .null, .null, .null, .null, .null] (by decide) (by decide) (by decide : 3 < 15) rfl Ex7 hb1 N7 (g := (mkF m 28 #[.val (.int p0), .val (.int p1), .val (.int p2), .unset, .unset, .unset, .unset, .unset, .unset, .unset, .unset] [(.ref (w 3)), (.int (3 : Int32)), (.ref b1), (.ref b1)])) rfl rfl (hb hby at_28)
  refine own_step (S' := T9.setTop (mkF m 29 #[.val (.int p0), .val (.int p1), .val (.int p2), .unset, .unset, .unset, .unset, .unset, .unset, .unset, .unset] [(.ref b1)])) (fun t k => st9 t k) ?_
  refine own_step (S' := T9.setTop (mkF m 30 #[.val (.int p0), .val (.int p1), .val (.int p2), .unset, .unset, .unset, .unset, .unset, .unset, .unset, .unset] [(.ref b1), (.ref b1)])) (fun t k => XS.dup X9.here hx rfl (hb hby at_29) rfl rfl k) ?_
  refine own_step (S' := T9.setTop (mkF m 31 #[.val (.int p0), .val (.int p1), .val (.int p2), .unset, .unset, .unset, .unset, .unset, .unset, .unset, .unset] [(.int (4 : Int32)), (.ref b1), (.ref b1)])) (fun t k => XS.iconst X9.here hx rfl (hb hby at_30) k) ?_
  obtain ⟨T10, X10, e10, st10⟩ := getS2 X9 hx hZ hown (host := "") (Or.inl (hw _ (List.mem_of_getElem? (i := 12) rfl))) Via.refl e9 (sS4.ext Ex9) (g := (mkF m 31 #[.val (.int p0), .val (.int p1), .val (.int p2), .unset, .unset, .unset, .unset, .unset, .unset, .unset, .unset] [(.int (4 : Int32)), (.ref b1), (.ref b1)])) rfl (hb hby at_31)
  refine own_step (S' := T10.setTop (mkF m 34 #[.val (.int p0), .val (.int p1), .val (.int p2), .unset, .unset, .unset, .unset, .unset, .unset, .unset, .unset] [(.ref (w 4)), (.int (4 : Int32)), (.ref b1), (.ref b1)])) (fun t k => st10 t k) ?_
  obtain ⟨T11, h11, lc11, X11, e11, A11, Ex11, N11, W11, st11⟩ := own_stR X10 hx hZ e10 A9 O1 (sE4.ext Ex9) (j := (4 : Int32)) 4 [.ref (w 0), .ref (w 1), .ref (w 2), .ref (w 3), .ref (w 4), .null, .null, .null, .null, .null, .null, .null, .null, .null, .null] (by decide) (by decide) (by decide : 4 < 15) rfl Ex9 hb1 N9 (g := (mkF m 34 #[.val (.int p0), .val (.int p1), .val (.int p2), .unset, .unset, .unset, .unset, .unset, .unset, .unset, .unset] [(.ref (w 4)), (.int (4 : Int32)), (.ref b1), (.ref b1)])) rfl rfl (hb hby at_34)
  refine own_step (S' := T11.setTop (mkF m 35 #[.val (.int p0), .val (.int p1), .val (.int p2), .unset, .unset, .unset, .unset, .unset, .unset, .unset, .unset] [(.ref b1)])) (fun t k => st11 t k) ?_
  refine own_step (S' := T11.setTop (mkF m 36 #[.val (.int p0), .val (.int p1), .val (.int p2), .unset, .unset, .unset, .unset, .unset, .unset, .unset, .unset] [(.ref b1), (.ref b1)])) (fun t k => XS.dup X11.here hx rfl (hb hby at_35) rfl rfl k) ?_
  refine own_step (S' := T11.setTop (mkF m 37 #[.val (.int p0), .val (.int p1), .val (.int p2), .unset, .unset, .unset, .unset, .unset, .unset, .unset, .unset] [(.int (5 : Int32)), (.ref b1), (.ref b1)])) (fun t k => XS.iconst X11.here hx rfl (hb hby at_36) k) ?_
  obtain ⟨T12, X12, e12, st12⟩ := getS2 X11 hx hZ hown (host := "") (Or.inl (hw _ (List.mem_of_getElem? (i := 14) rfl))) Via.refl e11 (sS5.ext Ex11) (g := (mkF m 37 #[.val (.int p0), .val (.int p1), .val (.int p2), .unset, .unset, .unset, .unset, .unset, .unset, .unset, .unset] [(.int (5 : Int32)), (.ref b1), (.ref b1)])) rfl (hb hby at_37)
  refine own_step (S' := T12.setTop (mkF m 40 #[.val (.int p0), .val (.int p1), .val (.int p2), .unset, .unset, .unset, .unset, .unset, .unset, .unset, .unset] [(.ref (w 5)), (.int (5 : Int32)), (.ref b1), (.ref b1)])) (fun t k => st12 t k) ?_
  obtain ⟨T13, h13, lc13, X13, e13, A13, Ex13, N13, W13, st13⟩ := own_stR X12 hx hZ e12 A11 O1 (sE5.ext Ex11) (j := (5 : Int32)) 5 [.ref (w 0), .ref (w 1), .ref (w 2), .ref (w 3), .ref (w 4), .ref (w 5), .null, .null, .null, .null, .null, .null, .null, .null, .null] (by decide) (by decide) (by decide : 5 < 15) rfl Ex11 hb1 N11 (g := (mkF m 40 #[.val (.int p0), .val (.int p1), .val (.int p2), .unset, .unset, .unset, .unset, .unset, .unset, .unset, .unset] [(.ref (w 5)), (.int (5 : Int32)), (.ref b1), (.ref b1)])) rfl rfl (hb hby at_40)
  refine own_step (S' := T13.setTop (mkF m 41 #[.val (.int p0), .val (.int p1), .val (.int p2), .unset, .unset, .unset, .unset, .unset, .unset, .unset, .unset] [(.ref b1)])) (fun t k => st13 t k) ?_
  refine own_step (S' := T13.setTop (mkF m 42 #[.val (.int p0), .val (.int p1), .val (.int p2), .unset, .unset, .unset, .unset, .unset, .unset, .unset, .unset] [(.ref b1), (.ref b1)])) (fun t k => XS.dup X13.here hx rfl (hb hby at_41) rfl rfl k) ?_
  refine own_step (S' := T13.setTop (mkF m 44 #[.val (.int p0), .val (.int p1), .val (.int p2), .unset, .unset, .unset, .unset, .unset, .unset, .unset, .unset] [(.int (6 : Int32)), (.ref b1), (.ref b1)])) (fun t k => XS.bipush X13.here hx rfl (hb hby at_42) k) ?_
  obtain ⟨T14, X14, e14, st14⟩ := getS2 X13 hx hZ hown (host := "") (Or.inl (hw _ (List.mem_of_getElem? (i := 16) rfl))) Via.refl e13 (sS6.ext Ex13) (g := (mkF m 44 #[.val (.int p0), .val (.int p1), .val (.int p2), .unset, .unset, .unset, .unset, .unset, .unset, .unset, .unset] [(.int (6 : Int32)), (.ref b1), (.ref b1)])) rfl (hb hby at_44)
  refine own_step (S' := T14.setTop (mkF m 47 #[.val (.int p0), .val (.int p1), .val (.int p2), .unset, .unset, .unset, .unset, .unset, .unset, .unset, .unset] [(.ref (w 6)), (.int (6 : Int32)), (.ref b1), (.ref b1)])) (fun t k => st14 t k) ?_
  obtain ⟨T15, h15, lc15, X15, e15, A15, Ex15, N15, W15, st15⟩ := own_stR X14 hx hZ e14 A13 O1 (sE6.ext Ex13) (j := (6 : Int32)) 6 [.ref (w 0), .ref (w 1), .ref (w 2), .ref (w 3), .ref (w 4), .ref (w 5), .ref (w 6), .null, .null, .null, .null, .null, .null, .null, .null] (by decide) (by decide) (by decide : 6 < 15) rfl Ex13 hb1 N13 (g := (mkF m 47 #[.val (.int p0), .val (.int p1), .val (.int p2), .unset, .unset, .unset, .unset, .unset, .unset, .unset, .unset] [(.ref (w 6)), (.int (6 : Int32)), (.ref b1), (.ref b1)])) rfl rfl (hb hby at_47)
  refine own_step (S' := T15.setTop (mkF m 48 #[.val (.int p0), .val (.int p1), .val (.int p2), .unset, .unset, .unset, .unset, .unset, .unset, .unset, .unset] [(.ref b1)])) (fun t k => st15 t k) ?_
  refine own_step (S' := T15.setTop (mkF m 49 #[.val (.int p0), .val (.int p1), .val (.int p2), .unset, .unset, .unset, .unset, .unset, .unset, .unset, .unset] [(.ref b1), (.ref b1)])) (fun t k => XS.dup X15.here hx rfl (hb hby at_48) rfl rfl k) ?_
  refine own_step (S' := T15.setTop (mkF m 51 #[.val (.int p0), .val (.int p1), .val (.int p2), .unset, .unset, .unset, .unset, .unset, .unset, .unset, .unset] [(.int (7 : Int32)), (.ref b1), (.ref b1)])) (fun t k => XS.bipush X15.here hx rfl (hb hby at_49) k) ?_
  obtain ⟨T16, X16, e16, st16⟩ := getS2 X15 hx hZ hown (host := "") (Or.inl (hw _ (List.mem_of_getElem? (i := 18) rfl))) Via.refl e15 (sS7.ext Ex15) (g := (mkF m 51 #[.val (.int p0), .val (.int p1), .val (.int p2), .unset, .unset, .unset, .unset, .unset, .unset, .unset, .unset] [(.int (7 : Int32)), (.ref b1), (.ref b1)])) rfl (hb hby at_51)
  refine own_step (S' := T16.setTop (mkF m 54 #[.val (.int p0), .val (.int p1), .val (.int p2), .unset, .unset, .unset, .unset, .unset, .unset, .unset, .unset] [(.ref (w 7)), (.int (7 : Int32)), (.ref b1), (.ref b1)])) (fun t k => st16 t k) ?_
  obtain ⟨T17, h17, lc17, X17, e17, A17, Ex17, N17, W17, st17⟩ := own_stR X16 hx hZ e16 A15 O1 (sE7.ext Ex15) (j := (7 : Int32)) 7 [.ref (w 0), .ref (w 1), .ref (w 2), .ref (w 3), .ref (w 4), .ref (w 5), .ref (w 6), .ref (w 7), .null, .null, .null, .null, .null, .null, .null] (by decide) (by decide) (by decide : 7 < 15) rfl Ex15 hb1 N15 (g := (mkF m 54 #[.val (.int p0), .val (.int p1), .val (.int p2), .unset, .unset, .unset, .unset, .unset, .unset, .unset, .unset] [(.ref (w 7)), (.int (7 : Int32)), (.ref b1), (.ref b1)])) rfl rfl (hb hby at_54)
  refine own_step (S' := T17.setTop (mkF m 55 #[.val (.int p0), .val (.int p1), .val (.int p2), .unset, .unset, .unset, .unset, .unset, .unset, .unset, .unset] [(.ref b1)])) (fun t k => st17 t k) ?_
  refine own_step (S' := T17.setTop (mkF m 56 #[.val (.int p0), .val (.int p1), .val (.int p2), .unset, .unset, .unset, .unset, .unset, .unset, .unset, .unset] [(.ref b1), (.ref b1)])) (fun t k => XS.dup X17.here hx rfl (hb hby at_55) rfl rfl k) ?_
  refine own_step (S' := T17.setTop (mkF m 58 #[.val (.int p0), .val (.int p1), .val (.int p2), .unset, .unset, .unset, .unset, .unset, .unset, .unset, .unset] [(.int (8 : Int32)), (.ref b1), (.ref b1)])) (fun t k => XS.bipush X17.here hx rfl (hb hby at_56) k) ?_
  obtain ⟨T18, X18, e18, st18⟩ := getS2 X17 hx hZ hown (host := "") (Or.inl (hw _ (List.mem_of_getElem? (i := 20) rfl))) Via.refl e17 (sS8.ext Ex17) (g := (mkF m 58 #[.val (.int p0), .val (.int p1), .val (.int p2), .unset, .unset, .unset, .unset, .unset, .unset, .unset, .unset] [(.int (8 : Int32)), (.ref b1), (.ref b1)])) rfl (hb hby at_58)
  refine own_step (S' := T18.setTop (mkF m 61 #[.val (.int p0), .val (.int p1), .val (.int p2), .unset, .unset, .unset, .unset, .unset, .unset, .unset, .unset] [(.ref (w 8)), (.int (8 : Int32)), (.ref b1), (.ref b1)])) (fun t k => st18 t k) ?_
  obtain ⟨T19, h19, lc19, X19, e19, A19, Ex19, N19, W19, st19⟩ := own_stR X18 hx hZ e18 A17 O1 (sE8.ext Ex17) (j := (8 : Int32)) 8 [.ref (w 0), .ref (w 1), .ref (w 2), .ref (w 3), .ref (w 4), .ref (w 5), .ref (w 6), .ref (w 7), .ref (w 8), .null, .null, .null, .null, .null, .null] (by decide) (by decide) (by decide : 8 < 15) rfl Ex17 hb1 N17 (g := (mkF m 61 #[.val (.int p0), .val (.int p1), .val (.int p2), .unset, .unset, .unset, .unset, .unset, .unset, .unset, .unset] [(.ref (w 8)), (.int (8 : Int32)), (.ref b1), (.ref b1)])) rfl rfl (hb hby at_61)
  refine own_step (S' := T19.setTop (mkF m 62 #[.val (.int p0), .val (.int p1), .val (.int p2), .unset, .unset, .unset, .unset, .unset, .unset, .unset, .unset] [(.ref b1)])) (fun t k => st19 t k) ?_
  refine own_step (S' := T19.setTop (mkF m 63 #[.val (.int p0), .val (.int p1), .val (.int p2), .unset, .unset, .unset, .unset, .unset, .unset, .unset, .unset] [(.ref b1), (.ref b1)])) (fun t k => XS.dup X19.here hx rfl (hb hby at_62) rfl rfl k) ?_
  refine own_step (S' := T19.setTop (mkF m 65 #[.val (.int p0), .val (.int p1), .val (.int p2), .unset, .unset, .unset, .unset, .unset, .unset, .unset, .unset] [(.int (9 : Int32)), (.ref b1), (.ref b1)])) (fun t k => XS.bipush X19.here hx rfl (hb hby at_63) k) ?_
  obtain ⟨T20, X20, e20, st20⟩ := getS2 X19 hx hZ hown (host := "") (Or.inl (hw _ (List.mem_of_getElem? (i := 22) rfl))) Via.refl e19 (sS9.ext Ex19) (g := (mkF m 65 #[.val (.int p0), .val (.int p1), .val (.int p2), .unset, .unset, .unset, .unset, .unset, .unset, .unset, .unset] [(.int (9 : Int32)), (.ref b1), (.ref b1)])) rfl (hb hby at_65)
  refine own_step (S' := T20.setTop (mkF m 68 #[.val (.int p0), .val (.int p1), .val (.int p2), .unset, .unset, .unset, .unset, .unset, .unset, .unset, .unset] [(.ref (w 9)), (.int (9 : Int32)), (.ref b1), (.ref b1)])) (fun t k => st20 t k) ?_
  obtain ⟨T21, h21, lc21, X21, e21, A21, Ex21, N21, W21, st21⟩ := own_stR X20 hx hZ e20 A19 O1 (sE9.ext Ex19) (j := (9 : Int32)) 9 [.ref (w 0), .ref (w 1), .ref (w 2), .ref (w 3), .ref (w 4), .ref (w 5), .ref (w 6), .ref (w 7), .ref (w 8), .ref (w 9), .null, .null, .null, .null, .null] (by decide) (by decide) (by decide : 9 < 15) rfl Ex19 hb1 N19 (g := (mkF m 68 #[.val (.int p0), .val (.int p1), .val (.int p2), .unset, .unset, .unset, .unset, .unset, .unset, .unset, .unset] [(.ref (w 9)), (.int (9 : Int32)), (.ref b1), (.ref b1)])) rfl rfl (hb hby at_68)
  refine own_step (S' := T21.setTop (mkF m 69 #[.val (.int p0), .val (.int p1), .val (.int p2), .unset, .unset, .unset, .unset, .unset, .unset, .unset, .unset] [(.ref b1)])) (fun t k => st21 t k) ?_
  refine own_step (S' := T21.setTop (mkF m 70 #[.val (.int p0), .val (.int p1), .val (.int p2), .unset, .unset, .unset, .unset, .unset, .unset, .unset, .unset] [(.ref b1), (.ref b1)])) (fun t k => XS.dup X21.here hx rfl (hb hby at_69) rfl rfl k) ?_
  refine own_step (S' := T21.setTop (mkF m 72 #[.val (.int p0), .val (.int p1), .val (.int p2), .unset, .unset, .unset, .unset, .unset, .unset, .unset, .unset] [(.int (10 : Int32)), (.ref b1), (.ref b1)])) (fun t k => XS.bipush X21.here hx rfl (hb hby at_70) k) ?_
  obtain ⟨T22, X22, e22, st22⟩ := getS2 X21 hx hZ hown (host := "") (Or.inl (hw _ (List.mem_of_getElem? (i := 24) rfl))) Via.refl e21 (sS10.ext Ex21) (g := (mkF m 72 #[.val (.int p0), .val (.int p1), .val (.int p2), .unset, .unset, .unset, .unset, .unset, .unset, .unset, .unset] [(.int (10 : Int32)), (.ref b1), (.ref b1)])) rfl (hb hby at_72)
  refine own_step (S' := T22.setTop (mkF m 75 #[.val (.int p0), .val (.int p1), .val (.int p2), .unset, .unset, .unset, .unset, .unset, .unset, .unset, .unset] [(.ref (w 10)), (.int (10 : Int32)), (.ref b1), (.ref b1)])) (fun t k => st22 t k) ?_
  obtain ⟨T23, h23, lc23, X23, e23, A23, Ex23, N23, W23, st23⟩ := own_stR X22 hx hZ e22 A21 O1 (sE10.ext Ex21) (j := (10 : Int32)) 10 [.ref (w 0), .ref (w 1), .ref (w 2), .ref (w 3), .ref (w 4), .ref (w 5), .ref (w 6), .ref (w 7), .ref (w 8), .ref (w 9), .ref (w 10), .null, .null, .null, .null] (by decide) (by decide) (by decide : 10 < 15) rfl Ex21 hb1 N21 (g := (mkF m 75 #[.val (.int p0), .val (.int p1), .val (.int p2), .unset, .unset, .unset, .unset, .unset, .unset, .unset, .unset] [(.ref (w 10)), (.int (10 : Int32)), (.ref b1), (.ref b1)])) rfl rfl (hb hby at_75)
  refine own_step (S' := T23.setTop (mkF m 76 #[.val (.int p0), .val (.int p1), .val (.int p2), .unset, .unset, .unset, .unset, .unset, .unset, .unset, .unset] [(.ref b1)])) (fun t k => st23 t k) ?_
  refine own_step (S' := T23.setTop (mkF m 77 #[.val (.int p0), .val (.int p1), .val (.int p2), .unset, .unset, .unset, .unset, .unset, .unset, .unset, .unset] [(.ref b1), (.ref b1)])) (fun t k => XS.dup X23.here hx rfl (hb hby at_76) rfl rfl k) ?_
  refine own_step (S' := T23.setTop (mkF m 79 #[.val (.int p0), .val (.int p1), .val (.int p2), .unset, .unset, .unset, .unset, .unset, .unset, .unset, .unset] [(.int (11 : Int32)), (.ref b1), (.ref b1)])) (fun t k => XS.bipush X23.here hx rfl (hb hby at_77) k) ?_
  obtain ⟨T24, X24, e24, st24⟩ := getS2 X23 hx hZ hown (host := "") (Or.inl (hw _ (List.mem_of_getElem? (i := 26) rfl))) Via.refl e23 (sS11.ext Ex23) (g := (mkF m 79 #[.val (.int p0), .val (.int p1), .val (.int p2), .unset, .unset, .unset, .unset, .unset, .unset, .unset, .unset] [(.int (11 : Int32)), (.ref b1), (.ref b1)])) rfl (hb hby at_79)
  refine own_step (S' := T24.setTop (mkF m 82 #[.val (.int p0), .val (.int p1), .val (.int p2), .unset, .unset, .unset, .unset, .unset, .unset, .unset, .unset] [(.ref (w 11)), (.int (11 : Int32)), (.ref b1), (.ref b1)])) (fun t k => st24 t k) ?_
  obtain ⟨T25, h25, lc25, X25, e25, A25, Ex25, N25, W25, st25⟩ := own_stR X24 hx hZ e24 A23 O1 (sE11.ext Ex23) (j := (11 : Int32)) 11 [.ref (w 0), .ref (w 1), .ref (w 2), .ref (w 3), .ref (w 4), .ref (w 5), .ref (w 6), .ref (w 7), .ref (w 8), .ref (w 9), .ref (w 10), .ref (w 11), .null, .null, .null] (by decide) (by decide) (by decide : 11 < 15) rfl Ex23 hb1 N23 (g := (mkF m 82 #[.val (.int p0), .val (.int p1), .val (.int p2), .unset, .unset, .unset, .unset, .unset, .unset, .unset, .unset] [(.ref (w 11)), (.int (11 : Int32)), (.ref b1), (.ref b1)])) rfl rfl (hb hby at_82)
  refine own_step (S' := T25.setTop (mkF m 83 #[.val (.int p0), .val (.int p1), .val (.int p2), .unset, .unset, .unset, .unset, .unset, .unset, .unset, .unset] [(.ref b1)])) (fun t k => st25 t k) ?_
  refine own_step (S' := T25.setTop (mkF m 84 #[.val (.int p0), .val (.int p1), .val (.int p2), .unset, .unset, .unset, .unset, .unset, .unset, .unset, .unset] [(.ref b1), (.ref b1)])) (fun t k => XS.dup X25.here hx rfl (hb hby at_83) rfl rfl k) ?_
  refine own_step (S' := T25.setTop (mkF m 86 #[.val (.int p0), .val (.int p1), .val (.int p2), .unset, .unset, .unset, .unset, .unset, .unset, .unset, .unset] [(.int (12 : Int32)), (.ref b1), (.ref b1)])) (fun t k => XS.bipush X25.here hx rfl (hb hby at_84) k) ?_
  obtain ⟨T26, X26, e26, st26⟩ := getS2 X25 hx hZ hown (host := "") (Or.inl (hw _ (List.mem_of_getElem? (i := 28) rfl))) Via.refl e25 (sS12.ext Ex25) (g := (mkF m 86 #[.val (.int p0), .val (.int p1), .val (.int p2), .unset, .unset, .unset, .unset, .unset, .unset, .unset, .unset] [(.int (12 : Int32)), (.ref b1), (.ref b1)])) rfl (hb hby at_86)
  refine own_step (S' := T26.setTop (mkF m 89 #[.val (.int p0), .val (.int p1), .val (.int p2), .unset, .unset, .unset, .unset, .unset, .unset, .unset, .unset] [(.ref (w 12)), (.int (12 : Int32)), (.ref b1), (.ref b1)])) (fun t k => st26 t k) ?_
  obtain ⟨T27, h27, lc27, X27, e27, A27, Ex27, N27, W27, st27⟩ := own_stR X26 hx hZ e26 A25 O1 (sE12.ext Ex25) (j := (12 : Int32)) 12 [.ref (w 0), .ref (w 1), .ref (w 2), .ref (w 3), .ref (w 4), .ref (w 5), .ref (w 6), .ref (w 7), .ref (w 8), .ref (w 9), .ref (w 10), .ref (w 11), .ref (w 12), .null, .null] (by decide) (by decide) (by decide : 12 < 15) rfl Ex25 hb1 N25 (g := (mkF m 89 #[.val (.int p0), .val (.int p1), .val (.int p2), .unset, .unset, .unset, .unset, .unset, .unset, .unset, .unset] [(.ref (w 12)), (.int (12 : Int32)), (.ref b1), (.ref b1)])) rfl rfl (hb hby at_89)
  refine own_step (S' := T27.setTop (mkF m 90 #[.val (.int p0), .val (.int p1), .val (.int p2), .unset, .unset, .unset, .unset, .unset, .unset, .unset, .unset] [(.ref b1)])) (fun t k => st27 t k) ?_
  refine own_step (S' := T27.setTop (mkF m 91 #[.val (.int p0), .val (.int p1), .val (.int p2), .unset, .unset, .unset, .unset, .unset, .unset, .unset, .unset] [(.ref b1), (.ref b1)])) (fun t k => XS.dup X27.here hx rfl (hb hby at_90) rfl rfl k) ?_
  refine own_step (S' := T27.setTop (mkF m 93 #[.val (.int p0), .val (.int p1), .val (.int p2), .unset, .unset, .unset, .unset, .unset, .unset, .unset, .unset] [(.int (13 : Int32)), (.ref b1), (.ref b1)])) (fun t k => XS.bipush X27.here hx rfl (hb hby at_91) k) ?_
  obtain ⟨T28, X28, e28, st28⟩ := getS2 X27 hx hZ hown (host := "") (Or.inl (hw _ (List.mem_of_getElem? (i := 30) rfl))) Via.refl e27 (sS13.ext Ex27) (g := (mkF m 93 #[.val (.int p0), .val (.int p1), .val (.int p2), .unset, .unset, .unset, .unset, .unset, .unset, .unset, .unset] [(.int (13 : Int32)), (.ref b1), (.ref b1)])) rfl (hb hby at_93)
  refine own_step (S' := T28.setTop (mkF m 96 #[.val (.int p0), .val (.int p1), .val (.int p2), .unset, .unset, .unset, .unset, .unset, .unset, .unset, .unset] [(.ref (w 13)), (.int (13 : Int32)), (.ref b1), (.ref b1)])) (fun t k => st28 t k) ?_
  obtain ⟨T29, h29, lc29, X29, e29, A29, Ex29, N29, W29, st29⟩ := own_stR X28 hx hZ e28 A27 O1 (sE13.ext Ex27) (j := (13 : Int32)) 13 [.ref (w 0), .ref (w 1), .ref (w 2), .ref (w 3), .ref (w 4), .ref (w 5), .ref (w 6), .ref (w 7), .ref (w 8), .ref (w 9), .ref (w 10), .ref (w 11), .ref (w 12), .ref (w 13), .null] (by decide) (by decide) (by decide : 13 < 15) rfl Ex27 hb1 N27 (g := (mkF m 96 #[.val (.int p0), .val (.int p1), .val (.int p2), .unset, .unset, .unset, .unset, .unset, .unset, .unset, .unset] [(.ref (w 13)), (.int (13 : Int32)), (.ref b1), (.ref b1)])) rfl rfl (hb hby at_96)
  refine own_step (S' := T29.setTop (mkF m 97 #[.val (.int p0), .val (.int p1), .val (.int p2), .unset, .unset, .unset, .unset, .unset, .unset, .unset, .unset] [(.ref b1)])) (fun t k => st29 t k) ?_
  refine own_step (S' := T29.setTop (mkF m 98 #[.val (.int p0), .val (.int p1), .val (.int p2), .unset, .unset, .unset, .unset, .unset, .unset, .unset, .unset] [(.ref b1), (.ref b1)])) (fun t k => XS.dup X29.here hx rfl (hb hby at_97) rfl rfl k) ?_
  refine own_step (S' := T29.setTop (mkF m 100 #[.val (.int p0), .val (.int p1), .val (.int p2), .unset, .unset, .unset, .unset, .unset, .unset, .unset, .unset] [(.int (14 : Int32)), (.ref b1), (.ref b1)])) (fun t k => XS.bipush X29.here hx rfl (hb hby at_98) k) ?_
  obtain ⟨T30, X30, e30, st30⟩ := getS2 X29 hx hZ hown (host := "") (Or.inl (hw _ (List.mem_of_getElem? (i := 32) rfl))) Via.refl e29 (sS14.ext Ex29) (g := (mkF m 100 #[.val (.int p0), .val (.int p1), .val (.int p2), .unset, .unset, .unset, .unset, .unset, .unset, .unset, .unset] [(.int (14 : Int32)), (.ref b1), (.ref b1)])) rfl (hb hby at_100)
  refine own_step (S' := T30.setTop (mkF m 103 #[.val (.int p0), .val (.int p1), .val (.int p2), .unset, .unset, .unset, .unset, .unset, .unset, .unset, .unset] [(.ref (w 14)), (.int (14 : Int32)), (.ref b1), (.ref b1)])) (fun t k => st30 t k) ?_
  obtain ⟨T31, h31, lc31, X31, e31, A31, Ex31, N31, W31, st31⟩ := own_stR X30 hx hZ e30 A29 O1 (sE14.ext Ex29) (j := (14 : Int32)) 14 [.ref (w 0), .ref (w 1), .ref (w 2), .ref (w 3), .ref (w 4), .ref (w 5), .ref (w 6), .ref (w 7), .ref (w 8), .ref (w 9), .ref (w 10), .ref (w 11), .ref (w 12), .ref (w 13), .ref (w 14)] (by decide) (by decide) (by decide : 14 < 15) rfl Ex29 hb1 N29 (g := (mkF m 103 #[.val (.int p0), .val (.int p1), .val (.int p2), .unset, .unset, .unset, .unset, .unset, .unset, .unset, .unset] [(.ref (w 14)), (.int (14 : Int32)), (.ref b1), (.ref b1)])) rfl rfl (hb hby at_103)
  refine own_step (S' := T31.setTop (mkF m 104 #[.val (.int p0), .val (.int p1), .val (.int p2), .unset, .unset, .unset, .unset, .unset, .unset, .unset, .unset] [(.ref b1)])) (fun t k => st31 t k) ?_
  refine own_step (S' := T31.setTop (mkF m 105 #[.val (.int p0), .val (.int p1), .val (.int p2), .val (.ref b1), .unset, .unset, .unset, .unset, .unset, .unset, .unset] [])) (fun t k => XS.astoreN X31.here hx rfl (hb hby at_104) rfl rfl (l' := #[.val (.int p0), .val (.int p1), .val (.int p2), .val (.ref b1), .unset, .unset, .unset, .unset, .unset, .unset, .unset]) rfl k) ?_
  refine own_step (S' := T31.setTop (mkF m 107 #[.val (.int p0), .val (.int p1), .val (.int p2), .val (.ref b1), .unset, .unset, .unset, .unset, .unset, .unset, .unset] [(.int (15 : Int32))])) (fun t k => XS.bipush X31.here hx rfl (hb hby at_105) k) ?_
  obtain ⟨T32, h32, kc32, b32, X32, e32, E32, Ex32, A32, hb32, hs32, st32⟩ := own_newP X31 hx hZ .int rfl (hw _ (List.mem_of_getElem? (i := 34) rfl)) e31 Ex31 (g := (mkF m 107 #[.val (.int p0), .val (.int p1), .val (.int p2), .val (.ref b1), .unset, .unset, .unset, .unset, .unset, .unset, .unset] [(.int (15 : Int32))])) rfl (hb hby at_107) rfl (by decide) [.int (0 : Int32), .int (0 : Int32), .int (0 : Int32), .int (0 : Int32), .int (0 : Int32), .int (0 : Int32), .int (0 : Int32), .int (0 : Int32), .int (0 : Int32), .int (0 : Int32), .int (0 : Int32), .int (0 : Int32), .int (0 : Int32), .int (0 : Int32), .int (0 : Int32)] rfl (cap := 15) (by decide) (by decide) (by decide) (by decide)
  have A32_b1 := own_Ar.ext E32 A31
  have lt32_b1 : b1 < b32 := (Nat.lt_of_lt_of_eq A31.lt hs32)
  refine own_step (S' := T32.setTop (mkF m 109 #[.val (.int p0), .val (.int p1), .val (.int p2), .val (.ref b1), .unset, .unset, .unset, .unset, .unset, .unset, .unset] [(.ref b32)])) (fun t k => st32 t k) ?_
  refine own_step (S' := T32.setTop (mkF m 110 #[.val (.int p0), .val (.int p1), .val (.int p2), .val (.ref b1), .unset, .unset, .unset, .unset, .unset, .unset, .unset] [(.ref b32), (.ref b32)])) (fun t k => XS.dup X32.here hx rfl (hb hby at_109) rfl rfl k) ?_
  refine own_step (S' := T32.setTop (mkF m 111 #[.val (.int p0), .val (.int p1), .val (.int p2), .val (.ref b1), .unset, .unset, .unset, .unset, .unset, .unset, .unset] [(.int (0 : Int32)), (.ref b32), (.ref b32)])) (fun t k => XS.iconst X32.here hx rfl (hb hby at_110) k) ?_
  refine own_step (S' := T32.setTop (mkF m 112 #[.val (.int p0), .val (.int p1), .val (.int p2), .val (.ref b1), .unset, .unset, .unset, .unset, .unset, .unset, .unset] [(.int (0 : Int32)), (.int (0 : Int32)), (.ref b32), (.ref b32)])) (fun t k => XS.iconst X32.here hx rfl (hb hby at_111) k) ?_
  obtain ⟨T33, h33, lc33, X33, e33, A33, Ex33, N33, W33, st33⟩ := own_stI X32 hx hZ e32 A32 (j := (0 : Int32)) 0 [.int (0 : Int32), .int (0 : Int32), .int (0 : Int32), .int (0 : Int32), .int (0 : Int32), .int (0 : Int32), .int (0 : Int32), .int (0 : Int32), .int (0 : Int32), .int (0 : Int32), .int (0 : Int32), .int (0 : Int32), .int (0 : Int32), .int (0 : Int32), .int (0 : Int32)] (by decide) (by decide) (by decide : 0 < 15) rfl Ex32 hb32 N31 (g := (mkF m 112 #[.val (.int p0), .val (.int p1), .val (.int p2), .val (.ref b1), .unset, .unset, .unset, .unset, .unset, .unset, .unset] [(.int (0 : Int32)), (.int (0 : Int32)), (.ref b32), (.ref b32)])) rfl rfl (hb hby at_112)
  have A33_b1 := own_Ar.other W33 A32_b1 (Nat.ne_of_lt lt32_b1)
  refine own_step (S' := T33.setTop (mkF m 113 #[.val (.int p0), .val (.int p1), .val (.int p2), .val (.ref b1), .unset, .unset, .unset, .unset, .unset, .unset, .unset] [(.ref b32)])) (fun t k => st33 t k) ?_
  refine own_step (S' := T33.setTop (mkF m 114 #[.val (.int p0), .val (.int p1), .val (.int p2), .val (.ref b1), .unset, .unset, .unset, .unset, .unset, .unset, .unset] [(.ref b32), (.ref b32)])) (fun t k => XS.dup X33.here hx rfl (hb hby at_113) rfl rfl k) ?_
  refine own_step (S' := T33.setTop (mkF m 115 #[.val (.int p0), .val (.int p1), .val (.int p2), .val (.ref b1), .unset, .unset, .unset, .unset, .unset, .unset, .unset] [(.int (1 : Int32)), (.ref b32), (.ref b32)])) (fun t k => XS.iconst X33.here hx rfl (hb hby at_114) k) ?_
  refine own_step (S' := T33.setTop (mkF m 116 #[.val (.int p0), .val (.int p1), .val (.int p2), .val (.ref b1), .unset, .unset, .unset, .unset, .unset, .unset, .unset] [(.int (4 : Int32)), (.int (1 : Int32)), (.ref b32), (.ref b32)])) (fun t k => XS.iconst X33.here hx rfl (hb hby at_115) k) ?_
  obtain ⟨T34, h34, lc34, X34, e34, A34, Ex34, N34, W34, st34⟩ := own_stI X33 hx hZ e33 A33 (j := (1 : Int32)) 1 [.int (0 : Int32), .int (4 : Int32), .int (0 : Int32), .int (0 : Int32), .int (0 : Int32), .int (0 : Int32), .int (0 : Int32), .int (0 : Int32), .int (0 : Int32), .int (0 : Int32), .int (0 : Int32), .int (0 : Int32), .int (0 : Int32), .int (0 : Int32), .int (0 : Int32)] (by decide) (by decide) (by decide : 1 < 15) rfl Ex33 hb32 N33 (g := (mkF m 116 #[.val (.int p0), .val (.int p1), .val (.int p2), .val (.ref b1), .unset, .unset, .unset, .unset, .unset, .unset, .unset] [(.int (4 : Int32)), (.int (1 : Int32)), (.ref b32), (.ref b32)])) rfl rfl (hb hby at_116)
  have A34_b1 := own_Ar.other W34 A33_b1 (Nat.ne_of_lt lt32_b1)
  refine own_step (S' := T34.setTop (mkF m 117 #[.val (.int p0), .val (.int p1), .val (.int p2), .val (.ref b1), .unset, .unset, .unset, .unset, .unset, .unset, .unset] [(.ref b32)])) (fun t k => st34 t k) ?_
  refine own_step (S' := T34.setTop (mkF m 118 #[.val (.int p0), .val (.int p1), .val (.int p2), .val (.ref b1), .unset, .unset, .unset, .unset, .unset, .unset, .unset] [(.ref b32), (.ref b32)])) (fun t k => XS.dup X34.here hx rfl (hb hby at_117) rfl rfl k) ?_
  refine own_step (S' := T34.setTop (mkF m 119 #[.val (.int p0), .val (.int p1), .val (.int p2), .val (.ref b1), .unset, .unset, .unset, .unset, .unset, .unset, .unset] [(.int (2 : Int32)), (.ref b32), (.ref b32)])) (fun t k => XS.iconst X34.here hx rfl (hb hby at_118) k) ?_
  refine own_step (S' := T34.setTop (mkF m 120 #[.val (.int p0), .val (.int p1), .val (.int p2), .val (.ref b1), .unset, .unset, .unset, .unset, .unset, .unset, .unset] [(.int (1 : Int32)), (.int (2 : Int32)), (.ref b32), (.ref b32)])) (fun t k => XS.iconst X34.here hx rfl (hb hby at_119) k) ?_
  obtain ⟨T35, h35, lc35, X35, e35, A35, Ex35, N35, W35, st35⟩ := own_stI X34 hx hZ e34 A34 (j := (2 : Int32)) 2 [.int (0 : Int32), .int (4 : Int32), .int (1 : Int32), .int (0 : Int32), .int (0 : Int32), .int (0 : Int32), .int (0 : Int32), .int (0 : Int32), .int (0 : Int32), .int (0 : Int32), .int (0 : Int32), .int (0 : Int32), .int (0 : Int32), .int (0 : Int32), .int (0 : Int32)] (by decide) (by decide) (by decide : 2 < 15) rfl Ex34 hb32 N34 (g := (mkF m 120 #[.val (.int p0), .val (.int p1), .val (.int p2), .val (.ref b1), .unset, .unset, .unset, .unset, .unset, .unset, .unset] [(.int (1 : Int32)), (.int (2 : Int32)), (.ref b32), (.ref b32)])) rfl rfl (hb hby at_120)
  have A35_b1 := own_Ar.other W35 A34_b1 (Nat.ne_of_lt lt32_b1)
  refine own_step (S' := T35.setTop (mkF m 121 #[.val (.int p0), .val (.int p1), .val (.int p2), .val (.ref b1), .unset, .unset, .unset, .unset, .unset, .unset, .unset] [(.ref b32)])) (fun t k => st35 t k) ?_
  refine own_step (S' := T35.setTop (mkF m 122 #[.val (.int p0), .val (.int p1), .val (.int p2), .val (.ref b1), .unset, .unset, .unset, .unset, .unset, .unset, .unset] [(.ref b32), (.ref b32)])) (fun t k => XS.dup X35.here hx rfl (hb hby at_121) rfl rfl k) ?_
  refine own_step (S' := T35.setTop (mkF m 123 #[.val (.int p0), .val (.int p1), .val (.int p2), .val (.ref b1), .unset, .unset, .unset, .unset, .unset, .unset, .unset] [(.int (3 : Int32)), (.ref b32), (.ref b32)])) (fun t k => XS.iconst X35.here hx rfl (hb hby at_122) k) ?_
  refine own_step (S' := T35.setTop (mkF m 124 #[.val (.int p0), .val (.int p1), .val (.int p2), .val (.ref b1), .unset, .unset, .unset, .unset, .unset, .unset, .unset] [(.int (0 : Int32)), (.int (3 : Int32)), (.ref b32), (.ref b32)])) (fun t k => XS.iconst X35.here hx rfl (hb hby at_123) k) ?_
  obtain ⟨T36, h36, lc36, X36, e36, A36, Ex36, N36, W36, st36⟩ := own_stI X35 hx hZ e35 A35 (j := (3 : Int32)) 3 [.int (0 : Int32), .int (4 : Int32), .int (1 : Int32), .int (0 : Int32), .int (0 : Int32), .int (0 : Int32), .int (0 : Int32), .int (0 : Int32), .int (0 : Int32), .int (0 : Int32), .int (0 : Int32), .int (0 : Int32), .int (0 : Int32), .int (0 : Int32), .int (0 : Int32)] (by decide) (by decide) (by decide : 3 < 15) rfl Ex35 hb32 N35 (g := (mkF m 124 #[.val (.int p0), .val (.int p1), .val (.int p2), .val (.ref b1), .unset, .unset, .unset, .unset, .unset, .unset, .unset] [(.int (0 : Int32)), (.int (3 : Int32)), (.ref b32), (.ref b32)])) rfl rfl (hb hby at_124)
  have A36_b1 := own_Ar.other W36 A35_b1 (Nat.ne_of_lt lt32_b1)
  refine own_step (S' := T36.setTop (mkF m 125 #[.val (.int p0), .val (.int p1), .val (.int p2), .val (.ref b1), .unset, .unset, .unset, .unset, .unset, .unset, .unset] [(.ref b32)])) (fun t k => st36 t k) ?_
  refine own_step (S' := T36.setTop (mkF m 126 #[.val (.int p0), .val (.int p1), .val (.int p2), .val (.ref b1), .unset, .unset, .unset, .unset, .unset, .unset, .unset] [(.ref b32), (.ref b32)])) (fun t k => XS.dup X36.here hx rfl (hb hby at_125) rfl rfl k) ?_
  refine own_step (S' := T36.setTop (mkF m 127 #[.val (.int p0), .val (.int p1), .val (.int p2), .val (.ref b1), .unset, .unset, .unset, .unset, .unset, .unset, .unset] [(.int (4 : Int32)), (.ref b32), (.ref b32)])) (fun t k => XS.iconst X36.here hx rfl (hb hby at_126) k) ?_
  refine own_step (S' := T36.setTop (mkF m 128 #[.val (.int p0), .val (.int p1), .val (.int p2), .val (.ref b1), .unset, .unset, .unset, .unset, .unset, .unset, .unset] [(.int (1 : Int32)), (.int (4 : Int32)), (.ref b32), (.ref b32)])) (fun t k => XS.iconst X36.here hx rfl (hb hby at_127) k) ?_
  obtain ⟨T37, h37, lc37, X37, e37, A37, Ex37, N37, W37, st37⟩ := own_stI X36 hx hZ e36 A36 (j := (4 : Int32)) 4 [.int (0 : Int32), .int (4 : Int32), .int (1 : Int32), .int (0 : Int32), .int (1 : Int32), .int (0 : Int32), .int (0 : Int32), .int (0 : Int32), .int (0 : Int32), .int (0 : Int32), .int (0 : Int32), .int (0 : Int32), .int (0 : Int32), .int (0 : Int32), .int (0 : Int32)] (by decide) (by decide) (by decide : 4 < 15) rfl Ex36 hb32 N36 (g := (mkF m 128 #[.val (.int p0), .val (.int p1), .val (.int p2), .val (.ref b1), .unset, .unset, .unset, .unset, .unset, .unset, .unset] [(.int (1 : Int32)), (.int (4 : Int32)), (.ref b32), (.ref b32)])) rfl rfl (hb hby at_128)
  have A37_b1 := own_Ar.other W37 A36_b1 (Nat.ne_of_lt lt32_b1)
  refine own_step (S' := T37.setTop (mkF m 129 #[.val (.int p0), .val (.int p1), .val (.int p2), .val (.ref b1), .unset, .unset, .unset, .unset, .unset, .unset, .unset] [(.ref b32)])) (fun t k => st37 t k) ?_
  refine own_step (S' := T37.setTop (mkF m 130 #[.val (.int p0), .val (.int p1), .val (.int p2), .val (.ref b1), .unset, .unset, .unset, .unset, .unset, .unset, .unset] [(.ref b32), (.ref b32)])) (fun t k => XS.dup X37.here hx rfl (hb hby at_129) rfl rfl k) ?_
  refine own_step (S' := T37.setTop (mkF m 131 #[.val (.int p0), .val (.int p1), .val (.int p2), .val (.ref b1), .unset, .unset, .unset, .unset, .unset, .unset, .unset] [(.int (5 : Int32)), (.ref b32), (.ref b32)])) (fun t k => XS.iconst X37.here hx rfl (hb hby at_130) k) ?_
  refine own_step (S' := T37.setTop (mkF m 132 #[.val (.int p0), .val (.int p1), .val (.int p2), .val (.ref b1), .unset, .unset, .unset, .unset, .unset, .unset, .unset] [(.int (1 : Int32)), (.int (5 : Int32)), (.ref b32), (.ref b32)])) (fun t k => XS.iconst X37.here hx rfl (hb hby at_131) k) ?_
  obtain ⟨T38, h38, lc38, X38, e38, A38, Ex38, N38, W38, st38⟩ := own_stI X37 hx hZ e37 A37 (j := (5 : Int32)) 5 [.int (0 : Int32), .int (4 : Int32), .int (1 : Int32), .int (0 : Int32), .int (1 : Int32), .int (1 : Int32), .int (0 : Int32), .int (0 : Int32), .int (0 : Int32), .int (0 : Int32), .int (0 : Int32), .int (0 : Int32), .int (0 : Int32), .int (0 : Int32), .int (0 : Int32)] (by decide) (by decide) (by decide : 5 < 15) rfl Ex37 hb32 N37 (g := (mkF m 132 #[.val (.int p0), .val (.int p1), .val (.int p2), .val (.ref b1), .unset, .unset, .unset, .unset, .unset, .unset, .unset] [(.int (1 : Int32)), (.int (5 : Int32)), (.ref b32), (.ref b32)])) rfl rfl (hb hby at_132)
  have A38_b1 := own_Ar.other W38 A37_b1 (Nat.ne_of_lt lt32_b1)
  refine own_step (S' := T38.setTop (mkF m 133 #[.val (.int p0), .val (.int p1), .val (.int p2), .val (.ref b1), .unset, .unset, .unset, .unset, .unset, .unset, .unset] [(.ref b32)])) (fun t k => st38 t k) ?_
  refine own_step (S' := T38.setTop (mkF m 134 #[.val (.int p0), .val (.int p1), .val (.int p2), .val (.ref b1), .unset, .unset, .unset, .unset, .unset, .unset, .unset] [(.ref b32), (.ref b32)])) (fun t k => XS.dup X38.here hx rfl (hb hby at_133) rfl rfl k) ?_
  refine own_step (S' := T38.setTop (mkF m 136 #[.val (.int p0), .val (.int p1), .val (.int p2), .val (.ref b1), .unset, .unset, .unset, .unset, .unset, .unset, .unset] [(.int (6 : Int32)), (.ref b32), (.ref b32)])) (fun t k => XS.bipush X38.here hx rfl (hb hby at_134) k) ?_
  refine own_step (S' := T38.setTop (mkF m 137 #[.val (.int p0), .val (.int p1), .val (.int p2), .val (.ref b1), .unset, .unset, .unset, .unset, .unset, .unset, .unset] [(.int (0 : Int32)), (.int (6 : Int32)), (.ref b32), (.ref b32)])) (fun t k => XS.iconst X38.here hx rfl (hb hby at_136) k) ?_
  obtain ⟨T39, h39, lc39, X39, e39, A39, Ex39, N39, W39, st39⟩ := own_stI X38 hx hZ e38 A38 (j := (6 : Int32)) 6 [.int (0 : Int32), .int (4 : Int32), .int (1 : Int32), .int (0 : Int32), .int (1 : Int32), .int (1 : Int32), .int (0 : Int32), .int (0 : Int32), .int (0 : Int32), .int (0 : Int32), .int (0 : Int32), .int (0 : Int32), .int (0 : Int32), .int (0 : Int32), .int (0 : Int32)] (by decide) (by decide) (by decide : 6 < 15) rfl Ex38 hb32 N38 (g := (mkF m 137 #[.val (.int p0), .val (.int p1), .val (.int p2), .val (.ref b1), .unset, .unset, .unset, .unset, .unset, .unset, .unset] [(.int (0 : Int32)), (.int (6 : Int32)), (.ref b32), (.ref b32)])) rfl rfl (hb hby at_137)
  have A39_b1 := own_Ar.other W39 A38_b1 (Nat.ne_of_lt lt32_b1)
  refine own_step (S' := T39.setTop (mkF m 138 #[.val (.int p0), .val (.int p1), .val (.int p2), .val (.ref b1), .unset, .unset, .unset, .unset, .unset, .unset, .unset] [(.ref b32)])) (fun t k => st39 t k) ?_
  refine own_step (S' := T39.setTop (mkF m 139 #[.val (.int p0), .val (.int p1), .val (.int p2), .val (.ref b1), .unset, .unset, .unset, .unset, .unset, .unset, .unset] [(.ref b32), (.ref b32)])) (fun t k => XS.dup X39.here hx rfl (hb hby at_138) rfl rfl k) ?_
  refine own_step (S' := T39.setTop (mkF m 141 #[.val (.int p0), .val (.int p1), .val (.int p2), .val (.ref b1), .unset, .unset, .unset, .unset, .unset, .unset, .unset] [(.int (7 : Int32)), (.ref b32), (.ref b32)])) (fun t k => XS.bipush X39.here hx rfl (hb hby at_139) k) ?_
  refine own_step (S' := T39.setTop (mkF m 142 #[.val (.int p0), .val (.int p1), .val (.int p2), .val (.ref b1), .unset, .unset, .unset, .unset, .unset, .unset, .unset] [(.int (0 : Int32)), (.int (7 : Int32)), (.ref b32), (.ref b32)])) (fun t k => XS.iconst X39.here hx rfl (hb hby at_141) k) ?_
  obtain ⟨T40, h40, lc40, X40, e40, A40, Ex40, N40, W40, st40⟩ := own_stI X39 hx hZ e39 A39 (j := (7 : Int32)) 7 [.int (0 : Int32), .int (4 : Int32), .int (1 : Int32), .int (0 : Int32), .int (1 : Int32), .int (1 : Int32), .int (0 : Int32), .int (0 : Int32), .int (0 : Int32), .int (0 : Int32), .int (0 : Int32), .int (0 : Int32), .int (0 : Int32), .int (0 : Int32), .int (0 : Int32)] (by decide) (by decide) (by decide : 7 < 15) rfl Ex39 hb32 N39 (g := (mkF m 142 #[.val (.int p0), .val (.int p1), .val (.int p2), .val (.ref b1), .unset, .unset, .unset, .unset, .unset, .unset, .unset] [(.int (0 : Int32)), (.int (7 : Int32)), (.ref b32), (.ref b32)])) rfl rfl (hb hby at_142)
  have A40_b1 := own_Ar.other W40 A39_b1 (Nat.ne_of_lt lt32_b1)
  refine own_step (S' := T40.setTop (mkF m 143 #[.val (.int p0), .val (.int p1), .val (.int p2), .val (.ref b1), .unset, .unset, .unset, .unset, .unset, .unset, .unset] [(.ref b32)])) (fun t k => st40 t k) ?_
  refine own_step (S' := T40.setTop (mkF m 144 #[.val (.int p0), .val (.int p1), .val (.int p2), .val (.ref b1), .unset, .unset, .unset, .unset, .unset, .unset, .unset] [(.ref b32), (.ref b32)])) (fun t k => XS.dup X40.here hx rfl (hb hby at_143) rfl rfl k) ?_
  refine own_step (S' := T40.setTop (mkF m 146 #[.val (.int p0), .val (.int p1), .val (.int p2), .val (.ref b1), .unset, .unset, .unset, .unset, .unset, .unset, .unset] [(.int (8 : Int32)), (.ref b32), (.ref b32)])) (fun t k => XS.bipush X40.here hx rfl (hb hby at_144) k) ?_
  refine own_step (S' := T40.setTop (mkF m 147 #[.val (.int p0), .val (.int p1), .val (.int p2), .val (.ref b1), .unset, .unset, .unset, .unset, .unset, .unset, .unset] [(.int (0 : Int32)), (.int (8 : Int32)), (.ref b32), (.ref b32)])) (fun t k => XS.iconst X40.here hx rfl (hb hby at_146) k) ?_
  obtain ⟨T41, h41, lc41, X41, e41, A41, Ex41, N41, W41, st41⟩ := own_stI X40 hx hZ e40 A40 (j := (8 : Int32)) 8 [.int (0 : Int32), .int (4 : Int32), .int (1 : Int32), .int (0 : Int32), .int (1 : Int32), .int (1 : Int32), .int (0 : Int32), .int (0 : Int32), .int (0 : Int32), .int (0 : Int32), .int (0 : Int32), .int (0 : Int32), .int (0 : Int32), .int (0 : Int32), .int (0 : Int32)] (by decide) (by decide) (by decide : 8 < 15) rfl Ex40 hb32 N40 (g := (mkF m 147 #[.val (.int p0), .val (.int p1), .val (.int p2), .val (.ref b1), .unset, .unset, .unset, .unset, .unset, .unset, .unset] [(.int (0 : Int32)), (.int (8 : Int32)), (.ref b32), (.ref b32)])) rfl rfl (hb hby at_147)
  have A41_b1 := own_Ar.other W41 A40_b1 (Nat.ne_of_lt lt32_b1)
  refine own_step (S' := T41.setTop (mkF m 148 #[.val (.int p0), .val (.int p1), .val (.int p2), .val (.ref b1), .unset, .unset, .unset, .unset, .unset, .unset, .unset] [(.ref b32)])) (fun t k => st41 t k) ?_
  refine own_step (S' := T41.setTop (mkF m 149 #[.val (.int p0), .val (.int p1), .val (.int p2), .val (.ref b1), .unset, .unset, .unset, .unset, .unset, .unset, .unset] [(.ref b32), (.ref b32)])) (fun t k => XS.dup X41.here hx rfl (hb hby at_148) rfl rfl k) ?_
  refine own_step (S' := T41.setTop (mkF m 151 #[.val (.int p0), .val (.int p1), .val (.int p2), .val (.ref b1), .unset, .unset, .unset, .unset, .unset, .unset, .unset] [(.int (9 : Int32)), (.ref b32), (.ref b32)])) (fun t k => XS.bipush X41.here hx rfl (hb hby at_149) k) ?_
  refine own_step (S' := T41.setTop (mkF m 152 #[.val (.int p0), .val (.int p1), .val (.int p2), .val (.ref b1), .unset, .unset, .unset, .unset, .unset, .unset, .unset] [(.int (0 : Int32)), (.int (9 : Int32)), (.ref b32), (.ref b32)])) (fun t k => XS.iconst X41.here hx rfl (hb hby at_151) k) ?_
  obtain ⟨T42, h42, lc42, X42, e42, A42, Ex42, N42, W42, st42⟩ := own_stI X41 hx hZ e41 A41 (j := (9 : Int32)) 9 [.int (0 : Int32), .int (4 : Int32), .int (1 : Int32), .int (0 : Int32), .int (1 : Int32), .int (1 : Int32), .int (0 : Int32), .int (0 : Int32), .int (0 : Int32), .int (0 : Int32), .int (0 : Int32), .int (0 : Int32), .int (0 : Int32), .int (0 : Int32), .int (0 : Int32)] (by decide) (by decide) (by decide : 9 < 15) rfl Ex41 hb32 N41 (g := (mkF m 152 #[.val (.int p0), .val (.int p1), .val (.int p2), .val (.ref b1), .unset, .unset, .unset, .unset, .unset, .unset, .unset] [(.int (0 : Int32)), (.int (9 : Int32)), (.ref b32), (.ref b32)])) rfl rfl (hb hby at_152)
  have A42_b1 := own_Ar.other W42 A41_b1 (Nat.ne_of_lt lt32_b1)
  refine own_step (S' := T42.setTop (mkF m 153 #[.val (.int p0), .val (.int p1), .val (.int p2), .val (.ref b1), .unset, .unset, .unset, .unset, .unset, .unset, .unset] [(.ref b32)])) (fun t k => st42 t k) ?_
  refine own_step (S' := T42.setTop (mkF m 154 #[.val (.int p0), .val (.int p1), .val (.int p2), .val (.ref b1), .unset, .unset, .unset, .unset, .unset, .unset, .unset] [(.ref b32), (.ref b32)])) (fun t k => XS.dup X42.here hx rfl (hb hby at_153) rfl rfl k) ?_
  refine own_step (S' := T42.setTop (mkF m 156 #[.val (.int p0), .val (.int p1), .val (.int p2), .val (.ref b1), .unset, .unset, .unset, .unset, .unset, .unset, .unset] [(.int (10 : Int32)), (.ref b32), (.ref b32)])) (fun t k => XS.bipush X42.here hx rfl (hb hby at_154) k) ?_
  refine own_step (S' := T42.setTop (mkF m 157 #[.val (.int p0), .val (.int p1), .val (.int p2), .val (.ref b1), .unset, .unset, .unset, .unset, .unset, .unset, .unset] [(.int (0 : Int32)), (.int (10 : Int32)), (.ref b32), (.ref b32)])) (fun t k => XS.iconst X42.here hx rfl (hb hby at_156) k) ?_
  obtain ⟨T43, h43, lc43, X43, e43, A43, Ex43, N43, W43, st43⟩ := own_stI X42 hx hZ e42 A42 (j := (10 : Int32)) 10 [.int (0 : Int32), .int (4 : Int32), .int (1 : Int32), .int (0 : Int32), .int (1 : Int32), .int (1 : Int32), .int (0 : Int32), .int (0 : Int32), .int (0 : Int32), .int (0 : Int32), .int (0 : Int32), .int (0 : Int32), .int (0 : Int32), .int (0 : Int32), .int (0 : Int32)] (by decide) (by decide) (by decide : 10 < 15) rfl Ex42 hb32 N42 (g := (mkF m 157 #[.val (.int p0), .val (.int p1), .val (.int p2), .val (.ref b1), .unset, .unset, .unset, .unset, .unset, .unset, .unset] [(.int (0 : Int32)), (.int (10 : Int32)), (.ref b32), (.ref b32)])) rfl rfl (hb hby at_157)
  have A43_b1 := own_Ar.other W43 A42_b1 (Nat.ne_of_lt lt32_b1)
  refine own_step (S' := T43.setTop (mkF m 158 #[.val (.int p0), .val (.int p1), .val (.int p2), .val (.ref b1), .unset, .unset, .unset, .unset, .unset, .unset, .unset] [(.ref b32)])) (fun t k => st43 t k) ?_
  refine own_step (S' := T43.setTop (mkF m 159 #[.val (.int p0), .val (.int p1), .val (.int p2), .val (.ref b1), .unset, .unset, .unset, .unset, .unset, .unset, .unset] [(.ref b32), (.ref b32)])) (fun t k => XS.dup X43.here hx rfl (hb hby at_158) rfl rfl k) ?_
  refine own_step (S' := T43.setTop (mkF m 161 #[.val (.int p0), .val (.int p1), .val (.int p2), .val (.ref b1), .unset, .unset, .unset, .unset, .unset, .unset, .unset] [(.int (11 : Int32)), (.ref b32), (.ref b32)])) (fun t k => XS.bipush X43.here hx rfl (hb hby at_159) k) ?_
  refine own_step (S' := T43.setTop (mkF m 162 #[.val (.int p0), .val (.int p1), .val (.int p2), .val (.ref b1), .unset, .unset, .unset, .unset, .unset, .unset, .unset] [(.int (0 : Int32)), (.int (11 : Int32)), (.ref b32), (.ref b32)])) (fun t k => XS.iconst X43.here hx rfl (hb hby at_161) k) ?_
  obtain ⟨T44, h44, lc44, X44, e44, A44, Ex44, N44, W44, st44⟩ := own_stI X43 hx hZ e43 A43 (j := (11 : Int32)) 11 [.int (0 : Int32), .int (4 : Int32), .int (1 : Int32), .int (0 : Int32), .int (1 : Int32), .int (1 : Int32), .int (0 : Int32), .int (0 : Int32), .int (0 : Int32), .int (0 : Int32), .int (0 : Int32), .int (0 : Int32), .int (0 : Int32), .int (0 : Int32), .int (0 : Int32)] (by decide) (by decide) (by decide : 11 < 15) rfl Ex43 hb32 N43 (g := (mkF m 162 #[.val (.int p0), .val (.int p1), .val (.int p2), .val (.ref b1), .unset, .unset, .unset, .unset, .unset, .unset, .unset] [(.int (0 : Int32)), (.int (11 : Int32)), (.ref b32), (.ref b32)])) rfl rfl (hb hby at_162)
  have A44_b1 := own_Ar.other W44 A43_b1 (Nat.ne_of_lt lt32_b1)
  refine own_step (S' := T44.setTop (mkF m 163 #[.val (.int p0), .val (.int p1), .val (.int p2), .val (.ref b1), .unset, .unset, .unset, .unset, .unset, .unset, .unset] [(.ref b32)])) (fun t k => st44 t k) ?_
  refine own_step (S' := T44.setTop (mkF m 164 #[.val (.int p0), .val (.int p1), .val (.int p2), .val (.ref b1), .unset, .unset, .unset, .unset, .unset, .unset, .unset] [(.ref b32), (.ref b32)])) (fun t k => XS.dup X44.here hx rfl (hb hby at_163) rfl rfl k) ?_
  refine own_step (S' := T44.setTop (mkF m 166 #[.val (.int p0), .val (.int p1), .val (.int p2), .val (.ref b1), .unset, .unset, .unset, .unset, .unset, .unset, .unset] [(.int (12 : Int32)), (.ref b32), (.ref b32)])) (fun t k => XS.bipush X44.here hx rfl (hb hby at_164) k) ?_
  refine own_step (S' := T44.setTop (mkF m 167 #[.val (.int p0), .val (.int p1), .val (.int p2), .val (.ref b1), .unset, .unset, .unset, .unset, .unset, .unset, .unset] [(.int (0 : Int32)), (.int (12 : Int32)), (.ref b32), (.ref b32)])) (fun t k => XS.iconst X44.here hx rfl (hb hby at_166) k) ?_
  obtain ⟨T45, h45, lc45, X45, e45, A45, Ex45, N45, W45, st45⟩ := own_stI X44 hx hZ e44 A44 (j := (12 : Int32)) 12 [.int (0 : Int32), .int (4 : Int32), .int (1 : Int32), .int (0 : Int32), .int (1 : Int32), .int (1 : Int32), .int (0 : Int32), .int (0 : Int32), .int (0 : Int32), .int (0 : Int32), .int (0 : Int32), .int (0 : Int32), .int (0 : Int32), .int (0 : Int32), .int (0 : Int32)] (by decide) (by decide) (by decide : 12 < 15) rfl Ex44 hb32 N44 (g := (mkF m 167 #[.val (.int p0), .val (.int p1), .val (.int p2), .val (.ref b1), .unset, .unset, .unset, .unset, .unset, .unset, .unset] [(.int (0 : Int32)), (.int (12 : Int32)), (.ref b32), (.ref b32)])) rfl rfl (hb hby at_167)
  have A45_b1 := own_Ar.other W45 A44_b1 (Nat.ne_of_lt lt32_b1)
  refine own_step (S' := T45.setTop (mkF m 168 #[.val (.int p0), .val (.int p1), .val (.int p2), .val (.ref b1), .unset, .unset, .unset, .unset, .unset, .unset, .unset] [(.ref b32)])) (fun t k => st45 t k) ?_
  refine own_step (S' := T45.setTop (mkF m 169 #[.val (.int p0), .val (.int p1), .val (.int p2), .val (.ref b1), .unset, .unset, .unset, .unset, .unset, .unset, .unset] [(.ref b32), (.ref b32)])) (fun t k => XS.dup X45.here hx rfl (hb hby at_168) rfl rfl k) ?_
  refine own_step (S' := T45.setTop (mkF m 171 #[.val (.int p0), .val (.int p1), .val (.int p2), .val (.ref b1), .unset, .unset, .unset, .unset, .unset, .unset, .unset] [(.int (13 : Int32)), (.ref b32), (.ref b32)])) (fun t k => XS.bipush X45.here hx rfl (hb hby at_169) k) ?_
  refine own_step (S' := T45.setTop (mkF m 172 #[.val (.int p0), .val (.int p1), .val (.int p2), .val (.ref b1), .unset, .unset, .unset, .unset, .unset, .unset, .unset] [(.int (0 : Int32)), (.int (13 : Int32)), (.ref b32), (.ref b32)])) (fun t k => XS.iconst X45.here hx rfl (hb hby at_171) k) ?_
  obtain ⟨T46, h46, lc46, X46, e46, A46, Ex46, N46, W46, st46⟩ := own_stI X45 hx hZ e45 A45 (j := (13 : Int32)) 13 [.int (0 : Int32), .int (4 : Int32), .int (1 : Int32), .int (0 : Int32), .int (1 : Int32), .int (1 : Int32), .int (0 : Int32), .int (0 : Int32), .int (0 : Int32), .int (0 : Int32), .int (0 : Int32), .int (0 : Int32), .int (0 : Int32), .int (0 : Int32), .int (0 : Int32)] (by decide) (by decide) (by decide : 13 < 15) rfl Ex45 hb32 N45 (g := (mkF m 172 #[.val (.int p0), .val (.int p1), .val (.int p2), .val (.ref b1), .unset, .unset, .unset, .unset, .unset, .unset, .unset] [(.int (0 : Int32)), (.int (13 : Int32)), (.ref b32), (.ref b32)])) rfl rfl (hb hby at_172)
  have A46_b1 := own_Ar.other W46 A45_b1 (Nat.ne_of_lt lt32_b1)
  refine own_step (S' := T46.setTop (mkF m 173 #[.val (.int p0), .val (.int p1), .val (.int p2), .val (.ref b1), .unset, .unset, .unset, .unset, .unset, .unset, .unset] [(.ref b32)])) (fun t k => st46 t k) ?_
  refine own_step (S' := T46.setTop (mkF m 174 #[.val (.int p0), .val (.int p1), .val (.int p2), .val (.ref b1), .unset, .unset, .unset, .unset, .unset, .unset, .unset] [(.ref b32), (.ref b32)])) (fun t k => XS.dup X46.here hx rfl (hb hby at_173) rfl rfl k) ?_
  refine own_step (S' := T46.setTop (mkF m 176 #[.val (.int p0), .val (.int p1), .val (.int p2), .val (.ref b1), .unset, .unset, .unset, .unset, .unset, .unset, .unset] [(.int (14 : Int32)), (.ref b32), (.ref b32)])) (fun t k => XS.bipush X46.here hx rfl (hb hby at_174) k) ?_
  refine own_step (S' := T46.setTop (mkF m 177 #[.val (.int p0), .val (.int p1), .val (.int p2), .val (.ref b1), .unset, .unset, .unset, .unset, .unset, .unset, .unset] [(.int (0 : Int32)), (.int (14 : Int32)), (.ref b32), (.ref b32)])) (fun t k => XS.iconst X46.here hx rfl (hb hby at_176) k) ?_
  obtain ⟨T47, h47, lc47, X47, e47, A47, Ex47, N47, W47, st47⟩ := own_stI X46 hx hZ e46 A46 (j := (14 : Int32)) 14 [.int (0 : Int32), .int (4 : Int32), .int (1 : Int32), .int (0 : Int32), .int (1 : Int32), .int (1 : Int32), .int (0 : Int32), .int (0 : Int32), .int (0 : Int32), .int (0 : Int32), .int (0 : Int32), .int (0 : Int32), .int (0 : Int32), .int (0 : Int32), .int (0 : Int32)] (by decide) (by decide) (by decide : 14 < 15) rfl Ex46 hb32 N46 (g := (mkF m 177 #[.val (.int p0), .val (.int p1), .val (.int p2), .val (.ref b1), .unset, .unset, .unset, .unset, .unset, .unset, .unset] [(.int (0 : Int32)), (.int (14 : Int32)), (.ref b32), (.ref b32)])) rfl rfl (hb hby at_177)
  have A47_b1 := own_Ar.other W47 A46_b1 (Nat.ne_of_lt lt32_b1)
  refine own_step (S' := T47.setTop (mkF m 178 #[.val (.int p0), .val (.int p1), .val (.int p2), .val (.ref b1), .unset, .unset, .unset, .unset, .unset, .unset, .unset] [(.ref b32)])) (fun t k => st47 t k) ?_
  refine own_step (S' := T47.setTop (mkF m 180 #[.val (.int p0), .val (.int p1), .val (.int p2), .val (.ref b1), .val (.ref b32), .unset, .unset, .unset, .unset, .unset, .unset] [])) (fun t k => XS.astore X47.here hx rfl (hb hby at_178) rfl rfl (l' := #[.val (.int p0), .val (.int p1), .val (.int p2), .val (.ref b1), .val (.ref b32), .unset, .unset, .unset, .unset, .unset, .unset]) rfl k) ?_
  refine own_step (S' := T47.setTop (mkF m 182 #[.val (.int p0), .val (.int p1), .val (.int p2), .val (.ref b1), .val (.ref b32), .unset, .unset, .unset, .unset, .unset, .unset] [(.int (15 : Int32))])) (fun t k => XS.bipush X47.here hx rfl (hb hby at_180) k) ?_
  obtain ⟨T48, h48, kc48, b48, X48, e48, E48, Ex48, A48, hb48, hs48, st48⟩ := own_newP X47 hx hZ .int rfl (hw _ (List.mem_of_getElem? (i := 34) rfl)) e47 Ex47 (g := (mkF m 182 #[.val (.int p0), .val (.int p1), .val (.int p2), .val (.ref b1), .val (.ref b32), .unset, .unset, .unset, .unset, .unset, .unset] [(.int (15 : Int32))])) rfl (hb hby at_182) rfl (by decide) [.int (0 : Int32), .int (0 : Int32), .int (0 : Int32), .int (0 : Int32), .int (0 : Int32), .int (0 : Int32), .int (0 : Int32), .int (0 : Int32), .int (0 : Int32), .int (0 : Int32), .int (0 : Int32), .int (0 : Int32), .int (0 : Int32), .int (0 : Int32), .int (0 : Int32)] rfl (cap := 15) (by decide) (by decide) (by decide) (by decide)
  have A48_b1 := own_Ar.ext E48 A47_b1
  have A48_b32 := own_Ar.ext E48 A47
  have lt48_b1 : b1 < b48 := (Nat.lt_of_lt_of_eq A47_b1.lt hs48)
  have lt48_b32 : b32 < b48 := (Nat.lt_of_lt_of_eq A47.lt hs48)
  refine own_step (S' := T48.setTop (mkF m 184 #[.val (.int p0), .val (.int p1), .val (.int p2), .val (.ref b1), .val (.ref b32), .unset, .unset, .unset, .unset, .unset, .unset] [(.ref b48)])) (fun t k => st48 t k) ?_
  refine own_step (S' := T48.setTop (mkF m 185 #[.val (.int p0), .val (.int p1), .val (.int p2), .val (.ref b1), .val (.ref b32), .unset, .unset, .unset, .unset, .unset, .unset] [(.ref b48), (.ref b48)])) (fun t k => XS.dup X48.here hx rfl (hb hby at_184) rfl rfl k) ?_
  refine own_step (S' := T48.setTop (mkF m 186 #[.val (.int p0), .val (.int p1), .val (.int p2), .val (.ref b1), .val (.ref b32), .unset, .unset, .unset, .unset, .unset, .unset] [(.int (0 : Int32)), (.ref b48), (.ref b48)])) (fun t k => XS.iconst X48.here hx rfl (hb hby at_185) k) ?_
  refine own_step (S' := T48.setTop (mkF m 188 #[.val (.int p0), .val (.int p1), .val (.int p2), .val (.ref b1), .val (.ref b32), .unset, .unset, .unset, .unset, .unset, .unset] [(.int (7 : Int32)), (.int (0 : Int32)), (.ref b48), (.ref b48)])) (fun t k => XS.bipush X48.here hx rfl (hb hby at_186) k) ?_
  obtain ⟨T49, h49, lc49, X49, e49, A49, Ex49, N49, W49, st49⟩ := own_stI X48 hx hZ e48 A48 (j := (0 : Int32)) 0 [.int (7 : Int32), .int (0 : Int32), .int (0 : Int32), .int (0 : Int32), .int (0 : Int32), .int (0 : Int32), .int (0 : Int32), .int (0 : Int32), .int (0 : Int32), .int (0 : Int32), .int (0 : Int32), .int (0 : Int32), .int (0 : Int32), .int (0 : Int32), .int (0 : Int32)] (by decide) (by decide) (by decide : 0 < 15) rfl Ex48 hb48 N47 (g := (mkF m 188 #[.val (.int p0), .val (.int p1), .val (.int p2), .val (.ref b1), .val (.ref b32), .unset, .unset, .unset, .unset, .unset, .unset] [(.int (7 : Int32)), (.int (0 : Int32)), (.ref b48), (.ref b48)])) rfl rfl (hb hby at_188)
  have A49_b1 := own_Ar.other W49 A48_b1 (Nat.ne_of_lt lt48_b1)
  have A49_b32 := own_Ar.other W49 A48_b32 (Nat.ne_of_lt lt48_b32)
  refine own_step (S' := T49.setTop (mkF m 189 #[.val (.int p0), .val (.int p1), .val (.int p2), .val (.ref b1), .val (.ref b32), .unset, .unset, .unset, .unset, .unset, .unset] [(.ref b48)])) (fun t k => st49 t k) ?_
  refine own_step (S' := T49.setTop (mkF m 190 #[.val (.int p0), .val (.int p1), .val (.int p2), .val (.ref b1), .val (.ref b32), .unset, .unset, .unset, .unset, .unset, .unset] [(.ref b48), (.ref b48)])) (fun t k => XS.dup X49.here hx rfl (hb hby at_189) rfl rfl k) ?_
  refine own_step (S' := T49.setTop (mkF m 191 #[.val (.int p0), .val (.int p1), .val (.int p2), .val (.ref b1), .val (.ref b32), .unset, .unset, .unset, .unset, .unset, .unset] [(.int (1 : Int32)), (.ref b48), (.ref b48)])) (fun t k => XS.iconst X49.here hx rfl (hb hby at_190) k) ?_
  refine own_step (S' := T49.setTop (mkF m 193 #[.val (.int p0), .val (.int p1), .val (.int p2), .val (.ref b1), .val (.ref b32), .unset, .unset, .unset, .unset, .unset, .unset] [(.int (11 : Int32)), (.int (1 : Int32)), (.ref b48), (.ref b48)])) (fun t k => XS.bipush X49.here hx rfl (hb hby at_191) k) ?_
  obtain ⟨T50, h50, lc50, X50, e50, A50, Ex50, N50, W50, st50⟩ := own_stI X49 hx hZ e49 A49 (j := (1 : Int32)) 1 [.int (7 : Int32), .int (11 : Int32), .int (0 : Int32), .int (0 : Int32), .int (0 : Int32), .int (0 : Int32), .int (0 : Int32), .int (0 : Int32), .int (0 : Int32), .int (0 : Int32), .int (0 : Int32), .int (0 : Int32), .int (0 : Int32), .int (0 : Int32), .int (0 : Int32)] (by decide) (by decide) (by decide : 1 < 15) rfl Ex49 hb48 N49 (g := (mkF m 193 #[.val (.int p0), .val (.int p1), .val (.int p2), .val (.ref b1), .val (.ref b32), .unset, .unset, .unset, .unset, .unset, .unset] [(.int (11 : Int32)), (.int (1 : Int32)), (.ref b48), (.ref b48)])) rfl rfl (hb hby at_193)
  have A50_b1 := own_Ar.other W50 A49_b1 (Nat.ne_of_lt lt48_b1)
  have A50_b32 := own_Ar.other W50 A49_b32 (Nat.ne_of_lt lt48_b32)
  refine own_step (S' := T50.setTop (mkF m 194 #[.val (.int p0), .val (.int p1), .val (.int p2), .val (.ref b1), .val (.ref b32), .unset, .unset, .unset, .unset, .unset, .unset] [(.ref b48)])) (fun t k => st50 t k) ?_
  refine own_step (S' := T50.setTop (mkF m 195 #[.val (.int p0), .val (.int p1), .val (.int p2), .val (.ref b1), .val (.ref b32), .unset, .unset, .unset, .unset, .unset, .unset] [(.ref b48), (.ref b48)])) (fun t k => XS.dup X50.here hx rfl (hb hby at_194) rfl rfl k) ?_
  refine own_step (S' := T50.setTop (mkF m 196 #[.val (.int p0), .val (.int p1), .val (.int p2), .val (.ref b1), .val (.ref b32), .unset, .unset, .unset, .unset, .unset, .unset] [(.int (2 : Int32)), (.ref b48), (.ref b48)])) (fun t k => XS.iconst X50.here hx rfl (hb hby at_195) k) ?_
  refine own_step (S' := T50.setTop (mkF m 197 #[.val (.int p0), .val (.int p1), .val (.int p2), .val (.ref b1), .val (.ref b32), .unset, .unset, .unset, .unset, .unset, .unset] [(.int (2 : Int32)), (.int (2 : Int32)), (.ref b48), (.ref b48)])) (fun t k => XS.iconst X50.here hx rfl (hb hby at_196) k) ?_
  obtain ⟨T51, h51, lc51, X51, e51, A51, Ex51, N51, W51, st51⟩ := own_stI X50 hx hZ e50 A50 (j := (2 : Int32)) 2 [.int (7 : Int32), .int (11 : Int32), .int (2 : Int32), .int (0 : Int32), .int (0 : Int32), .int (0 : Int32), .int (0 : Int32), .int (0 : Int32), .int (0 : Int32), .int (0 : Int32), .int (0 : Int32), .int (0 : Int32), .int (0 : Int32), .int (0 : Int32), .int (0 : Int32)] (by decide) (by decide) (by decide : 2 < 15) rfl Ex50 hb48 N50 (g := (mkF m 197 #[.val (.int p0), .val (.int p1), .val (.int p2), .val (.ref b1), .val (.ref b32), .unset, .unset, .unset, .unset, .unset, .unset] [(.int (2 : Int32)), (.int (2 : Int32)), (.ref b48), (.ref b48)])) rfl rfl (hb hby at_197)
  have A51_b1 := own_Ar.other W51 A50_b1 (Nat.ne_of_lt lt48_b1)
  have A51_b32 := own_Ar.other W51 A50_b32 (Nat.ne_of_lt lt48_b32)
  refine own_step (S' := T51.setTop (mkF m 198 #[.val (.int p0), .val (.int p1), .val (.int p2), .val (.ref b1), .val (.ref b32), .unset, .unset, .unset, .unset, .unset, .unset] [(.ref b48)])) (fun t k => st51 t k) ?_
  refine own_step (S' := T51.setTop (mkF m 199 #[.val (.int p0), .val (.int p1), .val (.int p2), .val (.ref b1), .val (.ref b32), .unset, .unset, .unset, .unset, .unset, .unset] [(.ref b48), (.ref b48)])) (fun t k => XS.dup X51.here hx rfl (hb hby at_198) rfl rfl k) ?_
  refine own_step (S' := T51.setTop (mkF m 200 #[.val (.int p0), .val (.int p1), .val (.int p2), .val (.ref b1), .val (.ref b32), .unset, .unset, .unset, .unset, .unset, .unset] [(.int (3 : Int32)), (.ref b48), (.ref b48)])) (fun t k => XS.iconst X51.here hx rfl (hb hby at_199) k) ?_
  refine own_step (S' := T51.setTop (mkF m 201 #[.val (.int p0), .val (.int p1), .val (.int p2), .val (.ref b1), .val (.ref b32), .unset, .unset, .unset, .unset, .unset, .unset] [(.int (5 : Int32)), (.int (3 : Int32)), (.ref b48), (.ref b48)])) (fun t k => XS.iconst X51.here hx rfl (hb hby at_200) k) ?_
  obtain ⟨T52, h52, lc52, X52, e52, A52, Ex52, N52, W52, st52⟩ := own_stI X51 hx hZ e51 A51 (j := (3 : Int32)) 3 [.int (7 : Int32), .int (11 : Int32), .int (2 : Int32), .int (5 : Int32), .int (0 : Int32), .int (0 : Int32), .int (0 : Int32), .int (0 : Int32), .int (0 : Int32), .int (0 : Int32), .int (0 : Int32), .int (0 : Int32), .int (0 : Int32), .int (0 : Int32), .int (0 : Int32)] (by decide) (by decide) (by decide : 3 < 15) rfl Ex51 hb48 N51 (g := (mkF m 201 #[.val (.int p0), .val (.int p1), .val (.int p2), .val (.ref b1), .val (.ref b32), .unset, .unset, .unset, .unset, .unset, .unset] [(.int (5 : Int32)), (.int (3 : Int32)), (.ref b48), (.ref b48)])) rfl rfl (hb hby at_201)
  have A52_b1 := own_Ar.other W52 A51_b1 (Nat.ne_of_lt lt48_b1)
  have A52_b32 := own_Ar.other W52 A51_b32 (Nat.ne_of_lt lt48_b32)
  refine own_step (S' := T52.setTop (mkF m 202 #[.val (.int p0), .val (.int p1), .val (.int p2), .val (.ref b1), .val (.ref b32), .unset, .unset, .unset, .unset, .unset, .unset] [(.ref b48)])) (fun t k => st52 t k) ?_
  refine own_step (S' := T52.setTop (mkF m 203 #[.val (.int p0), .val (.int p1), .val (.int p2), .val (.ref b1), .val (.ref b32), .unset, .unset, .unset, .unset, .unset, .unset] [(.ref b48), (.ref b48)])) (fun t k => XS.dup X52.here hx rfl (hb hby at_202) rfl rfl k) ?_
  refine own_step (S' := T52.setTop (mkF m 204 #[.val (.int p0), .val (.int p1), .val (.int p2), .val (.ref b1), .val (.ref b32), .unset, .unset, .unset, .unset, .unset, .unset] [(.int (4 : Int32)), (.ref b48), (.ref b48)])) (fun t k => XS.iconst X52.here hx rfl (hb hby at_203) k) ?_
  refine own_step (S' := T52.setTop (mkF m 206 #[.val (.int p0), .val (.int p1), .val (.int p2), .val (.ref b1), .val (.ref b32), .unset, .unset, .unset, .unset, .unset, .unset] [(.int (7 : Int32)), (.int (4 : Int32)), (.ref b48), (.ref b48)])) (fun t k => XS.bipush X52.here hx rfl (hb hby at_204) k) ?_
  obtain ⟨T53, h53, lc53, X53, e53, A53, Ex53, N53, W53, st53⟩ := own_stI X52 hx hZ e52 A52 (j := (4 : Int32)) 4 [.int (7 : Int32), .int (11 : Int32), .int (2 : Int32), .int (5 : Int32), .int (7 : Int32), .int (0 : Int32), .int (0 : Int32), .int (0 : Int32), .int (0 : Int32), .int (0 : Int32), .int (0 : Int32), .int (0 : Int32), .int (0 : Int32), .int (0 : Int32), .int (0 : Int32)] (by decide) (by decide) (by decide : 4 < 15) rfl Ex52 hb48 N52 (g := (mkF m 206 #[.val (.int p0), .val (.int p1), .val (.int p2), .val (.ref b1), .val (.ref b32), .unset, .unset, .unset, .unset, .unset, .unset] [(.int (7 : Int32)), (.int (4 : Int32)), (.ref b48), (.ref b48)])) rfl rfl (hb hby at_206)
  have A53_b1 := own_Ar.other W53 A52_b1 (Nat.ne_of_lt lt48_b1)
  have A53_b32 := own_Ar.other W53 A52_b32 (Nat.ne_of_lt lt48_b32)
  refine own_step (S' := T53.setTop (mkF m 207 #[.val (.int p0), .val (.int p1), .val (.int p2), .val (.ref b1), .val (.ref b32), .unset, .unset, .unset, .unset, .unset, .unset] [(.ref b48)])) (fun t k => st53 t k) ?_
  refine own_step (S' := T53.setTop (mkF m 208 #[.val (.int p0), .val (.int p1), .val (.int p2), .val (.ref b1), .val (.ref b32), .unset, .unset, .unset, .unset, .unset, .unset] [(.ref b48), (.ref b48)])) (fun t k => XS.dup X53.here hx rfl (hb hby at_207) rfl rfl k) ?_
  refine own_step (S' := T53.setTop (mkF m 209 #[.val (.int p0), .val (.int p1), .val (.int p2), .val (.ref b1), .val (.ref b32), .unset, .unset, .unset, .unset, .unset, .unset] [(.int (5 : Int32)), (.ref b48), (.ref b48)])) (fun t k => XS.iconst X53.here hx rfl (hb hby at_208) k) ?_
  refine own_step (S' := T53.setTop (mkF m 210 #[.val (.int p0), .val (.int p1), .val (.int p2), .val (.ref b1), .val (.ref b32), .unset, .unset, .unset, .unset, .unset, .unset] [(.int (5 : Int32)), (.int (5 : Int32)), (.ref b48), (.ref b48)])) (fun t k => XS.iconst X53.here hx rfl (hb hby at_209) k) ?_
  obtain ⟨T54, h54, lc54, X54, e54, A54, Ex54, N54, W54, st54⟩ := own_stI X53 hx hZ e53 A53 (j := (5 : Int32)) 5 [.int (7 : Int32), .int (11 : Int32), .int (2 : Int32), .int (5 : Int32), .int (7 : Int32), .int (5 : Int32), .int (0 : Int32), .int (0 : Int32), .int (0 : Int32), .int (0 : Int32), .int (0 : Int32), .int (0 : Int32), .int (0 : Int32), .int (0 : Int32), .int (0 : Int32)] (by decide) (by decide) (by decide : 5 < 15) rfl Ex53 hb48 N53 (g := (mkF m 210 #[.val (.int p0), .val (.int p1), .val (.int p2), .val (.ref b1), .val (.ref b32), .unset, .unset, .unset, .unset, .unset, .unset] [(.int (5 : Int32)), (.int (5 : Int32)), (.ref b48), (.ref b48)])) rfl rfl (hb hby at_210)
  have A54_b1 := own_Ar.other W54 A53_b1 (Nat.ne_of_lt lt48_b1)
  have A54_b32 := own_Ar.other W54 A53_b32 (Nat.ne_of_lt lt48_b32)
  refine own_step (S' := T54.setTop (mkF m 211 #[.val (.int p0), .val (.int p1), .val (.int p2), .val (.ref b1), .val (.ref b32), .unset, .unset, .unset, .unset, .unset, .unset] [(.ref b48)])) (fun t k => st54 t k) ?_
  refine own_step (S' := T54.setTop (mkF m 212 #[.val (.int p0), .val (.int p1), .val (.int p2), .val (.ref b1), .val (.ref b32), .unset, .unset, .unset, .unset, .unset, .unset] [(.ref b48), (.ref b48)])) (fun t k => XS.dup X54.here hx rfl (hb hby at_211) rfl rfl k) ?_
  refine own_step (S' := T54.setTop (mkF m 214 #[.val (.int p0), .val (.int p1), .val (.int p2), .val (.ref b1), .val (.ref b32), .unset, .unset, .unset, .unset, .unset, .unset] [(.int (6 : Int32)), (.ref b48), (.ref b48)])) (fun t k => XS.bipush X54.here hx rfl (hb hby at_212) k) ?_
  refine own_step (S' := T54.setTop (mkF m 215 #[.val (.int p0), .val (.int p1), .val (.int p2), .val (.ref b1), .val (.ref b32), .unset, .unset, .unset, .unset, .unset, .unset] [(.int (2 : Int32)), (.int (6 : Int32)), (.ref b48), (.ref b48)])) (fun t k => XS.iconst X54.here hx rfl (hb hby at_214) k) ?_
  obtain ⟨T55, h55, lc55, X55, e55, A55, Ex55, N55, W55, st55⟩ := own_stI X54 hx hZ e54 A54 (j := (6 : Int32)) 6 [.int (7 : Int32), .int (11 : Int32), .int (2 : Int32), .int (5 : Int32), .int (7 : Int32), .int (5 : Int32), .int (2 : Int32), .int (0 : Int32), .int (0 : Int32), .int (0 : Int32), .int (0 : Int32), .int (0 : Int32), .int (0 : Int32), .int (0 : Int32), .int (0 : Int32)] (by decide) (by decide) (by decide : 6 < 15) rfl Ex54 hb48 N54 (g := (mkF m 215 #[.val (.int p0), .val (.int p1), .val (.int p2), .val (.ref b1), .val (.ref b32), .unset, .unset, .unset, .unset, .unset, .unset] [(.int (2 : Int32)), (.int (6 : Int32)), (.ref b48), (.ref b48)])) rfl rfl (hb hby at_215)
  have A55_b1 := own_Ar.other W55 A54_b1 (Nat.ne_of_lt lt48_b1)
  have A55_b32 := own_Ar.other W55 A54_b32 (Nat.ne_of_lt lt48_b32)
  refine own_step (S' := T55.setTop (mkF m 216 #[.val (.int p0), .val (.int p1), .val (.int p2), .val (.ref b1), .val (.ref b32), .unset, .unset, .unset, .unset, .unset, .unset] [(.ref b48)])) (fun t k => st55 t k) ?_
  refine own_step (S' := T55.setTop (mkF m 217 #[.val (.int p0), .val (.int p1), .val (.int p2), .val (.ref b1), .val (.ref b32), .unset, .unset, .unset, .unset, .unset, .unset] [(.ref b48), (.ref b48)])) (fun t k => XS.dup X55.here hx rfl (hb hby at_216) rfl rfl k) ?_
  refine own_step (S' := T55.setTop (mkF m 219 #[.val (.int p0), .val (.int p1), .val (.int p2), .val (.ref b1), .val (.ref b32), .unset, .unset, .unset, .unset, .unset, .unset] [(.int (7 : Int32)), (.ref b48), (.ref b48)])) (fun t k => XS.bipush X55.here hx rfl (hb hby at_217) k) ?_
  refine own_step (S' := T55.setTop (mkF m 220 #[.val (.int p0), .val (.int p1), .val (.int p2), .val (.ref b1), .val (.ref b32), .unset, .unset, .unset, .unset, .unset, .unset] [(.int (5 : Int32)), (.int (7 : Int32)), (.ref b48), (.ref b48)])) (fun t k => XS.iconst X55.here hx rfl (hb hby at_219) k) ?_
  obtain ⟨T56, h56, lc56, X56, e56, A56, Ex56, N56, W56, st56⟩ := own_stI X55 hx hZ e55 A55 (j := (7 : Int32)) 7 [.int (7 : Int32), .int (11 : Int32), .int (2 : Int32), .int (5 : Int32), .int (7 : Int32), .int (5 : Int32), .int (2 : Int32), .int (5 : Int32), .int (0 : Int32), .int (0 : Int32), .int (0 : Int32), .int (0 : Int32), .int (0 : Int32), .int (0 : Int32), .int (0 : Int32)] (by decide) (by decide) (by decide : 7 < 15) rfl Ex55 hb48 N55 (g := (mkF m 220 #[.val (.int p0), .val (.int p1), .val (.int p2), .val (.ref b1), .val (.ref b32), .unset, .unset, .unset, .unset, .unset, .unset] [(.int (5 : Int32)), (.int (7 : Int32)), (.ref b48), (.ref b48)])) rfl rfl (hb hby at_220)
  have A56_b1 := own_Ar.other W56 A55_b1 (Nat.ne_of_lt lt48_b1)
  have A56_b32 := own_Ar.other W56 A55_b32 (Nat.ne_of_lt lt48_b32)
  refine own_step (S' := T56.setTop (mkF m 221 #[.val (.int p0), .val (.int p1), .val (.int p2), .val (.ref b1), .val (.ref b32), .unset, .unset, .unset, .unset, .unset, .unset] [(.ref b48)])) (fun t k => st56 t k) ?_
  refine own_step (S' := T56.setTop (mkF m 222 #[.val (.int p0), .val (.int p1), .val (.int p2), .val (.ref b1), .val (.ref b32), .unset, .unset, .unset, .unset, .unset, .unset] [(.ref b48), (.ref b48)])) (fun t k => XS.dup X56.here hx rfl (hb hby at_221) rfl rfl k) ?_
  refine own_step (S' := T56.setTop (mkF m 224 #[.val (.int p0), .val (.int p1), .val (.int p2), .val (.ref b1), .val (.ref b32), .unset, .unset, .unset, .unset, .unset, .unset] [(.int (8 : Int32)), (.ref b48), (.ref b48)])) (fun t k => XS.bipush X56.here hx rfl (hb hby at_222) k) ?_
  refine own_step (S' := T56.setTop (mkF m 225 #[.val (.int p0), .val (.int p1), .val (.int p2), .val (.ref b1), .val (.ref b32), .unset, .unset, .unset, .unset, .unset, .unset] [(.int (3 : Int32)), (.int (8 : Int32)), (.ref b48), (.ref b48)])) (fun t k => XS.iconst X56.here hx rfl (hb hby at_224) k) ?_
  obtain ⟨T57, h57, lc57, X57, e57, A57, Ex57, N57, W57, st57⟩ := own_stI X56 hx hZ e56 A56 (j := (8 : Int32)) 8 [.int (7 : Int32), .int (11 : Int32), .int (2 : Int32), .int (5 : Int32), .int (7 : Int32), .int (5 : Int32), .int (2 : Int32), .int (5 : Int32), .int (3 : Int32), .int (0 : Int32), .int (0 : Int32), .int (0 : Int32), .int (0 : Int32), .int (0 : Int32), .int (0 : Int32)] (by decide) (by decide) (by decide : 8 < 15) rfl Ex56 hb48 N56 (g := (mkF m 225 #[.val (.int p0), .val (.int p1), .val (.int p2), .val (.ref b1), .val (.ref b32), .unset, .unset, .unset, .unset, .unset, .unset] [(.int (3 : Int32)), (.int (8 : Int32)), (.ref b48), (.ref b48)])) rfl rfl (hb hby at_225)
  have A57_b1 := own_Ar.other W57 A56_b1 (Nat.ne_of_lt lt48_b1)
  have A57_b32 := own_Ar.other W57 A56_b32 (Nat.ne_of_lt lt48_b32)
  refine own_step (S' := T57.setTop (mkF m 226 #[.val (.int p0), .val (.int p1), .val (.int p2), .val (.ref b1), .val (.ref b32), .unset, .unset, .unset, .unset, .unset, .unset] [(.ref b48)])) (fun t k => st57 t k) ?_
  refine own_step (S' := T57.setTop (mkF m 227 #[.val (.int p0), .val (.int p1), .val (.int p2), .val (.ref b1), .val (.ref b32), .unset, .unset, .unset, .unset, .unset, .unset] [(.ref b48), (.ref b48)])) (fun t k => XS.dup X57.here hx rfl (hb hby at_226) rfl rfl k) ?_
  refine own_step (S' := T57.setTop (mkF m 229 #[.val (.int p0), .val (.int p1), .val (.int p2), .val (.ref b1), .val (.ref b32), .unset, .unset, .unset, .unset, .unset, .unset] [(.int (9 : Int32)), (.ref b48), (.ref b48)])) (fun t k => XS.bipush X57.here hx rfl (hb hby at_227) k) ?_
  refine own_step (S' := T57.setTop (mkF m 230 #[.val (.int p0), .val (.int p1), .val (.int p2), .val (.ref b1), .val (.ref b32), .unset, .unset, .unset, .unset, .unset, .unset] [(.int (1 : Int32)), (.int (9 : Int32)), (.ref b48), (.ref b48)])) (fun t k => XS.iconst X57.here hx rfl (hb hby at_229) k) ?_
  obtain ⟨T58, h58, lc58, X58, e58, A58, Ex58, N58, W58, st58⟩ := own_stI X57 hx hZ e57 A57 (j := (9 : Int32)) 9 [.int (7 : Int32), .int (11 : Int32), .int (2 : Int32), .int (5 : Int32), .int (7 : Int32), .int (5 : Int32), .int (2 : Int32), .int (5 : Int32), .int (3 : Int32), .int (1 : Int32), .int (0 : Int32), .int (0 : Int32), .int (0 : Int32), .int (0 : Int32), .int (0 : Int32)] (by decide) (by decide) (by decide : 9 < 15) rfl Ex57 hb48 N57 (g := (mkF m 230 #[.val (.int p0), .val (.int p1), .val (.int p2), .val (.ref b1), .val (.ref b32), .unset, .unset, .unset, .unset, .unset, .unset] [(.int (1 : Int32)), (.int (9 : Int32)), (.ref b48), (.ref b48)])) rfl rfl (hb hby at_230)
  have A58_b1 := own_Ar.other W58 A57_b1 (Nat.ne_of_lt lt48_b1)
  have A58_b32 := own_Ar.other W58 A57_b32 (Nat.ne_of_lt lt48_b32)
  refine own_step (S' := T58.setTop (mkF m 231 #[.val (.int p0), .val (.int p1), .val (.int p2), .val (.ref b1), .val (.ref b32), .unset, .unset, .unset, .unset, .unset, .unset] [(.ref b48)])) (fun t k => st58 t k) ?_
  refine own_step (S' := T58.setTop (mkF m 232 #[.val (.int p0), .val (.int p1), .val (.int p2), .val (.ref b1), .val (.ref b32), .unset, .unset, .unset, .unset, .unset, .unset] [(.ref b48), (.ref b48)])) (fun t k => XS.dup X58.here hx rfl (hb hby at_231) rfl rfl k) ?_
  refine own_step (S' := T58.setTop (mkF m 234 #[.val (.int p0), .val (.int p1), .val (.int p2), .val (.ref b1), .val (.ref b32), .unset, .unset, .unset, .unset, .unset, .unset] [(.int (10 : Int32)), (.ref b48), (.ref b48)])) (fun t k => XS.bipush X58.here hx rfl (hb hby at_232) k) ?_
  refine own_step (S' := T58.setTop (mkF m 235 #[.val (.int p0), .val (.int p1), .val (.int p2), .val (.ref b1), .val (.ref b32), .unset, .unset, .unset, .unset, .unset, .unset] [(.int (3 : Int32)), (.int (10 : Int32)), (.ref b48), (.ref b48)])) (fun t k => XS.iconst X58.here hx rfl (hb hby at_234) k) ?_
  obtain ⟨T59, h59, lc59, X59, e59, A59, Ex59, N59, W59, st59⟩ := own_stI X58 hx hZ e58 A58 (j := (10 : Int32)) 10 [.int (7 : Int32), .int (11 : Int32), .int (2 : Int32), .int (5 : Int32), .int (7 : Int32), .int (5 : Int32), .int (2 : Int32), .int (5 : Int32), .int (3 : Int32), .int (1 : Int32), .int (3 : Int32), .int (0 : Int32), .int (0 : Int32), .int (0 : Int32), .int (0 : Int32)] (by decide) (by decide) (by decide : 10 < 15) rfl Ex58 hb48 N58 (g := (mkF m 235 #[.val (.int p0), .val (.int p1), .val (.int p2), .val (.ref b1), .val (.ref b32), .unset, .unset, .unset, .unset, .unset, .unset] [(.int (3 : Int32)), (.int (10 : Int32)), (.ref b48), (.ref b48)])) rfl rfl (hb hby at_235)
  have A59_b1 := own_Ar.other W59 A58_b1 (Nat.ne_of_lt lt48_b1)
  have A59_b32 := own_Ar.other W59 A58_b32 (Nat.ne_of_lt lt48_b32)
  refine own_step (S' := T59.setTop (mkF m 236 #[.val (.int p0), .val (.int p1), .val (.int p2), .val (.ref b1), .val (.ref b32), .unset, .unset, .unset, .unset, .unset, .unset] [(.ref b48)])) (fun t k => st59 t k) ?_
  refine own_step (S' := T59.setTop (mkF m 237 #[.val (.int p0), .val (.int p1), .val (.int p2), .val (.ref b1), .val (.ref b32), .unset, .unset, .unset, .unset, .unset, .unset] [(.ref b48), (.ref b48)])) (fun t k => XS.dup X59.here hx rfl (hb hby at_236) rfl rfl k) ?_
  refine own_step (S' := T59.setTop (mkF m 239 #[.val (.int p0), .val (.int p1), .val (.int p2), .val (.ref b1), .val (.ref b32), .unset, .unset, .unset, .unset, .unset, .unset] [(.int (11 : Int32)), (.ref b48), (.ref b48)])) (fun t k => XS.bipush X59.here hx rfl (hb hby at_237) k) ?_
  refine own_step (S' := T59.setTop (mkF m 240 #[.val (.int p0), .val (.int p1), .val (.int p2), .val (.ref b1), .val (.ref b32), .unset, .unset, .unset, .unset, .unset, .unset] [(.int (4 : Int32)), (.int (11 : Int32)), (.ref b48), (.ref b48)])) (fun t k => XS.iconst X59.here hx rfl (hb hby at_239) k) ?_
  obtain ⟨T60, h60, lc60, X60, e60, A60, Ex60, N60, W60, st60⟩ := own_stI X59 hx hZ e59 A59 (j := (11 : Int32)) 11 [.int (7 : Int32), .int (11 : Int32), .int (2 : Int32), .int (5 : Int32), .int (7 : Int32), .int (5 : Int32), .int (2 : Int32), .int (5 : Int32), .int (3 : Int32), .int (1 : Int32), .int (3 : Int32), .int (4 : Int32), .int (0 : Int32), .int (0 : Int32), .int (0 : Int32)] (by decide) (by decide) (by decide : 11 < 15) rfl Ex59 hb48 N59 (g := (mkF m 240 #[.val (.int p0), .val (.int p1), .val (.int p2), .val (.ref b1), .val (.ref b32), .unset, .unset, .unset, .unset, .unset, .unset] [(.int (4 : Int32)), (.int (11 : Int32)), (.ref b48), (.ref b48)])) rfl rfl (hb hby at_240)
  have A60_b1 := own_Ar.other W60 A59_b1 (Nat.ne_of_lt lt48_b1)
  have A60_b32 := own_Ar.other W60 A59_b32 (Nat.ne_of_lt lt48_b32)
  refine own_step (S' := T60.setTop (mkF m 241 #[.val (.int p0), .val (.int p1), .val (.int p2), .val (.ref b1), .val (.ref b32), .unset, .unset, .unset, .unset, .unset, .unset] [(.ref b48)])) (fun t k => st60 t k) ?_
  refine own_step (S' := T60.setTop (mkF m 242 #[.val (.int p0), .val (.int p1), .val (.int p2), .val (.ref b1), .val (.ref b32), .unset, .unset, .unset, .unset, .unset, .unset] [(.ref b48), (.ref b48)])) (fun t k => XS.dup X60.here hx rfl (hb hby at_241) rfl rfl k) ?_
  refine own_step (S' := T60.setTop (mkF m 244 #[.val (.int p0), .val (.int p1), .val (.int p2), .val (.ref b1), .val (.ref b32), .unset, .unset, .unset, .unset, .unset, .unset] [(.int (12 : Int32)), (.ref b48), (.ref b48)])) (fun t k => XS.bipush X60.here hx rfl (hb hby at_242) k) ?_
  refine own_step (S' := T60.setTop (mkF m 245 #[.val (.int p0), .val (.int p1), .val (.int p2), .val (.ref b1), .val (.ref b32), .unset, .unset, .unset, .unset, .unset, .unset] [(.int (2 : Int32)), (.int (12 : Int32)), (.ref b48), (.ref b48)])) (fun t k => XS.iconst X60.here hx rfl (hb hby at_244) k) ?_
  obtain ⟨T61, h61, lc61, X61, e61, A61, Ex61, N61, W61, st61⟩ := own_stI X60 hx hZ e60 A60 (j := (12 : Int32)) 12 [.int (7 : Int32), .int (11 : Int32), .int (2 : Int32), .int (5 : Int32), .int (7 : Int32), .int (5 : Int32), .int (2 : Int32), .int (5 : Int32), .int (3 : Int32), .int (1 : Int32), .int (3 : Int32), .int (4 : Int32), .int (2 : Int32), .int (0 : Int32), .int (0 : Int32)] (by decide) (by decide) (by decide : 12 < 15) rfl Ex60 hb48 N60 (g := (mkF m 245 #[.val (.int p0), .val (.int p1), .val (.int p2), .val (.ref b1), .val (.ref b32), .unset, .unset, .unset, .unset, .unset, .unset] [(.int (2 : Int32)), (.int (12 : Int32)), (.ref b48), (.ref b48)])) rfl rfl (hb hby at_245)
  have A61_b1 := own_Ar.other W61 A60_b1 (Nat.ne_of_lt lt48_b1)
  have A61_b32 := own_Ar.other W61 A60_b32 (Nat.ne_of_lt lt48_b32)
  refine own_step (S' := T61.setTop (mkF m 246 #[.val (.int p0), .val (.int p1), .val (.int p2), .val (.ref b1), .val (.ref b32), .unset, .unset, .unset, .unset, .unset, .unset] [(.ref b48)])) (fun t k => st61 t k) ?_
  refine own_step (S' := T61.setTop (mkF m 247 #[.val (.int p0), .val (.int p1), .val (.int p2), .val (.ref b1), .val (.ref b32), .unset, .unset, .unset, .unset, .unset, .unset] [(.ref b48), (.ref b48)])) (fun t k => XS.dup X61.here hx rfl (hb hby at_246) rfl rfl k) ?_
  refine own_step (S' := T61.setTop (mkF m 249 #[.val (.int p0), .val (.int p1), .val (.int p2), .val (.ref b1), .val (.ref b32), .unset, .unset, .unset, .unset, .unset, .unset] [(.int (13 : Int32)), (.ref b48), (.ref b48)])) (fun t k => XS.bipush X61.here hx rfl (hb hby at_247) k) ?_
  refine own_step (S' := T61.setTop (mkF m 250 #[.val (.int p0), .val (.int p1), .val (.int p2), .val (.ref b1), .val (.ref b32), .unset, .unset, .unset, .unset, .unset, .unset] [(.int (3 : Int32)), (.int (13 : Int32)), (.ref b48), (.ref b48)])) (fun t k => XS.iconst X61.here hx rfl (hb hby at_249) k) ?_
  obtain ⟨T62, h62, lc62, X62, e62, A62, Ex62, N62, W62, st62⟩ := own_stI X61 hx hZ e61 A61 (j := (13 : Int32)) 13 [.int (7 : Int32), .int (11 : Int32), .int (2 : Int32), .int (5 : Int32), .int (7 : Int32), .int (5 : Int32), .int (2 : Int32), .int (5 : Int32), .int (3 : Int32), .int (1 : Int32), .int (3 : Int32), .int (4 : Int32), .int (2 : Int32), .int (3 : Int32), .int (0 : Int32)] (by decide) (by decide) (by decide : 13 < 15) rfl Ex61 hb48 N61 (g := (mkF m 250 #[.val (.int p0), .val (.int p1), .val (.int p2), .val (.ref b1), .val (.ref b32), .unset, .unset, .unset, .unset, .unset, .unset] [(.int (3 : Int32)), (.int (13 : Int32)), (.ref b48), (.ref b48)])) rfl rfl (hb hby at_250)
  have A62_b1 := own_Ar.other W62 A61_b1 (Nat.ne_of_lt lt48_b1)
  have A62_b32 := own_Ar.other W62 A61_b32 (Nat.ne_of_lt lt48_b32)
  refine own_step (S' := T62.setTop (mkF m 251 #[.val (.int p0), .val (.int p1), .val (.int p2), .val (.ref b1), .val (.ref b32), .unset, .unset, .unset, .unset, .unset, .unset] [(.ref b48)])) (fun t k => st62 t k) ?_
  refine own_step (S' := T62.setTop (mkF m 252 #[.val (.int p0), .val (.int p1), .val (.int p2), .val (.ref b1), .val (.ref b32), .unset, .unset, .unset, .unset, .unset, .unset] [(.ref b48), (.ref b48)])) (fun t k => XS.dup X62.here hx rfl (hb hby at_251) rfl rfl k) ?_
  refine own_step (S' := T62.setTop (mkF m 254 #[.val (.int p0), .val (.int p1), .val (.int p2), .val (.ref b1), .val (.ref b32), .unset, .unset, .unset, .unset, .unset, .unset] [(.int (14 : Int32)), (.ref b48), (.ref b48)])) (fun t k => XS.bipush X62.here hx rfl (hb hby at_252) k) ?_
  refine own_step (S' := T62.setTop (mkF m 255 #[.val (.int p0), .val (.int p1), .val (.int p2), .val (.ref b1), .val (.ref b32), .unset, .unset, .unset, .unset, .unset, .unset] [(.int (1 : Int32)), (.int (14 : Int32)), (.ref b48), (.ref b48)])) (fun t k => XS.iconst X62.here hx rfl (hb hby at_254) k) ?_
  obtain ⟨T63, h63, lc63, X63, e63, A63, Ex63, N63, W63, st63⟩ := own_stI X62 hx hZ e62 A62 (j := (14 : Int32)) 14 [.int (7 : Int32), .int (11 : Int32), .int (2 : Int32), .int (5 : Int32), .int (7 : Int32), .int (5 : Int32), .int (2 : Int32), .int (5 : Int32), .int (3 : Int32), .int (1 : Int32), .int (3 : Int32), .int (4 : Int32), .int (2 : Int32), .int (3 : Int32), .int (1 : Int32)] (by decide) (by decide) (by decide : 14 < 15) rfl Ex62 hb48 N62 (g := (mkF m 255 #[.val (.int p0), .val (.int p1), .val (.int p2), .val (.ref b1), .val (.ref b32), .unset, .unset, .unset, .unset, .unset, .unset] [(.int (1 : Int32)), (.int (14 : Int32)), (.ref b48), (.ref b48)])) rfl rfl (hb hby at_255)
  have A63_b1 := own_Ar.other W63 A62_b1 (Nat.ne_of_lt lt48_b1)
  have A63_b32 := own_Ar.other W63 A62_b32 (Nat.ne_of_lt lt48_b32)
  refine own_step (S' := T63.setTop (mkF m 256 #[.val (.int p0), .val (.int p1), .val (.int p2), .val (.ref b1), .val (.ref b32), .unset, .unset, .unset, .unset, .unset, .unset] [(.ref b48)])) (fun t k => st63 t k) ?_
  refine own_step (S' := T63.setTop (mkF m 258 #[.val (.int p0), .val (.int p1), .val (.int p2), .val (.ref b1), .val (.ref b32), .val (.ref b48), .unset, .unset, .unset, .unset, .unset] [])) (fun t k => XS.astore X63.here hx rfl (hb hby at_256) rfl rfl (l' := #[.val (.int p0), .val (.int p1), .val (.int p2), .val (.ref b1), .val (.ref b32), .val (.ref b48), .unset, .unset, .unset, .unset, .unset]) rfl k) ?_
  refine own_step (S' := T63.setTop (mkF m 259 #[.val (.int p0), .val (.int p1), .val (.int p2), .val (.ref b1), .val (.ref b32), .val (.ref b48), .unset, .unset, .unset, .unset, .unset] [(.int p0)])) (fun t k => XS.iloadN X63.here hx rfl (hb hby at_258) rfl k) ?_
  refine own_step (S' := T63.setTop (mkF m 261 #[.val (.int p0), .val (.int p1), .val (.int p2), .val (.ref b1), .val (.ref b32), .val (.ref b48), .unset, .unset, .unset, .unset, .unset] [(.int (2147483647 : Int32)), (.int p0)])) (fun t k => own_ldcI (own := "com/example/usher/usher/ApiKeyOffersPinLaw") (index := 55) (v := (2147483647 : Int32)) X63 hx hZ hown (hw _ (List.mem_of_getElem? (i := 35) rfl)) (g := (mkF m 259 #[.val (.int p0), .val (.int p1), .val (.int p2), .val (.ref b1), .val (.ref b32), .val (.ref b48), .unset, .unset, .unset, .unset, .unset] [(.int p0)])) rfl (hb hby at_259) t k) ?_
  refine own_step (S' := T63.setTop (mkF m 262 #[.val (.int p0), .val (.int p1), .val (.int p2), .val (.ref b1), .val (.ref b32), .val (.ref b48), .unset, .unset, .unset, .unset, .unset] [(.int (p0 &&& (2147483647 : Int32)))])) (fun t k => XS.iand X63.here hx rfl (hb hby at_261) rfl k) ?_
  refine own_step (S' := T63.setTop (mkF m 264 #[.val (.int p0), .val (.int p1), .val (.int p2), .val (.ref b1), .val (.ref b32), .val (.ref b48), .unset, .unset, .unset, .unset, .unset] [(.int (15 : Int32)), (.int (p0 &&& (2147483647 : Int32)))])) (fun t k => XS.bipush X63.here hx rfl (hb hby at_262) k) ?_
  refine own_step (S' := T63.setTop (mkF m 265 #[.val (.int p0), .val (.int p1), .val (.int p2), .val (.ref b1), .val (.ref b32), .val (.ref b48), .unset, .unset, .unset, .unset, .unset] [(.int ((p0 &&& (2147483647 : Int32)) % (15 : Int32)))])) (fun t k => iremM X63 hx rfl (hb hby at_264) rfl (by decide) k) ?_
  refine own_step (S' := T63.setTop (mkF m 267 #[.val (.int p0), .val (.int p1), .val (.int p2), .val (.ref b1), .val (.ref b32), .val (.ref b48), .val (.int ((p0 &&& (2147483647 : Int32)) % (15 : Int32))), .unset, .unset, .unset, .unset] [])) (fun t k => XS.istore X63.here hx rfl (hb hby at_265) rfl (l' := #[.val (.int p0), .val (.int p1), .val (.int p2), .val (.ref b1), .val (.ref b32), .val (.ref b48), .val (.int ((p0 &&& (2147483647 : Int32)) % (15 : Int32))), .unset, .unset, .unset, .unset]) rfl k) ?_
  generalize hg_i : ((p0 &&& (2147483647 : Int32)) % (15 : Int32)) = i
  have hr := own_idx p0 15 (by decide)
  rw [hg_i] at hr
  have hc := own_cases15 hr.1 hr.2
  have hnn := own_nn hr.1
  have Ea : Exa Z Z.heap (own_pick i w) "com/example/usher/usher/ApiKey" := by
    rcases hc with rfl | rfl | rfl | rfl | rfl | rfl | rfl | rfl | rfl | rfl | rfl | rfl | rfl | rfl | rfl
    · exact (sE0)
    · exact (sE1)
    · exact (sE2)
    · exact (sE3)
    · exact (sE4)
    · exact (sE5)
    · exact (sE6)
    · exact (sE7)
    · exact (sE8)
    · exact (sE9)
    · exact (sE10)
    · exact (sE11)
    · exact (sE12)
    · exact (sE13)
    · exact (sE14)
  have hat : ([.ref (w 0), .ref (w 1), .ref (w 2), .ref (w 3), .ref (w 4), .ref (w 5), .ref (w 6), .ref (w 7), .ref (w 8), .ref (w 9), .ref (w 10), .ref (w 11), .ref (w 12), .ref (w 13), .ref (w 14)] : List Value)[i.toNatClampNeg]? = some (.ref (own_pick i w)) := by
    rcases hc with rfl | rfl | rfl | rfl | rfl | rfl | rfl | rfl | rfl | rfl | rfl | rfl | rfl | rfl | rfl <;> rfl
  have hlo : ([.int (0 : Int32), .int (4 : Int32), .int (1 : Int32), .int (0 : Int32), .int (1 : Int32), .int (1 : Int32), .int (0 : Int32), .int (0 : Int32), .int (0 : Int32), .int (0 : Int32), .int (0 : Int32), .int (0 : Int32), .int (0 : Int32), .int (0 : Int32), .int (0 : Int32)] : List Value)[i.toNatClampNeg]? = some (.int (own_lo i)) := by
    rcases hc with rfl | rfl | rfl | rfl | rfl | rfl | rfl | rfl | rfl | rfl | rfl | rfl | rfl | rfl | rfl <;> rfl
  have hhi : ([.int (7 : Int32), .int (11 : Int32), .int (2 : Int32), .int (5 : Int32), .int (7 : Int32), .int (5 : Int32), .int (2 : Int32), .int (5 : Int32), .int (3 : Int32), .int (1 : Int32), .int (3 : Int32), .int (4 : Int32), .int (2 : Int32), .int (3 : Int32), .int (1 : Int32)] : List Value)[i.toNatClampNeg]? = some (.int (own_hi i)) := by
    rcases hc with rfl | rfl | rfl | rfl | rfl | rfl | rfl | rfl | rfl | rfl | rfl | rfl | rfl | rfl | rfl <;> rfl
  have Flo : Fld Z Z.heap (own_pick i w) "com/example/usher/usher/ApiKey" "lowestVersion" "S" (.int (own_lo i)) := by
    rcases hc with rfl | rfl | rfl | rfl | rfl | rfl | rfl | rfl | rfl | rfl | rfl | rfl | rfl | rfl | rfl
    · exact (sF0_lowestVersion)
    · exact (sF1_lowestVersion)
    · exact (sF2_lowestVersion)
    · exact (sF3_lowestVersion)
    · exact (sF4_lowestVersion)
    · exact (sF5_lowestVersion)
    · exact (sF6_lowestVersion)
    · exact (sF7_lowestVersion)
    · exact (sF8_lowestVersion)
    · exact (sF9_lowestVersion)
    · exact (sF10_lowestVersion)
    · exact (sF11_lowestVersion)
    · exact (sF12_lowestVersion)
    · exact (sF13_lowestVersion)
    · exact (sF14_lowestVersion)
  have Fhi : Fld Z Z.heap (own_pick i w) "com/example/usher/usher/ApiKey" "highestVersion" "S" (.int (own_hi i)) := by
    rcases hc with rfl | rfl | rfl | rfl | rfl | rfl | rfl | rfl | rfl | rfl | rfl | rfl | rfl | rfl | rfl
    · exact (sF0_highestVersion)
    · exact (sF1_highestVersion)
    · exact (sF2_highestVersion)
    · exact (sF3_highestVersion)
    · exact (sF4_highestVersion)
    · exact (sF5_highestVersion)
    · exact (sF6_highestVersion)
    · exact (sF7_highestVersion)
    · exact (sF8_highestVersion)
    · exact (sF9_highestVersion)
    · exact (sF10_highestVersion)
    · exact (sF11_highestVersion)
    · exact (sF12_highestVersion)
    · exact (sF13_highestVersion)
    · exact (sF14_highestVersion)
  have rlo : 0 ≤ (own_lo i).toInt ∧ (own_lo i).toInt ≤ 4 := by
    rcases hc with rfl | rfl | rfl | rfl | rfl | rfl | rfl | rfl | rfl | rfl | rfl | rfl | rfl | rfl | rfl <;> decide
  have rhi : 0 ≤ (own_hi i).toInt ∧ (own_hi i).toInt ≤ 11 := by
    rcases hc with rfl | rfl | rfl | rfl | rfl | rfl | rfl | rfl | rfl | rfl | rfl | rfl | rfl | rfl | rfl <;> decide
  have r3 := own_and3 p1
  refine own_step (S' := T63.setTop (mkF m 268 #[.val (.int p0), .val (.int p1), .val (.int p2), .val (.ref b1), .val (.ref b32), .val (.ref b48), .val (.int i), .unset, .unset, .unset, .unset] [(.int p2)])) (fun t k => XS.iloadN X63.here hx rfl (hb hby at_267) rfl k) ?_
  refine own_step (S' := T63.setTop (mkF m 269 #[.val (.int p0), .val (.int p1), .val (.int p2), .val (.ref b1), .val (.ref b32), .val (.ref b48), .val (.int i), .unset, .unset, .unset, .unset] [(.int (3 : Int32)), (.int p2)])) (fun t k => XS.iconst X63.here hx rfl (hb hby at_268) k) ?_
  refine own_step (S' := T63.setTop (mkF m 270 #[.val (.int p0), .val (.int p1), .val (.int p2), .val (.ref b1), .val (.ref b32), .val (.ref b48), .val (.int i), .unset, .unset, .unset, .unset] [(.int (p2 &&& (3 : Int32)))])) (fun t k => XS.iand X63.here hx rfl (hb hby at_269) rfl k) ?_
  refine own_step (S' := T63.setTop (mkF m 272 #[.val (.int p0), .val (.int p1), .val (.int p2), .val (.ref b1), .val (.ref b32), .val (.ref b48), .val (.int i), .val (.int (p2 &&& (3 : Int32))), .unset, .unset, .unset] [])) (fun t k => XS.istore X63.here hx rfl (hb hby at_270) rfl (l' := #[.val (.int p0), .val (.int p1), .val (.int p2), .val (.ref b1), .val (.ref b32), .val (.ref b48), .val (.int i), .val (.int (p2 &&& (3 : Int32))), .unset, .unset, .unset]) rfl k) ?_
  refine own_step (S' := T63.setTop (mkF m 274 #[.val (.int p0), .val (.int p1), .val (.int p2), .val (.ref b1), .val (.ref b32), .val (.ref b48), .val (.int i), .val (.int (p2 &&& (3 : Int32))), .unset, .unset, .unset] [(.int (p2 &&& (3 : Int32)))])) (fun t k => XS.iload X63.here hx rfl (hb hby at_272) rfl k) ?_
  refine own_step (S' := T63.setTop (mkF m 275 #[.val (.int p0), .val (.int p1), .val (.int p2), .val (.ref b1), .val (.ref b32), .val (.ref b48), .val (.int i), .val (.int (p2 &&& (3 : Int32))), .unset, .unset, .unset] [(.int (1 : Int32)), (.int (p2 &&& (3 : Int32)))])) (fun t k => XS.iconst X63.here hx rfl (hb hby at_274) k) ?_
  by_cases q64 : (p2 &&& (3 : Int32)) = (1 : Int32)
  ·
    refine own_step (S' := T63.setTop (mkF m 278 #[.val (.int p0), .val (.int p1), .val (.int p2), .val (.ref b1), .val (.ref b32), .val (.ref b48), .val (.int i), .val (.int (p2 &&& (3 : Int32))), .unset, .unset, .unset] [])) (fun t k => XS.icmpNo X63.here hx rfl (hb hby at_275) rfl (teq (q64 : (p2 &&& (3 : Int32)) = (1 : Int32))).2 k) ?_
    refine own_step (S' := T63.setTop (mkF m 280 #[.val (.int p0), .val (.int p1), .val (.int p2), .val (.ref b1), .val (.ref b32), .val (.ref b48), .val (.int i), .val (.int (p2 &&& (3 : Int32))), .unset, .unset, .unset] [(.ref b32)])) (fun t k => XS.aload X63.here hx rfl (hb hby at_278) rfl rfl k) ?_
    refine own_step (S' := T63.setTop (mkF m 282 #[.val (.int p0), .val (.int p1), .val (.int p2), .val (.ref b1), .val (.ref b32), .val (.ref b48), .val (.int i), .val (.int (p2 &&& (3 : Int32))), .unset, .unset, .unset] [(.int i), (.ref b32)])) (fun t k => XS.iload X63.here hx rfl (hb hby at_280) rfl k) ?_
    refine own_step (S' := T63.setTop (mkF m 283 #[.val (.int p0), .val (.int p1), .val (.int p2), .val (.ref b1), .val (.ref b32), .val (.ref b48), .val (.int i), .val (.int (p2 &&& (3 : Int32))), .unset, .unset, .unset] [(.int (own_lo i))])) (fun t k => own_iaload X63 hx hZ e63 A63_b32 (j := i) hnn hlo (g := (mkF m 282 #[.val (.int p0), .val (.int p1), .val (.int p2), .val (.ref b1), .val (.ref b32), .val (.ref b48), .val (.int i), .val (.int (p2 &&& (3 : Int32))), .unset, .unset, .unset] [(.int i), (.ref b32)])) rfl rfl (hb hby at_282) t k) ?_
    refine own_step (S' := T63.setTop (mkF m 284 #[.val (.int p0), .val (.int p1), .val (.int p2), .val (.ref b1), .val (.ref b32), .val (.ref b48), .val (.int i), .val (.int (p2 &&& (3 : Int32))), .unset, .unset, .unset] [(.int (1 : Int32)), (.int (own_lo i))])) (fun t k => XS.iconst X63.here hx rfl (hb hby at_283) k) ?_
    refine own_step (S' := T63.setTop (mkF m 285 #[.val (.int p0), .val (.int p1), .val (.int p2), .val (.ref b1), .val (.ref b32), .val (.ref b48), .val (.int i), .val (.int (p2 &&& (3 : Int32))), .unset, .unset, .unset] [(.int ((own_lo i) - (1 : Int32)))])) (fun t k => XS.isub X63.here hx rfl (hb hby at_284) rfl k) ?_
    refine own_step (S' := T63.setTop (mkF m 286 #[.val (.int p0), .val (.int p1), .val (.int p2), .val (.ref b1), .val (.ref b32), .val (.ref b48), .val (.int i), .val (.int (p2 &&& (3 : Int32))), .unset, .unset, .unset] [(.int p1), (.int ((own_lo i) - (1 : Int32)))])) (fun t k => XS.iloadN X63.here hx rfl (hb hby at_285) rfl k) ?_
    refine own_step (S' := T63.setTop (mkF m 287 #[.val (.int p0), .val (.int p1), .val (.int p2), .val (.ref b1), .val (.ref b32), .val (.ref b48), .val (.int i), .val (.int (p2 &&& (3 : Int32))), .unset, .unset, .unset] [(.int (3 : Int32)), (.int p1), (.int ((own_lo i) - (1 : Int32)))])) (fun t k => XS.iconst X63.here hx rfl (hb hby at_286) k) ?_
    refine own_step (S' := T63.setTop (mkF m 288 #[.val (.int p0), .val (.int p1), .val (.int p2), .val (.ref b1), .val (.ref b32), .val (.ref b48), .val (.int i), .val (.int (p2 &&& (3 : Int32))), .unset, .unset, .unset] [(.int (p1 &&& (3 : Int32))), (.int ((own_lo i) - (1 : Int32)))])) (fun t k => XS.iand X63.here hx rfl (hb hby at_287) rfl k) ?_
    refine own_step (S' := T63.setTop (mkF m 289 #[.val (.int p0), .val (.int p1), .val (.int p2), .val (.ref b1), .val (.ref b32), .val (.ref b48), .val (.int i), .val (.int (p2 &&& (3 : Int32))), .unset, .unset, .unset] [(.int (((own_lo i) - (1 : Int32)) + (p1 &&& (3 : Int32))))])) (fun t k => XS.iadd X63.here hx rfl (hb hby at_288) rfl k) ?_
    refine own_step (S' := T63.setTop (mkF m 291 #[.val (.int p0), .val (.int p1), .val (.int p2), .val (.ref b1), .val (.ref b32), .val (.ref b48), .val (.int i), .val (.int (p2 &&& (3 : Int32))), .val (.int (((own_lo i) - (1 : Int32)) + (p1 &&& (3 : Int32)))), .unset, .unset] [])) (fun t k => XS.istore X63.here hx rfl (hb hby at_289) rfl (l' := #[.val (.int p0), .val (.int p1), .val (.int p2), .val (.ref b1), .val (.ref b32), .val (.ref b48), .val (.int i), .val (.int (p2 &&& (3 : Int32))), .val (.int (((own_lo i) - (1 : Int32)) + (p1 &&& (3 : Int32)))), .unset, .unset]) rfl k) ?_
    refine own_step (S' := T63.setTop (mkF m 320 #[.val (.int p0), .val (.int p1), .val (.int p2), .val (.ref b1), .val (.ref b32), .val (.ref b48), .val (.int i), .val (.int (p2 &&& (3 : Int32))), .val (.int (((own_lo i) - (1 : Int32)) + (p1 &&& (3 : Int32)))), .unset, .unset] [])) (fun t k => XS.goto X63.here hx rfl (pc0 := 291) (pc' := 320) rfl (hb hby at_291) (by decide) (by decide) k) ?_
    have hsh : ((((own_lo i) - (1 : Int32)) + (p1 &&& (3 : Int32))).toInt16.toInt32) = (((own_lo i) - (1 : Int32)) + (p1 &&& (3 : Int32))) := by
      have h1 := c_isub (own_lo i) (1 : Int32)
      have h2 := c_iadd ((own_lo i) - (1 : Int32)) (p1 &&& (3 : Int32))
      have h3 := rng32 ((own_lo i) - (1 : Int32))
      have h4 := rng32 (((own_lo i) - (1 : Int32)) + (p1 &&& (3 : Int32)))
      have h5 : (1 : Int32).toInt = 1 := by decide
      exact own_short (by omega) (by omega)
    refine own_step (S' := T63.setTop (mkF m 322 #[.val (.int p0), .val (.int p1), .val (.int p2), .val (.ref b1), .val (.ref b32), .val (.ref b48), .val (.int i), .val (.int (p2 &&& (3 : Int32))), .val (.int (((own_lo i) - (1 : Int32)) + (p1 &&& (3 : Int32)))), .unset, .unset] [(.int (((own_lo i) - (1 : Int32)) + (p1 &&& (3 : Int32))))])) (fun t k => XS.iload X63.here hx rfl (hb hby at_320) rfl k) ?_
    refine own_step (S' := T63.setTop (mkF m 323 #[.val (.int p0), .val (.int p1), .val (.int p2), .val (.ref b1), .val (.ref b32), .val (.ref b48), .val (.int i), .val (.int (p2 &&& (3 : Int32))), .val (.int (((own_lo i) - (1 : Int32)) + (p1 &&& (3 : Int32)))), .unset, .unset] [(.int ((((own_lo i) - (1 : Int32)) + (p1 &&& (3 : Int32))).toInt16.toInt32))])) (fun t k => XT.i2s X63.here hx rfl (hb hby at_322) rfl k) ?_
    refine own_step (S' := T63.setTop (mkF m 325 #[.val (.int p0), .val (.int p1), .val (.int p2), .val (.ref b1), .val (.ref b32), .val (.ref b48), .val (.int i), .val (.int (p2 &&& (3 : Int32))), .val (.int (((own_lo i) - (1 : Int32)) + (p1 &&& (3 : Int32)))), .val (.int ((((own_lo i) - (1 : Int32)) + (p1 &&& (3 : Int32))).toInt16.toInt32)), .unset] [])) (fun t k => XS.istore X63.here hx rfl (hb hby at_323) rfl (l' := #[.val (.int p0), .val (.int p1), .val (.int p2), .val (.ref b1), .val (.ref b32), .val (.ref b48), .val (.int i), .val (.int (p2 &&& (3 : Int32))), .val (.int (((own_lo i) - (1 : Int32)) + (p1 &&& (3 : Int32)))), .val (.int ((((own_lo i) - (1 : Int32)) + (p1 &&& (3 : Int32))).toInt16.toInt32)), .unset]) rfl k) ?_
    rw [hsh]
    refine own_step (S' := T63.setTop (mkF m 327 #[.val (.int p0), .val (.int p1), .val (.int p2), .val (.ref b1), .val (.ref b32), .val (.ref b48), .val (.int i), .val (.int (p2 &&& (3 : Int32))), .val (.int (((own_lo i) - (1 : Int32)) + (p1 &&& (3 : Int32)))), .val (.int (((own_lo i) - (1 : Int32)) + (p1 &&& (3 : Int32)))), .unset] [(.ref b32)])) (fun t k => XS.aload X63.here hx rfl (hb hby at_325) rfl rfl k) ?_
    refine own_step (S' := T63.setTop (mkF m 329 #[.val (.int p0), .val (.int p1), .val (.int p2), .val (.ref b1), .val (.ref b32), .val (.ref b48), .val (.int i), .val (.int (p2 &&& (3 : Int32))), .val (.int (((own_lo i) - (1 : Int32)) + (p1 &&& (3 : Int32)))), .val (.int (((own_lo i) - (1 : Int32)) + (p1 &&& (3 : Int32)))), .unset] [(.int i), (.ref b32)])) (fun t k => XS.iload X63.here hx rfl (hb hby at_327) rfl k) ?_
    refine own_step (S' := T63.setTop (mkF m 330 #[.val (.int p0), .val (.int p1), .val (.int p2), .val (.ref b1), .val (.ref b32), .val (.ref b48), .val (.int i), .val (.int (p2 &&& (3 : Int32))), .val (.int (((own_lo i) - (1 : Int32)) + (p1 &&& (3 : Int32)))), .val (.int (((own_lo i) - (1 : Int32)) + (p1 &&& (3 : Int32)))), .unset] [(.int (own_lo i))])) (fun t k => own_iaload X63 hx hZ e63 A63_b32 (j := i) hnn hlo (g := (mkF m 329 #[.val (.int p0), .val (.int p1), .val (.int p2), .val (.ref b1), .val (.ref b32), .val (.ref b48), .val (.int i), .val (.int (p2 &&& (3 : Int32))), .val (.int (((own_lo i) - (1 : Int32)) + (p1 &&& (3 : Int32)))), .val (.int (((own_lo i) - (1 : Int32)) + (p1 &&& (3 : Int32)))), .unset] [(.int i), (.ref b32)])) rfl rfl (hb hby at_329) t k) ?_
    refine own_step (S' := T63.setTop (mkF m 332 #[.val (.int p0), .val (.int p1), .val (.int p2), .val (.ref b1), .val (.ref b32), .val (.ref b48), .val (.int i), .val (.int (p2 &&& (3 : Int32))), .val (.int (((own_lo i) - (1 : Int32)) + (p1 &&& (3 : Int32)))), .val (.int (((own_lo i) - (1 : Int32)) + (p1 &&& (3 : Int32)))), .unset] [(.int (((own_lo i) - (1 : Int32)) + (p1 &&& (3 : Int32)))), (.int (own_lo i))])) (fun t k => XS.iload X63.here hx rfl (hb hby at_330) rfl k) ?_
    by_cases q65 : (((own_lo i) - (1 : Int32)) + (p1 &&& (3 : Int32))) < (own_lo i)
    ·
      refine own_step (S' := T63.setTop (mkF m 349 #[.val (.int p0), .val (.int p1), .val (.int p2), .val (.ref b1), .val (.ref b32), .val (.ref b48), .val (.int i), .val (.int (p2 &&& (3 : Int32))), .val (.int (((own_lo i) - (1 : Int32)) + (p1 &&& (3 : Int32)))), .val (.int (((own_lo i) - (1 : Int32)) + (p1 &&& (3 : Int32)))), .unset] [])) (fun t k => XS.icmpYes X63.here hx rfl (pc0 := 332) (pc' := 349) rfl (hb hby at_332) rfl (tlt (q65 : (((own_lo i) - (1 : Int32)) + (p1 &&& (3 : Int32))) < (own_lo i))).2.2.1 (by decide) (by decide) k) ?_
      refine own_step (S' := T63.setTop (mkF m 350 #[.val (.int p0), .val (.int p1), .val (.int p2), .val (.ref b1), .val (.ref b32), .val (.ref b48), .val (.int i), .val (.int (p2 &&& (3 : Int32))), .val (.int (((own_lo i) - (1 : Int32)) + (p1 &&& (3 : Int32)))), .val (.int (((own_lo i) - (1 : Int32)) + (p1 &&& (3 : Int32)))), .unset] [(.int (0 : Int32))])) (fun t k => XS.iconst X63.here hx rfl (hb hby at_349) k) ?_
      refine own_step (S' := T63.setTop (mkF m 352 #[.val (.int p0), .val (.int p1), .val (.int p2), .val (.ref b1), .val (.ref b32), .val (.ref b48), .val (.int i), .val (.int (p2 &&& (3 : Int32))), .val (.int (((own_lo i) - (1 : Int32)) + (p1 &&& (3 : Int32)))), .val (.int (((own_lo i) - (1 : Int32)) + (p1 &&& (3 : Int32)))), .val (.int (0 : Int32))] [])) (fun t k => XS.istore X63.here hx rfl (hb hby at_350) rfl (l' := #[.val (.int p0), .val (.int p1), .val (.int p2), .val (.ref b1), .val (.ref b32), .val (.ref b48), .val (.int i), .val (.int (p2 &&& (3 : Int32))), .val (.int (((own_lo i) - (1 : Int32)) + (p1 &&& (3 : Int32)))), .val (.int (((own_lo i) - (1 : Int32)) + (p1 &&& (3 : Int32)))), .val (.int (0 : Int32))]) rfl k) ?_
      refine own_step (S' := T63.setTop (mkF m 353 #[.val (.int p0), .val (.int p1), .val (.int p2), .val (.ref b1), .val (.ref b32), .val (.ref b48), .val (.int i), .val (.int (p2 &&& (3 : Int32))), .val (.int (((own_lo i) - (1 : Int32)) + (p1 &&& (3 : Int32)))), .val (.int (((own_lo i) - (1 : Int32)) + (p1 &&& (3 : Int32)))), .val (.int (0 : Int32))] [(.ref b1)])) (fun t k => XS.aloadN X63.here hx rfl (hb hby at_352) rfl rfl k) ?_
      refine own_step (S' := T63.setTop (mkF m 355 #[.val (.int p0), .val (.int p1), .val (.int p2), .val (.ref b1), .val (.ref b32), .val (.ref b48), .val (.int i), .val (.int (p2 &&& (3 : Int32))), .val (.int (((own_lo i) - (1 : Int32)) + (p1 &&& (3 : Int32)))), .val (.int (((own_lo i) - (1 : Int32)) + (p1 &&& (3 : Int32)))), .val (.int (0 : Int32))] [(.int i), (.ref b1)])) (fun t k => XS.iload X63.here hx rfl (hb hby at_353) rfl k) ?_
      refine own_step (S' := T63.setTop (mkF m 356 #[.val (.int p0), .val (.int p1), .val (.int p2), .val (.ref b1), .val (.ref b32), .val (.ref b48), .val (.int i), .val (.int (p2 &&& (3 : Int32))), .val (.int (((own_lo i) - (1 : Int32)) + (p1 &&& (3 : Int32)))), .val (.int (((own_lo i) - (1 : Int32)) + (p1 &&& (3 : Int32)))), .val (.int (0 : Int32))] [(.ref (own_pick i w))])) (fun t k => own_aaload X63 hx hZ e63 A63_b1 rfl (j := i) hnn hat (g := (mkF m 355 #[.val (.int p0), .val (.int p1), .val (.int p2), .val (.ref b1), .val (.ref b32), .val (.ref b48), .val (.int i), .val (.int (p2 &&& (3 : Int32))), .val (.int (((own_lo i) - (1 : Int32)) + (p1 &&& (3 : Int32)))), .val (.int (((own_lo i) - (1 : Int32)) + (p1 &&& (3 : Int32)))), .val (.int (0 : Int32))] [(.int i), (.ref b1)])) rfl rfl (hb hby at_355) t k) ?_
      refine own_step (S' := T63.setTop (mkF m 358 #[.val (.int p0), .val (.int p1), .val (.int p2), .val (.ref b1), .val (.ref b32), .val (.ref b48), .val (.int i), .val (.int (p2 &&& (3 : Int32))), .val (.int (((own_lo i) - (1 : Int32)) + (p1 &&& (3 : Int32)))), .val (.int (((own_lo i) - (1 : Int32)) + (p1 &&& (3 : Int32)))), .val (.int (0 : Int32))] [(.int (((own_lo i) - (1 : Int32)) + (p1 &&& (3 : Int32)))), (.ref (own_pick i w))])) (fun t k => XS.iload X63.here hx rfl (hb hby at_356) rfl k) ?_
      obtain ⟨_, T66, Lq66, X66, ⟨rfl, Nq66, e66⟩, st66⟩ := own_callV X63 hx hZ hown (hw _ (List.mem_of_getElem? (i := 36) rfl)) (hw _ (List.mem_of_getElem? (i := 37) rfl)) (hw _ (List.mem_of_getElem? (i := 39) rfl)) (hw _ (List.mem_of_getElem? (i := 38) rfl)) (hw _ (List.mem_of_getElem? (i := 40) rfl)) (hw _ (List.mem_of_getElem? (i := 3) rfl)) (by decide) (argsL := [(.int (((own_lo i) - (1 : Int32)) + (p1 &&& (3 : Int32))))]) (rest := []) (rm1 l Z a0 hw [] (own_pick i w) (own_lo i) (own_hi i) (((own_lo i) - (1 : Int32)) + (p1 &&& (3 : Int32))) h63 Ex63 Flo Fhi) (W := 0) (by decide) (by decide) e63 (Ea.ext Ex63) (g := (mkF m 358 #[.val (.int p0), .val (.int p1), .val (.int p2), .val (.ref b1), .val (.ref b32), .val (.ref b48), .val (.int i), .val (.int (p2 &&& (3 : Int32))), .val (.int (((own_lo i) - (1 : Int32)) + (p1 &&& (3 : Int32)))), .val (.int (((own_lo i) - (1 : Int32)) + (p1 &&& (3 : Int32)))), .val (.int (0 : Int32))] [(.int (((own_lo i) - (1 : Int32)) + (p1 &&& (3 : Int32)))), (.ref (own_pick i w))])) rfl (by rw [hml]; rfl) (lenOf own_pd0 rfl) rfl (by show 2 * 0 + _ ≤ _; exact Nat.le_of_eq rfl) (hb hby at_358) (by decide) (by decide)
      have N66 := Fr.app N63 Nq66
      refine own_step (S' := T66.setTop (mkF m 361 #[.val (.int p0), .val (.int p1), .val (.int p2), .val (.ref b1), .val (.ref b32), .val (.ref b48), .val (.int i), .val (.int (p2 &&& (3 : Int32))), .val (.int (((own_lo i) - (1 : Int32)) + (p1 &&& (3 : Int32)))), .val (.int (((own_lo i) - (1 : Int32)) + (p1 &&& (3 : Int32)))), .val (.int (0 : Int32))] [(.int (own_off (own_lo i) (own_hi i) (((own_lo i) - (1 : Int32)) + (p1 &&& (3 : Int32)))))])) (fun t k => st66 t k) ?_
      refine own_step (S' := T66.setTop (mkF m 363 #[.val (.int p0), .val (.int p1), .val (.int p2), .val (.ref b1), .val (.ref b32), .val (.ref b48), .val (.int i), .val (.int (p2 &&& (3 : Int32))), .val (.int (((own_lo i) - (1 : Int32)) + (p1 &&& (3 : Int32)))), .val (.int (((own_lo i) - (1 : Int32)) + (p1 &&& (3 : Int32)))), .val (.int (0 : Int32))] [(.int (0 : Int32)), (.int (own_off (own_lo i) (own_hi i) (((own_lo i) - (1 : Int32)) + (p1 &&& (3 : Int32)))))])) (fun t k => XS.iload X66.here hx rfl (hb hby at_361) rfl k) ?_
      refine own_step (S' := T66.setTop (mkF m 366 #[.val (.int p0), .val (.int p1), .val (.int p2), .val (.ref b1), .val (.ref b32), .val (.ref b48), .val (.int i), .val (.int (p2 &&& (3 : Int32))), .val (.int (((own_lo i) - (1 : Int32)) + (p1 &&& (3 : Int32)))), .val (.int (((own_lo i) - (1 : Int32)) + (p1 &&& (3 : Int32)))), .val (.int (0 : Int32))] [])) (fun t k => XS.icmpNo X66.here hx rfl (hb hby at_363) rfl (teq ((by simp [own_off, q64, q65]) : (own_off (own_lo i) (own_hi i) (((own_lo i) - (1 : Int32)) + (p1 &&& (3 : Int32)))) = (0 : Int32))).2 k) ?_
      refine own_step (S' := T66.setTop (mkF m 367 #[.val (.int p0), .val (.int p1), .val (.int p2), .val (.ref b1), .val (.ref b32), .val (.ref b48), .val (.int i), .val (.int (p2 &&& (3 : Int32))), .val (.int (((own_lo i) - (1 : Int32)) + (p1 &&& (3 : Int32)))), .val (.int (((own_lo i) - (1 : Int32)) + (p1 &&& (3 : Int32)))), .val (.int (0 : Int32))] [(.int (1 : Int32))])) (fun t k => XS.iconst X66.here hx rfl (hb hby at_366) k) ?_
      refine own_step (S' := T66.setTop (mkF m 371 #[.val (.int p0), .val (.int p1), .val (.int p2), .val (.ref b1), .val (.ref b32), .val (.ref b48), .val (.int i), .val (.int (p2 &&& (3 : Int32))), .val (.int (((own_lo i) - (1 : Int32)) + (p1 &&& (3 : Int32)))), .val (.int (((own_lo i) - (1 : Int32)) + (p1 &&& (3 : Int32)))), .val (.int (0 : Int32))] [(.int (1 : Int32))])) (fun t k => XS.goto X66.here hx rfl (pc0 := 367) (pc' := 371) rfl (hb hby at_367) (by decide) (by decide) k) ?_
      exact own_retI (t := .boolean) X66 hx hlk hret (Or.inr (Or.inl rfl)) rfl (hb hby at_371) (⟨rfl, N66⟩) (by decide) (by decide)
    ·
      refine own_step (S' := T63.setTop (mkF m 335 #[.val (.int p0), .val (.int p1), .val (.int p2), .val (.ref b1), .val (.ref b32), .val (.ref b48), .val (.int i), .val (.int (p2 &&& (3 : Int32))), .val (.int (((own_lo i) - (1 : Int32)) + (p1 &&& (3 : Int32)))), .val (.int (((own_lo i) - (1 : Int32)) + (p1 &&& (3 : Int32)))), .unset] [])) (fun t k => XS.icmpNo X63.here hx rfl (hb hby at_332) rfl (flt (q65 : ¬ ((((own_lo i) - (1 : Int32)) + (p1 &&& (3 : Int32))) < (own_lo i)))).2.2.1 k) ?_
      refine own_step (S' := T63.setTop (mkF m 337 #[.val (.int p0), .val (.int p1), .val (.int p2), .val (.ref b1), .val (.ref b32), .val (.ref b48), .val (.int i), .val (.int (p2 &&& (3 : Int32))), .val (.int (((own_lo i) - (1 : Int32)) + (p1 &&& (3 : Int32)))), .val (.int (((own_lo i) - (1 : Int32)) + (p1 &&& (3 : Int32)))), .unset] [(.int (((own_lo i) - (1 : Int32)) + (p1 &&& (3 : Int32))))])) (fun t k => XS.iload X63.here hx rfl (hb hby at_335) rfl k) ?_
      refine own_step (S' := T63.setTop (mkF m 339 #[.val (.int p0), .val (.int p1), .val (.int p2), .val (.ref b1), .val (.ref b32), .val (.ref b48), .val (.int i), .val (.int (p2 &&& (3 : Int32))), .val (.int (((own_lo i) - (1 : Int32)) + (p1 &&& (3 : Int32)))), .val (.int (((own_lo i) - (1 : Int32)) + (p1 &&& (3 : Int32)))), .unset] [(.ref b48), (.int (((own_lo i) - (1 : Int32)) + (p1 &&& (3 : Int32))))])) (fun t k => XS.aload X63.here hx rfl (hb hby at_337) rfl rfl k) ?_
      refine own_step (S' := T63.setTop (mkF m 341 #[.val (.int p0), .val (.int p1), .val (.int p2), .val (.ref b1), .val (.ref b32), .val (.ref b48), .val (.int i), .val (.int (p2 &&& (3 : Int32))), .val (.int (((own_lo i) - (1 : Int32)) + (p1 &&& (3 : Int32)))), .val (.int (((own_lo i) - (1 : Int32)) + (p1 &&& (3 : Int32)))), .unset] [(.int i), (.ref b48), (.int (((own_lo i) - (1 : Int32)) + (p1 &&& (3 : Int32))))])) (fun t k => XS.iload X63.here hx rfl (hb hby at_339) rfl k) ?_
      refine own_step (S' := T63.setTop (mkF m 342 #[.val (.int p0), .val (.int p1), .val (.int p2), .val (.ref b1), .val (.ref b32), .val (.ref b48), .val (.int i), .val (.int (p2 &&& (3 : Int32))), .val (.int (((own_lo i) - (1 : Int32)) + (p1 &&& (3 : Int32)))), .val (.int (((own_lo i) - (1 : Int32)) + (p1 &&& (3 : Int32)))), .unset] [(.int (own_hi i)), (.int (((own_lo i) - (1 : Int32)) + (p1 &&& (3 : Int32))))])) (fun t k => own_iaload X63 hx hZ e63 A63 (j := i) hnn hhi (g := (mkF m 341 #[.val (.int p0), .val (.int p1), .val (.int p2), .val (.ref b1), .val (.ref b32), .val (.ref b48), .val (.int i), .val (.int (p2 &&& (3 : Int32))), .val (.int (((own_lo i) - (1 : Int32)) + (p1 &&& (3 : Int32)))), .val (.int (((own_lo i) - (1 : Int32)) + (p1 &&& (3 : Int32)))), .unset] [(.int i), (.ref b48), (.int (((own_lo i) - (1 : Int32)) + (p1 &&& (3 : Int32))))])) rfl rfl (hb hby at_341) t k) ?_
      by_cases q67 : (own_hi i) < (((own_lo i) - (1 : Int32)) + (p1 &&& (3 : Int32)))
      ·
        refine own_step (S' := T63.setTop (mkF m 349 #[.val (.int p0), .val (.int p1), .val (.int p2), .val (.ref b1), .val (.ref b32), .val (.ref b48), .val (.int i), .val (.int (p2 &&& (3 : Int32))), .val (.int (((own_lo i) - (1 : Int32)) + (p1 &&& (3 : Int32)))), .val (.int (((own_lo i) - (1 : Int32)) + (p1 &&& (3 : Int32)))), .unset] [])) (fun t k => XS.icmpYes X63.here hx rfl (pc0 := 342) (pc' := 349) rfl (hb hby at_342) rfl (tlt (q67 : (own_hi i) < (((own_lo i) - (1 : Int32)) + (p1 &&& (3 : Int32))))).2.2.1 (by decide) (by decide) k) ?_
        refine own_step (S' := T63.setTop (mkF m 350 #[.val (.int p0), .val (.int p1), .val (.int p2), .val (.ref b1), .val (.ref b32), .val (.ref b48), .val (.int i), .val (.int (p2 &&& (3 : Int32))), .val (.int (((own_lo i) - (1 : Int32)) + (p1 &&& (3 : Int32)))), .val (.int (((own_lo i) - (1 : Int32)) + (p1 &&& (3 : Int32)))), .unset] [(.int (0 : Int32))])) (fun t k => XS.iconst X63.here hx rfl (hb hby at_349) k) ?_
        refine own_step (S' := T63.setTop (mkF m 352 #[.val (.int p0), .val (.int p1), .val (.int p2), .val (.ref b1), .val (.ref b32), .val (.ref b48), .val (.int i), .val (.int (p2 &&& (3 : Int32))), .val (.int (((own_lo i) - (1 : Int32)) + (p1 &&& (3 : Int32)))), .val (.int (((own_lo i) - (1 : Int32)) + (p1 &&& (3 : Int32)))), .val (.int (0 : Int32))] [])) (fun t k => XS.istore X63.here hx rfl (hb hby at_350) rfl (l' := #[.val (.int p0), .val (.int p1), .val (.int p2), .val (.ref b1), .val (.ref b32), .val (.ref b48), .val (.int i), .val (.int (p2 &&& (3 : Int32))), .val (.int (((own_lo i) - (1 : Int32)) + (p1 &&& (3 : Int32)))), .val (.int (((own_lo i) - (1 : Int32)) + (p1 &&& (3 : Int32)))), .val (.int (0 : Int32))]) rfl k) ?_
        refine own_step (S' := T63.setTop (mkF m 353 #[.val (.int p0), .val (.int p1), .val (.int p2), .val (.ref b1), .val (.ref b32), .val (.ref b48), .val (.int i), .val (.int (p2 &&& (3 : Int32))), .val (.int (((own_lo i) - (1 : Int32)) + (p1 &&& (3 : Int32)))), .val (.int (((own_lo i) - (1 : Int32)) + (p1 &&& (3 : Int32)))), .val (.int (0 : Int32))] [(.ref b1)])) (fun t k => XS.aloadN X63.here hx rfl (hb hby at_352) rfl rfl k) ?_
        refine own_step (S' := T63.setTop (mkF m 355 #[.val (.int p0), .val (.int p1), .val (.int p2), .val (.ref b1), .val (.ref b32), .val (.ref b48), .val (.int i), .val (.int (p2 &&& (3 : Int32))), .val (.int (((own_lo i) - (1 : Int32)) + (p1 &&& (3 : Int32)))), .val (.int (((own_lo i) - (1 : Int32)) + (p1 &&& (3 : Int32)))), .val (.int (0 : Int32))] [(.int i), (.ref b1)])) (fun t k => XS.iload X63.here hx rfl (hb hby at_353) rfl k) ?_
        refine own_step (S' := T63.setTop (mkF m 356 #[.val (.int p0), .val (.int p1), .val (.int p2), .val (.ref b1), .val (.ref b32), .val (.ref b48), .val (.int i), .val (.int (p2 &&& (3 : Int32))), .val (.int (((own_lo i) - (1 : Int32)) + (p1 &&& (3 : Int32)))), .val (.int (((own_lo i) - (1 : Int32)) + (p1 &&& (3 : Int32)))), .val (.int (0 : Int32))] [(.ref (own_pick i w))])) (fun t k => own_aaload X63 hx hZ e63 A63_b1 rfl (j := i) hnn hat (g := (mkF m 355 #[.val (.int p0), .val (.int p1), .val (.int p2), .val (.ref b1), .val (.ref b32), .val (.ref b48), .val (.int i), .val (.int (p2 &&& (3 : Int32))), .val (.int (((own_lo i) - (1 : Int32)) + (p1 &&& (3 : Int32)))), .val (.int (((own_lo i) - (1 : Int32)) + (p1 &&& (3 : Int32)))), .val (.int (0 : Int32))] [(.int i), (.ref b1)])) rfl rfl (hb hby at_355) t k) ?_
        refine own_step (S' := T63.setTop (mkF m 358 #[.val (.int p0), .val (.int p1), .val (.int p2), .val (.ref b1), .val (.ref b32), .val (.ref b48), .val (.int i), .val (.int (p2 &&& (3 : Int32))), .val (.int (((own_lo i) - (1 : Int32)) + (p1 &&& (3 : Int32)))), .val (.int (((own_lo i) - (1 : Int32)) + (p1 &&& (3 : Int32)))), .val (.int (0 : Int32))] [(.int (((own_lo i) - (1 : Int32)) + (p1 &&& (3 : Int32)))), (.ref (own_pick i w))])) (fun t k => XS.iload X63.here hx rfl (hb hby at_356) rfl k) ?_
        obtain ⟨_, T68, Lq68, X68, ⟨rfl, Nq68, e68⟩, st68⟩ := own_callV X63 hx hZ hown (hw _ (List.mem_of_getElem? (i := 36) rfl)) (hw _ (List.mem_of_getElem? (i := 37) rfl)) (hw _ (List.mem_of_getElem? (i := 39) rfl)) (hw _ (List.mem_of_getElem? (i := 38) rfl)) (hw _ (List.mem_of_getElem? (i := 40) rfl)) (hw _ (List.mem_of_getElem? (i := 3) rfl)) (by decide) (argsL := [(.int (((own_lo i) - (1 : Int32)) + (p1 &&& (3 : Int32))))]) (rest := []) (rm1 l Z a0 hw [] (own_pick i w) (own_lo i) (own_hi i) (((own_lo i) - (1 : Int32)) + (p1 &&& (3 : Int32))) h63 Ex63 Flo Fhi) (W := 0) (by decide) (by decide) e63 (Ea.ext Ex63) (g := (mkF m 358 #[.val (.int p0), .val (.int p1), .val (.int p2), .val (.ref b1), .val (.ref b32), .val (.ref b48), .val (.int i), .val (.int (p2 &&& (3 : Int32))), .val (.int (((own_lo i) - (1 : Int32)) + (p1 &&& (3 : Int32)))), .val (.int (((own_lo i) - (1 : Int32)) + (p1 &&& (3 : Int32)))), .val (.int (0 : Int32))] [(.int (((own_lo i) - (1 : Int32)) + (p1 &&& (3 : Int32)))), (.ref (own_pick i w))])) rfl (by rw [hml]; rfl) (lenOf own_pd0 rfl) rfl (by show 2 * 0 + _ ≤ _; exact Nat.le_of_eq rfl) (hb hby at_358) (by decide) (by decide)
        have N68 := Fr.app N63 Nq68
        refine own_step (S' := T68.setTop (mkF m 361 #[.val (.int p0), .val (.int p1), .val (.int p2), .val (.ref b1), .val (.ref b32), .val (.ref b48), .val (.int i), .val (.int (p2 &&& (3 : Int32))), .val (.int (((own_lo i) - (1 : Int32)) + (p1 &&& (3 : Int32)))), .val (.int (((own_lo i) - (1 : Int32)) + (p1 &&& (3 : Int32)))), .val (.int (0 : Int32))] [(.int (own_off (own_lo i) (own_hi i) (((own_lo i) - (1 : Int32)) + (p1 &&& (3 : Int32)))))])) (fun t k => st68 t k) ?_
        refine own_step (S' := T68.setTop (mkF m 363 #[.val (.int p0), .val (.int p1), .val (.int p2), .val (.ref b1), .val (.ref b32), .val (.ref b48), .val (.int i), .val (.int (p2 &&& (3 : Int32))), .val (.int (((own_lo i) - (1 : Int32)) + (p1 &&& (3 : Int32)))), .val (.int (((own_lo i) - (1 : Int32)) + (p1 &&& (3 : Int32)))), .val (.int (0 : Int32))] [(.int (0 : Int32)), (.int (own_off (own_lo i) (own_hi i) (((own_lo i) - (1 : Int32)) + (p1 &&& (3 : Int32)))))])) (fun t k => XS.iload X68.here hx rfl (hb hby at_361) rfl k) ?_
        refine own_step (S' := T68.setTop (mkF m 366 #[.val (.int p0), .val (.int p1), .val (.int p2), .val (.ref b1), .val (.ref b32), .val (.ref b48), .val (.int i), .val (.int (p2 &&& (3 : Int32))), .val (.int (((own_lo i) - (1 : Int32)) + (p1 &&& (3 : Int32)))), .val (.int (((own_lo i) - (1 : Int32)) + (p1 &&& (3 : Int32)))), .val (.int (0 : Int32))] [])) (fun t k => XS.icmpNo X68.here hx rfl (hb hby at_363) rfl (teq ((by simp [own_off, q64, q65, q67]) : (own_off (own_lo i) (own_hi i) (((own_lo i) - (1 : Int32)) + (p1 &&& (3 : Int32)))) = (0 : Int32))).2 k) ?_
        refine own_step (S' := T68.setTop (mkF m 367 #[.val (.int p0), .val (.int p1), .val (.int p2), .val (.ref b1), .val (.ref b32), .val (.ref b48), .val (.int i), .val (.int (p2 &&& (3 : Int32))), .val (.int (((own_lo i) - (1 : Int32)) + (p1 &&& (3 : Int32)))), .val (.int (((own_lo i) - (1 : Int32)) + (p1 &&& (3 : Int32)))), .val (.int (0 : Int32))] [(.int (1 : Int32))])) (fun t k => XS.iconst X68.here hx rfl (hb hby at_366) k) ?_
        refine own_step (S' := T68.setTop (mkF m 371 #[.val (.int p0), .val (.int p1), .val (.int p2), .val (.ref b1), .val (.ref b32), .val (.ref b48), .val (.int i), .val (.int (p2 &&& (3 : Int32))), .val (.int (((own_lo i) - (1 : Int32)) + (p1 &&& (3 : Int32)))), .val (.int (((own_lo i) - (1 : Int32)) + (p1 &&& (3 : Int32)))), .val (.int (0 : Int32))] [(.int (1 : Int32))])) (fun t k => XS.goto X68.here hx rfl (pc0 := 367) (pc' := 371) rfl (hb hby at_367) (by decide) (by decide) k) ?_
        exact own_retI (t := .boolean) X68 hx hlk hret (Or.inr (Or.inl rfl)) rfl (hb hby at_371) (⟨rfl, N68⟩) (by decide) (by decide)
      ·
        refine own_step (S' := T63.setTop (mkF m 345 #[.val (.int p0), .val (.int p1), .val (.int p2), .val (.ref b1), .val (.ref b32), .val (.ref b48), .val (.int i), .val (.int (p2 &&& (3 : Int32))), .val (.int (((own_lo i) - (1 : Int32)) + (p1 &&& (3 : Int32)))), .val (.int (((own_lo i) - (1 : Int32)) + (p1 &&& (3 : Int32)))), .unset] [])) (fun t k => XS.icmpNo X63.here hx rfl (hb hby at_342) rfl (flt (q67 : ¬ ((own_hi i) < (((own_lo i) - (1 : Int32)) + (p1 &&& (3 : Int32)))))).2.2.1 k) ?_
        refine own_step (S' := T63.setTop (mkF m 346 #[.val (.int p0), .val (.int p1), .val (.int p2), .val (.ref b1), .val (.ref b32), .val (.ref b48), .val (.int i), .val (.int (p2 &&& (3 : Int32))), .val (.int (((own_lo i) - (1 : Int32)) + (p1 &&& (3 : Int32)))), .val (.int (((own_lo i) - (1 : Int32)) + (p1 &&& (3 : Int32)))), .unset] [(.int (1 : Int32))])) (fun t k => XS.iconst X63.here hx rfl (hb hby at_345) k) ?_
        refine own_step (S' := T63.setTop (mkF m 350 #[.val (.int p0), .val (.int p1), .val (.int p2), .val (.ref b1), .val (.ref b32), .val (.ref b48), .val (.int i), .val (.int (p2 &&& (3 : Int32))), .val (.int (((own_lo i) - (1 : Int32)) + (p1 &&& (3 : Int32)))), .val (.int (((own_lo i) - (1 : Int32)) + (p1 &&& (3 : Int32)))), .unset] [(.int (1 : Int32))])) (fun t k => XS.goto X63.here hx rfl (pc0 := 346) (pc' := 350) rfl (hb hby at_346) (by decide) (by decide) k) ?_
        refine own_step (S' := T63.setTop (mkF m 352 #[.val (.int p0), .val (.int p1), .val (.int p2), .val (.ref b1), .val (.ref b32), .val (.ref b48), .val (.int i), .val (.int (p2 &&& (3 : Int32))), .val (.int (((own_lo i) - (1 : Int32)) + (p1 &&& (3 : Int32)))), .val (.int (((own_lo i) - (1 : Int32)) + (p1 &&& (3 : Int32)))), .val (.int (1 : Int32))] [])) (fun t k => XS.istore X63.here hx rfl (hb hby at_350) rfl (l' := #[.val (.int p0), .val (.int p1), .val (.int p2), .val (.ref b1), .val (.ref b32), .val (.ref b48), .val (.int i), .val (.int (p2 &&& (3 : Int32))), .val (.int (((own_lo i) - (1 : Int32)) + (p1 &&& (3 : Int32)))), .val (.int (((own_lo i) - (1 : Int32)) + (p1 &&& (3 : Int32)))), .val (.int (1 : Int32))]) rfl k) ?_
        refine own_step (S' := T63.setTop (mkF m 353 #[.val (.int p0), .val (.int p1), .val (.int p2), .val (.ref b1), .val (.ref b32), .val (.ref b48), .val (.int i), .val (.int (p2 &&& (3 : Int32))), .val (.int (((own_lo i) - (1 : Int32)) + (p1 &&& (3 : Int32)))), .val (.int (((own_lo i) - (1 : Int32)) + (p1 &&& (3 : Int32)))), .val (.int (1 : Int32))] [(.ref b1)])) (fun t k => XS.aloadN X63.here hx rfl (hb hby at_352) rfl rfl k) ?_
        refine own_step (S' := T63.setTop (mkF m 355 #[.val (.int p0), .val (.int p1), .val (.int p2), .val (.ref b1), .val (.ref b32), .val (.ref b48), .val (.int i), .val (.int (p2 &&& (3 : Int32))), .val (.int (((own_lo i) - (1 : Int32)) + (p1 &&& (3 : Int32)))), .val (.int (((own_lo i) - (1 : Int32)) + (p1 &&& (3 : Int32)))), .val (.int (1 : Int32))] [(.int i), (.ref b1)])) (fun t k => XS.iload X63.here hx rfl (hb hby at_353) rfl k) ?_
        refine own_step (S' := T63.setTop (mkF m 356 #[.val (.int p0), .val (.int p1), .val (.int p2), .val (.ref b1), .val (.ref b32), .val (.ref b48), .val (.int i), .val (.int (p2 &&& (3 : Int32))), .val (.int (((own_lo i) - (1 : Int32)) + (p1 &&& (3 : Int32)))), .val (.int (((own_lo i) - (1 : Int32)) + (p1 &&& (3 : Int32)))), .val (.int (1 : Int32))] [(.ref (own_pick i w))])) (fun t k => own_aaload X63 hx hZ e63 A63_b1 rfl (j := i) hnn hat (g := (mkF m 355 #[.val (.int p0), .val (.int p1), .val (.int p2), .val (.ref b1), .val (.ref b32), .val (.ref b48), .val (.int i), .val (.int (p2 &&& (3 : Int32))), .val (.int (((own_lo i) - (1 : Int32)) + (p1 &&& (3 : Int32)))), .val (.int (((own_lo i) - (1 : Int32)) + (p1 &&& (3 : Int32)))), .val (.int (1 : Int32))] [(.int i), (.ref b1)])) rfl rfl (hb hby at_355) t k) ?_
        refine own_step (S' := T63.setTop (mkF m 358 #[.val (.int p0), .val (.int p1), .val (.int p2), .val (.ref b1), .val (.ref b32), .val (.ref b48), .val (.int i), .val (.int (p2 &&& (3 : Int32))), .val (.int (((own_lo i) - (1 : Int32)) + (p1 &&& (3 : Int32)))), .val (.int (((own_lo i) - (1 : Int32)) + (p1 &&& (3 : Int32)))), .val (.int (1 : Int32))] [(.int (((own_lo i) - (1 : Int32)) + (p1 &&& (3 : Int32)))), (.ref (own_pick i w))])) (fun t k => XS.iload X63.here hx rfl (hb hby at_356) rfl k) ?_
        obtain ⟨_, T69, Lq69, X69, ⟨rfl, Nq69, e69⟩, st69⟩ := own_callV X63 hx hZ hown (hw _ (List.mem_of_getElem? (i := 36) rfl)) (hw _ (List.mem_of_getElem? (i := 37) rfl)) (hw _ (List.mem_of_getElem? (i := 39) rfl)) (hw _ (List.mem_of_getElem? (i := 38) rfl)) (hw _ (List.mem_of_getElem? (i := 40) rfl)) (hw _ (List.mem_of_getElem? (i := 3) rfl)) (by decide) (argsL := [(.int (((own_lo i) - (1 : Int32)) + (p1 &&& (3 : Int32))))]) (rest := []) (rm1 l Z a0 hw [] (own_pick i w) (own_lo i) (own_hi i) (((own_lo i) - (1 : Int32)) + (p1 &&& (3 : Int32))) h63 Ex63 Flo Fhi) (W := 0) (by decide) (by decide) e63 (Ea.ext Ex63) (g := (mkF m 358 #[.val (.int p0), .val (.int p1), .val (.int p2), .val (.ref b1), .val (.ref b32), .val (.ref b48), .val (.int i), .val (.int (p2 &&& (3 : Int32))), .val (.int (((own_lo i) - (1 : Int32)) + (p1 &&& (3 : Int32)))), .val (.int (((own_lo i) - (1 : Int32)) + (p1 &&& (3 : Int32)))), .val (.int (1 : Int32))] [(.int (((own_lo i) - (1 : Int32)) + (p1 &&& (3 : Int32)))), (.ref (own_pick i w))])) rfl (by rw [hml]; rfl) (lenOf own_pd0 rfl) rfl (by show 2 * 0 + _ ≤ _; exact Nat.le_of_eq rfl) (hb hby at_358) (by decide) (by decide)
        have N69 := Fr.app N63 Nq69
        refine own_step (S' := T69.setTop (mkF m 361 #[.val (.int p0), .val (.int p1), .val (.int p2), .val (.ref b1), .val (.ref b32), .val (.ref b48), .val (.int i), .val (.int (p2 &&& (3 : Int32))), .val (.int (((own_lo i) - (1 : Int32)) + (p1 &&& (3 : Int32)))), .val (.int (((own_lo i) - (1 : Int32)) + (p1 &&& (3 : Int32)))), .val (.int (1 : Int32))] [(.int (own_off (own_lo i) (own_hi i) (((own_lo i) - (1 : Int32)) + (p1 &&& (3 : Int32)))))])) (fun t k => st69 t k) ?_
        refine own_step (S' := T69.setTop (mkF m 363 #[.val (.int p0), .val (.int p1), .val (.int p2), .val (.ref b1), .val (.ref b32), .val (.ref b48), .val (.int i), .val (.int (p2 &&& (3 : Int32))), .val (.int (((own_lo i) - (1 : Int32)) + (p1 &&& (3 : Int32)))), .val (.int (((own_lo i) - (1 : Int32)) + (p1 &&& (3 : Int32)))), .val (.int (1 : Int32))] [(.int (1 : Int32)), (.int (own_off (own_lo i) (own_hi i) (((own_lo i) - (1 : Int32)) + (p1 &&& (3 : Int32)))))])) (fun t k => XS.iload X69.here hx rfl (hb hby at_361) rfl k) ?_
        refine own_step (S' := T69.setTop (mkF m 366 #[.val (.int p0), .val (.int p1), .val (.int p2), .val (.ref b1), .val (.ref b32), .val (.ref b48), .val (.int i), .val (.int (p2 &&& (3 : Int32))), .val (.int (((own_lo i) - (1 : Int32)) + (p1 &&& (3 : Int32)))), .val (.int (((own_lo i) - (1 : Int32)) + (p1 &&& (3 : Int32)))), .val (.int (1 : Int32))] [])) (fun t k => XS.icmpNo X69.here hx rfl (hb hby at_363) rfl (teq ((by simp [own_off, q64, q65, q67]) : (own_off (own_lo i) (own_hi i) (((own_lo i) - (1 : Int32)) + (p1 &&& (3 : Int32)))) = (1 : Int32))).2 k) ?_
        refine own_step (S' := T69.setTop (mkF m 367 #[.val (.int p0), .val (.int p1), .val (.int p2), .val (.ref b1), .val (.ref b32), .val (.ref b48), .val (.int i), .val (.int (p2 &&& (3 : Int32))), .val (.int (((own_lo i) - (1 : Int32)) + (p1 &&& (3 : Int32)))), .val (.int (((own_lo i) - (1 : Int32)) + (p1 &&& (3 : Int32)))), .val (.int (1 : Int32))] [(.int (1 : Int32))])) (fun t k => XS.iconst X69.here hx rfl (hb hby at_366) k) ?_
        refine own_step (S' := T69.setTop (mkF m 371 #[.val (.int p0), .val (.int p1), .val (.int p2), .val (.ref b1), .val (.ref b32), .val (.ref b48), .val (.int i), .val (.int (p2 &&& (3 : Int32))), .val (.int (((own_lo i) - (1 : Int32)) + (p1 &&& (3 : Int32)))), .val (.int (((own_lo i) - (1 : Int32)) + (p1 &&& (3 : Int32)))), .val (.int (1 : Int32))] [(.int (1 : Int32))])) (fun t k => XS.goto X69.here hx rfl (pc0 := 367) (pc' := 371) rfl (hb hby at_367) (by decide) (by decide) k) ?_
        exact own_retI (t := .boolean) X69 hx hlk hret (Or.inr (Or.inl rfl)) rfl (hb hby at_371) (⟨rfl, N69⟩) (by decide) (by decide)
  ·
    refine own_step (S' := T63.setTop (mkF m 294 #[.val (.int p0), .val (.int p1), .val (.int p2), .val (.ref b1), .val (.ref b32), .val (.ref b48), .val (.int i), .val (.int (p2 &&& (3 : Int32))), .unset, .unset, .unset] [])) (fun t k => XS.icmpYes X63.here hx rfl (pc0 := 275) (pc' := 294) rfl (hb hby at_275) rfl (feq (q64 : ¬ ((p2 &&& (3 : Int32)) = (1 : Int32)))).2 (by decide) (by decide) k) ?_
    refine own_step (S' := T63.setTop (mkF m 296 #[.val (.int p0), .val (.int p1), .val (.int p2), .val (.ref b1), .val (.ref b32), .val (.ref b48), .val (.int i), .val (.int (p2 &&& (3 : Int32))), .unset, .unset, .unset] [(.int (p2 &&& (3 : Int32)))])) (fun t k => XS.iload X63.here hx rfl (hb hby at_294) rfl k) ?_
    refine own_step (S' := T63.setTop (mkF m 297 #[.val (.int p0), .val (.int p1), .val (.int p2), .val (.ref b1), .val (.ref b32), .val (.ref b48), .val (.int i), .val (.int (p2 &&& (3 : Int32))), .unset, .unset, .unset] [(.int (2 : Int32)), (.int (p2 &&& (3 : Int32)))])) (fun t k => XS.iconst X63.here hx rfl (hb hby at_296) k) ?_
    by_cases q70 : (p2 &&& (3 : Int32)) = (2 : Int32)
    ·
      refine own_step (S' := T63.setTop (mkF m 300 #[.val (.int p0), .val (.int p1), .val (.int p2), .val (.ref b1), .val (.ref b32), .val (.ref b48), .val (.int i), .val (.int (p2 &&& (3 : Int32))), .unset, .unset, .unset] [])) (fun t k => XS.icmpNo X63.here hx rfl (hb hby at_297) rfl (teq (q70 : (p2 &&& (3 : Int32)) = (2 : Int32))).2 k) ?_
      refine own_step (S' := T63.setTop (mkF m 302 #[.val (.int p0), .val (.int p1), .val (.int p2), .val (.ref b1), .val (.ref b32), .val (.ref b48), .val (.int i), .val (.int (p2 &&& (3 : Int32))), .unset, .unset, .unset] [(.ref b48)])) (fun t k => XS.aload X63.here hx rfl (hb hby at_300) rfl rfl k) ?_
      refine own_step (S' := T63.setTop (mkF m 304 #[.val (.int p0), .val (.int p1), .val (.int p2), .val (.ref b1), .val (.ref b32), .val (.ref b48), .val (.int i), .val (.int (p2 &&& (3 : Int32))), .unset, .unset, .unset] [(.int i), (.ref b48)])) (fun t k => XS.iload X63.here hx rfl (hb hby at_302) rfl k) ?_
      refine own_step (S' := T63.setTop (mkF m 305 #[.val (.int p0), .val (.int p1), .val (.int p2), .val (.ref b1), .val (.ref b32), .val (.ref b48), .val (.int i), .val (.int (p2 &&& (3 : Int32))), .unset, .unset, .unset] [(.int (own_hi i))])) (fun t k => own_iaload X63 hx hZ e63 A63 (j := i) hnn hhi (g := (mkF m 304 #[.val (.int p0), .val (.int p1), .val (.int p2), .val (.ref b1), .val (.ref b32), .val (.ref b48), .val (.int i), .val (.int (p2 &&& (3 : Int32))), .unset, .unset, .unset] [(.int i), (.ref b48)])) rfl rfl (hb hby at_304) t k) ?_
      refine own_step (S' := T63.setTop (mkF m 306 #[.val (.int p0), .val (.int p1), .val (.int p2), .val (.ref b1), .val (.ref b32), .val (.ref b48), .val (.int i), .val (.int (p2 &&& (3 : Int32))), .unset, .unset, .unset] [(.int (2 : Int32)), (.int (own_hi i))])) (fun t k => XS.iconst X63.here hx rfl (hb hby at_305) k) ?_
      refine own_step (S' := T63.setTop (mkF m 307 #[.val (.int p0), .val (.int p1), .val (.int p2), .val (.ref b1), .val (.ref b32), .val (.ref b48), .val (.int i), .val (.int (p2 &&& (3 : Int32))), .unset, .unset, .unset] [(.int ((own_hi i) - (2 : Int32)))])) (fun t k => XS.isub X63.here hx rfl (hb hby at_306) rfl k) ?_
      refine own_step (S' := T63.setTop (mkF m 308 #[.val (.int p0), .val (.int p1), .val (.int p2), .val (.ref b1), .val (.ref b32), .val (.ref b48), .val (.int i), .val (.int (p2 &&& (3 : Int32))), .unset, .unset, .unset] [(.int p1), (.int ((own_hi i) - (2 : Int32)))])) (fun t k => XS.iloadN X63.here hx rfl (hb hby at_307) rfl k) ?_
      refine own_step (S' := T63.setTop (mkF m 309 #[.val (.int p0), .val (.int p1), .val (.int p2), .val (.ref b1), .val (.ref b32), .val (.ref b48), .val (.int i), .val (.int (p2 &&& (3 : Int32))), .unset, .unset, .unset] [(.int (3 : Int32)), (.int p1), (.int ((own_hi i) - (2 : Int32)))])) (fun t k => XS.iconst X63.here hx rfl (hb hby at_308) k) ?_
      refine own_step (S' := T63.setTop (mkF m 310 #[.val (.int p0), .val (.int p1), .val (.int p2), .val (.ref b1), .val (.ref b32), .val (.ref b48), .val (.int i), .val (.int (p2 &&& (3 : Int32))), .unset, .unset, .unset] [(.int (p1 &&& (3 : Int32))), (.int ((own_hi i) - (2 : Int32)))])) (fun t k => XS.iand X63.here hx rfl (hb hby at_309) rfl k) ?_
      refine own_step (S' := T63.setTop (mkF m 311 #[.val (.int p0), .val (.int p1), .val (.int p2), .val (.ref b1), .val (.ref b32), .val (.ref b48), .val (.int i), .val (.int (p2 &&& (3 : Int32))), .unset, .unset, .unset] [(.int (((own_hi i) - (2 : Int32)) + (p1 &&& (3 : Int32))))])) (fun t k => XS.iadd X63.here hx rfl (hb hby at_310) rfl k) ?_
      refine own_step (S' := T63.setTop (mkF m 313 #[.val (.int p0), .val (.int p1), .val (.int p2), .val (.ref b1), .val (.ref b32), .val (.ref b48), .val (.int i), .val (.int (p2 &&& (3 : Int32))), .val (.int (((own_hi i) - (2 : Int32)) + (p1 &&& (3 : Int32)))), .unset, .unset] [])) (fun t k => XS.istore X63.here hx rfl (hb hby at_311) rfl (l' := #[.val (.int p0), .val (.int p1), .val (.int p2), .val (.ref b1), .val (.ref b32), .val (.ref b48), .val (.int i), .val (.int (p2 &&& (3 : Int32))), .val (.int (((own_hi i) - (2 : Int32)) + (p1 &&& (3 : Int32)))), .unset, .unset]) rfl k) ?_
      refine own_step (S' := T63.setTop (mkF m 320 #[.val (.int p0), .val (.int p1), .val (.int p2), .val (.ref b1), .val (.ref b32), .val (.ref b48), .val (.int i), .val (.int (p2 &&& (3 : Int32))), .val (.int (((own_hi i) - (2 : Int32)) + (p1 &&& (3 : Int32)))), .unset, .unset] [])) (fun t k => XS.goto X63.here hx rfl (pc0 := 313) (pc' := 320) rfl (hb hby at_313) (by decide) (by decide) k) ?_
      have hsh : ((((own_hi i) - (2 : Int32)) + (p1 &&& (3 : Int32))).toInt16.toInt32) = (((own_hi i) - (2 : Int32)) + (p1 &&& (3 : Int32))) := by
        have h1 := c_isub (own_hi i) (2 : Int32)
        have h2 := c_iadd ((own_hi i) - (2 : Int32)) (p1 &&& (3 : Int32))
        have h3 := rng32 ((own_hi i) - (2 : Int32))
        have h4 := rng32 (((own_hi i) - (2 : Int32)) + (p1 &&& (3 : Int32)))
        have h5 : (2 : Int32).toInt = 2 := by decide
        exact own_short (by omega) (by omega)
      refine own_step (S' := T63.setTop (mkF m 322 #[.val (.int p0), .val (.int p1), .val (.int p2), .val (.ref b1), .val (.ref b32), .val (.ref b48), .val (.int i), .val (.int (p2 &&& (3 : Int32))), .val (.int (((own_hi i) - (2 : Int32)) + (p1 &&& (3 : Int32)))), .unset, .unset] [(.int (((own_hi i) - (2 : Int32)) + (p1 &&& (3 : Int32))))])) (fun t k => XS.iload X63.here hx rfl (hb hby at_320) rfl k) ?_
      refine own_step (S' := T63.setTop (mkF m 323 #[.val (.int p0), .val (.int p1), .val (.int p2), .val (.ref b1), .val (.ref b32), .val (.ref b48), .val (.int i), .val (.int (p2 &&& (3 : Int32))), .val (.int (((own_hi i) - (2 : Int32)) + (p1 &&& (3 : Int32)))), .unset, .unset] [(.int ((((own_hi i) - (2 : Int32)) + (p1 &&& (3 : Int32))).toInt16.toInt32))])) (fun t k => XT.i2s X63.here hx rfl (hb hby at_322) rfl k) ?_
      refine own_step (S' := T63.setTop (mkF m 325 #[.val (.int p0), .val (.int p1), .val (.int p2), .val (.ref b1), .val (.ref b32), .val (.ref b48), .val (.int i), .val (.int (p2 &&& (3 : Int32))), .val (.int (((own_hi i) - (2 : Int32)) + (p1 &&& (3 : Int32)))), .val (.int ((((own_hi i) - (2 : Int32)) + (p1 &&& (3 : Int32))).toInt16.toInt32)), .unset] [])) (fun t k => XS.istore X63.here hx rfl (hb hby at_323) rfl (l' := #[.val (.int p0), .val (.int p1), .val (.int p2), .val (.ref b1), .val (.ref b32), .val (.ref b48), .val (.int i), .val (.int (p2 &&& (3 : Int32))), .val (.int (((own_hi i) - (2 : Int32)) + (p1 &&& (3 : Int32)))), .val (.int ((((own_hi i) - (2 : Int32)) + (p1 &&& (3 : Int32))).toInt16.toInt32)), .unset]) rfl k) ?_
      rw [hsh]
      refine own_step (S' := T63.setTop (mkF m 327 #[.val (.int p0), .val (.int p1), .val (.int p2), .val (.ref b1), .val (.ref b32), .val (.ref b48), .val (.int i), .val (.int (p2 &&& (3 : Int32))), .val (.int (((own_hi i) - (2 : Int32)) + (p1 &&& (3 : Int32)))), .val (.int (((own_hi i) - (2 : Int32)) + (p1 &&& (3 : Int32)))), .unset] [(.ref b32)])) (fun t k => XS.aload X63.here hx rfl (hb hby at_325) rfl rfl k) ?_
      refine own_step (S' := T63.setTop (mkF m 329 #[.val (.int p0), .val (.int p1), .val (.int p2), .val (.ref b1), .val (.ref b32), .val (.ref b48), .val (.int i), .val (.int (p2 &&& (3 : Int32))), .val (.int (((own_hi i) - (2 : Int32)) + (p1 &&& (3 : Int32)))), .val (.int (((own_hi i) - (2 : Int32)) + (p1 &&& (3 : Int32)))), .unset] [(.int i), (.ref b32)])) (fun t k => XS.iload X63.here hx rfl (hb hby at_327) rfl k) ?_
      refine own_step (S' := T63.setTop (mkF m 330 #[.val (.int p0), .val (.int p1), .val (.int p2), .val (.ref b1), .val (.ref b32), .val (.ref b48), .val (.int i), .val (.int (p2 &&& (3 : Int32))), .val (.int (((own_hi i) - (2 : Int32)) + (p1 &&& (3 : Int32)))), .val (.int (((own_hi i) - (2 : Int32)) + (p1 &&& (3 : Int32)))), .unset] [(.int (own_lo i))])) (fun t k => own_iaload X63 hx hZ e63 A63_b32 (j := i) hnn hlo (g := (mkF m 329 #[.val (.int p0), .val (.int p1), .val (.int p2), .val (.ref b1), .val (.ref b32), .val (.ref b48), .val (.int i), .val (.int (p2 &&& (3 : Int32))), .val (.int (((own_hi i) - (2 : Int32)) + (p1 &&& (3 : Int32)))), .val (.int (((own_hi i) - (2 : Int32)) + (p1 &&& (3 : Int32)))), .unset] [(.int i), (.ref b32)])) rfl rfl (hb hby at_329) t k) ?_
      refine own_step (S' := T63.setTop (mkF m 332 #[.val (.int p0), .val (.int p1), .val (.int p2), .val (.ref b1), .val (.ref b32), .val (.ref b48), .val (.int i), .val (.int (p2 &&& (3 : Int32))), .val (.int (((own_hi i) - (2 : Int32)) + (p1 &&& (3 : Int32)))), .val (.int (((own_hi i) - (2 : Int32)) + (p1 &&& (3 : Int32)))), .unset] [(.int (((own_hi i) - (2 : Int32)) + (p1 &&& (3 : Int32)))), (.int (own_lo i))])) (fun t k => XS.iload X63.here hx rfl (hb hby at_330) rfl k) ?_
      by_cases q71 : (((own_hi i) - (2 : Int32)) + (p1 &&& (3 : Int32))) < (own_lo i)
      ·
        refine own_step (S' := T63.setTop (mkF m 349 #[.val (.int p0), .val (.int p1), .val (.int p2), .val (.ref b1), .val (.ref b32), .val (.ref b48), .val (.int i), .val (.int (p2 &&& (3 : Int32))), .val (.int (((own_hi i) - (2 : Int32)) + (p1 &&& (3 : Int32)))), .val (.int (((own_hi i) - (2 : Int32)) + (p1 &&& (3 : Int32)))), .unset] [])) (fun t k => XS.icmpYes X63.here hx rfl (pc0 := 332) (pc' := 349) rfl (hb hby at_332) rfl (tlt (q71 : (((own_hi i) - (2 : Int32)) + (p1 &&& (3 : Int32))) < (own_lo i))).2.2.1 (by decide) (by decide) k) ?_
        refine own_step (S' := T63.setTop (mkF m 350 #[.val (.int p0), .val (.int p1), .val (.int p2), .val (.ref b1), .val (.ref b32), .val (.ref b48), .val (.int i), .val (.int (p2 &&& (3 : Int32))), .val (.int (((own_hi i) - (2 : Int32)) + (p1 &&& (3 : Int32)))), .val (.int (((own_hi i) - (2 : Int32)) + (p1 &&& (3 : Int32)))), .unset] [(.int (0 : Int32))])) (fun t k => XS.iconst X63.here hx rfl (hb hby at_349) k) ?_
        refine own_step (S' := T63.setTop (mkF m 352 #[.val (.int p0), .val (.int p1), .val (.int p2), .val (.ref b1), .val (.ref b32), .val (.ref b48), .val (.int i), .val (.int (p2 &&& (3 : Int32))), .val (.int (((own_hi i) - (2 : Int32)) + (p1 &&& (3 : Int32)))), .val (.int (((own_hi i) - (2 : Int32)) + (p1 &&& (3 : Int32)))), .val (.int (0 : Int32))] [])) (fun t k => XS.istore X63.here hx rfl (hb hby at_350) rfl (l' := #[.val (.int p0), .val (.int p1), .val (.int p2), .val (.ref b1), .val (.ref b32), .val (.ref b48), .val (.int i), .val (.int (p2 &&& (3 : Int32))), .val (.int (((own_hi i) - (2 : Int32)) + (p1 &&& (3 : Int32)))), .val (.int (((own_hi i) - (2 : Int32)) + (p1 &&& (3 : Int32)))), .val (.int (0 : Int32))]) rfl k) ?_
        refine own_step (S' := T63.setTop (mkF m 353 #[.val (.int p0), .val (.int p1), .val (.int p2), .val (.ref b1), .val (.ref b32), .val (.ref b48), .val (.int i), .val (.int (p2 &&& (3 : Int32))), .val (.int (((own_hi i) - (2 : Int32)) + (p1 &&& (3 : Int32)))), .val (.int (((own_hi i) - (2 : Int32)) + (p1 &&& (3 : Int32)))), .val (.int (0 : Int32))] [(.ref b1)])) (fun t k => XS.aloadN X63.here hx rfl (hb hby at_352) rfl rfl k) ?_
        refine own_step (S' := T63.setTop (mkF m 355 #[.val (.int p0), .val (.int p1), .val (.int p2), .val (.ref b1), .val (.ref b32), .val (.ref b48), .val (.int i), .val (.int (p2 &&& (3 : Int32))), .val (.int (((own_hi i) - (2 : Int32)) + (p1 &&& (3 : Int32)))), .val (.int (((own_hi i) - (2 : Int32)) + (p1 &&& (3 : Int32)))), .val (.int (0 : Int32))] [(.int i), (.ref b1)])) (fun t k => XS.iload X63.here hx rfl (hb hby at_353) rfl k) ?_
        refine own_step (S' := T63.setTop (mkF m 356 #[.val (.int p0), .val (.int p1), .val (.int p2), .val (.ref b1), .val (.ref b32), .val (.ref b48), .val (.int i), .val (.int (p2 &&& (3 : Int32))), .val (.int (((own_hi i) - (2 : Int32)) + (p1 &&& (3 : Int32)))), .val (.int (((own_hi i) - (2 : Int32)) + (p1 &&& (3 : Int32)))), .val (.int (0 : Int32))] [(.ref (own_pick i w))])) (fun t k => own_aaload X63 hx hZ e63 A63_b1 rfl (j := i) hnn hat (g := (mkF m 355 #[.val (.int p0), .val (.int p1), .val (.int p2), .val (.ref b1), .val (.ref b32), .val (.ref b48), .val (.int i), .val (.int (p2 &&& (3 : Int32))), .val (.int (((own_hi i) - (2 : Int32)) + (p1 &&& (3 : Int32)))), .val (.int (((own_hi i) - (2 : Int32)) + (p1 &&& (3 : Int32)))), .val (.int (0 : Int32))] [(.int i), (.ref b1)])) rfl rfl (hb hby at_355) t k) ?_
        refine own_step (S' := T63.setTop (mkF m 358 #[.val (.int p0), .val (.int p1), .val (.int p2), .val (.ref b1), .val (.ref b32), .val (.ref b48), .val (.int i), .val (.int (p2 &&& (3 : Int32))), .val (.int (((own_hi i) - (2 : Int32)) + (p1 &&& (3 : Int32)))), .val (.int (((own_hi i) - (2 : Int32)) + (p1 &&& (3 : Int32)))), .val (.int (0 : Int32))] [(.int (((own_hi i) - (2 : Int32)) + (p1 &&& (3 : Int32)))), (.ref (own_pick i w))])) (fun t k => XS.iload X63.here hx rfl (hb hby at_356) rfl k) ?_
        obtain ⟨_, T72, Lq72, X72, ⟨rfl, Nq72, e72⟩, st72⟩ := own_callV X63 hx hZ hown (hw _ (List.mem_of_getElem? (i := 36) rfl)) (hw _ (List.mem_of_getElem? (i := 37) rfl)) (hw _ (List.mem_of_getElem? (i := 39) rfl)) (hw _ (List.mem_of_getElem? (i := 38) rfl)) (hw _ (List.mem_of_getElem? (i := 40) rfl)) (hw _ (List.mem_of_getElem? (i := 3) rfl)) (by decide) (argsL := [(.int (((own_hi i) - (2 : Int32)) + (p1 &&& (3 : Int32))))]) (rest := []) (rm1 l Z a0 hw [] (own_pick i w) (own_lo i) (own_hi i) (((own_hi i) - (2 : Int32)) + (p1 &&& (3 : Int32))) h63 Ex63 Flo Fhi) (W := 0) (by decide) (by decide) e63 (Ea.ext Ex63) (g := (mkF m 358 #[.val (.int p0), .val (.int p1), .val (.int p2), .val (.ref b1), .val (.ref b32), .val (.ref b48), .val (.int i), .val (.int (p2 &&& (3 : Int32))), .val (.int (((own_hi i) - (2 : Int32)) + (p1 &&& (3 : Int32)))), .val (.int (((own_hi i) - (2 : Int32)) + (p1 &&& (3 : Int32)))), .val (.int (0 : Int32))] [(.int (((own_hi i) - (2 : Int32)) + (p1 &&& (3 : Int32)))), (.ref (own_pick i w))])) rfl (by rw [hml]; rfl) (lenOf own_pd0 rfl) rfl (by show 2 * 0 + _ ≤ _; exact Nat.le_of_eq rfl) (hb hby at_358) (by decide) (by decide)
        have N72 := Fr.app N63 Nq72
        refine own_step (S' := T72.setTop (mkF m 361 #[.val (.int p0), .val (.int p1), .val (.int p2), .val (.ref b1), .val (.ref b32), .val (.ref b48), .val (.int i), .val (.int (p2 &&& (3 : Int32))), .val (.int (((own_hi i) - (2 : Int32)) + (p1 &&& (3 : Int32)))), .val (.int (((own_hi i) - (2 : Int32)) + (p1 &&& (3 : Int32)))), .val (.int (0 : Int32))] [(.int (own_off (own_lo i) (own_hi i) (((own_hi i) - (2 : Int32)) + (p1 &&& (3 : Int32)))))])) (fun t k => st72 t k) ?_
        refine own_step (S' := T72.setTop (mkF m 363 #[.val (.int p0), .val (.int p1), .val (.int p2), .val (.ref b1), .val (.ref b32), .val (.ref b48), .val (.int i), .val (.int (p2 &&& (3 : Int32))), .val (.int (((own_hi i) - (2 : Int32)) + (p1 &&& (3 : Int32)))), .val (.int (((own_hi i) - (2 : Int32)) + (p1 &&& (3 : Int32)))), .val (.int (0 : Int32))] [(.int (0 : Int32)), (.int (own_off (own_lo i) (own_hi i) (((own_hi i) - (2 : Int32)) + (p1 &&& (3 : Int32)))))])) (fun t k => XS.iload X72.here hx rfl (hb hby at_361) rfl k) ?_
        refine own_step (S' := T72.setTop (mkF m 366 #[.val (.int p0), .val (.int p1), .val (.int p2), .val (.ref b1), .val (.ref b32), .val (.ref b48), .val (.int i), .val (.int (p2 &&& (3 : Int32))), .val (.int (((own_hi i) - (2 : Int32)) + (p1 &&& (3 : Int32)))), .val (.int (((own_hi i) - (2 : Int32)) + (p1 &&& (3 : Int32)))), .val (.int (0 : Int32))] [])) (fun t k => XS.icmpNo X72.here hx rfl (hb hby at_363) rfl (teq ((by simp [own_off, q64, q70, q71]) : (own_off (own_lo i) (own_hi i) (((own_hi i) - (2 : Int32)) + (p1 &&& (3 : Int32)))) = (0 : Int32))).2 k) ?_
        refine own_step (S' := T72.setTop (mkF m 367 #[.val (.int p0), .val (.int p1), .val (.int p2), .val (.ref b1), .val (.ref b32), .val (.ref b48), .val (.int i), .val (.int (p2 &&& (3 : Int32))), .val (.int (((own_hi i) - (2 : Int32)) + (p1 &&& (3 : Int32)))), .val (.int (((own_hi i) - (2 : Int32)) + (p1 &&& (3 : Int32)))), .val (.int (0 : Int32))] [(.int (1 : Int32))])) (fun t k => XS.iconst X72.here hx rfl (hb hby at_366) k) ?_
        refine own_step (S' := T72.setTop (mkF m 371 #[.val (.int p0), .val (.int p1), .val (.int p2), .val (.ref b1), .val (.ref b32), .val (.ref b48), .val (.int i), .val (.int (p2 &&& (3 : Int32))), .val (.int (((own_hi i) - (2 : Int32)) + (p1 &&& (3 : Int32)))), .val (.int (((own_hi i) - (2 : Int32)) + (p1 &&& (3 : Int32)))), .val (.int (0 : Int32))] [(.int (1 : Int32))])) (fun t k => XS.goto X72.here hx rfl (pc0 := 367) (pc' := 371) rfl (hb hby at_367) (by decide) (by decide) k) ?_
        exact own_retI (t := .boolean) X72 hx hlk hret (Or.inr (Or.inl rfl)) rfl (hb hby at_371) (⟨rfl, N72⟩) (by decide) (by decide)
      ·
        refine own_step (S' := T63.setTop (mkF m 335 #[.val (.int p0), .val (.int p1), .val (.int p2), .val (.ref b1), .val (.ref b32), .val (.ref b48), .val (.int i), .val (.int (p2 &&& (3 : Int32))), .val (.int (((own_hi i) - (2 : Int32)) + (p1 &&& (3 : Int32)))), .val (.int (((own_hi i) - (2 : Int32)) + (p1 &&& (3 : Int32)))), .unset] [])) (fun t k => XS.icmpNo X63.here hx rfl (hb hby at_332) rfl (flt (q71 : ¬ ((((own_hi i) - (2 : Int32)) + (p1 &&& (3 : Int32))) < (own_lo i)))).2.2.1 k) ?_
        refine own_step (S' := T63.setTop (mkF m 337 #[.val (.int p0), .val (.int p1), .val (.int p2), .val (.ref b1), .val (.ref b32), .val (.ref b48), .val (.int i), .val (.int (p2 &&& (3 : Int32))), .val (.int (((own_hi i) - (2 : Int32)) + (p1 &&& (3 : Int32)))), .val (.int (((own_hi i) - (2 : Int32)) + (p1 &&& (3 : Int32)))), .unset] [(.int (((own_hi i) - (2 : Int32)) + (p1 &&& (3 : Int32))))])) (fun t k => XS.iload X63.here hx rfl (hb hby at_335) rfl k) ?_
        refine own_step (S' := T63.setTop (mkF m 339 #[.val (.int p0), .val (.int p1), .val (.int p2), .val (.ref b1), .val (.ref b32), .val (.ref b48), .val (.int i), .val (.int (p2 &&& (3 : Int32))), .val (.int (((own_hi i) - (2 : Int32)) + (p1 &&& (3 : Int32)))), .val (.int (((own_hi i) - (2 : Int32)) + (p1 &&& (3 : Int32)))), .unset] [(.ref b48), (.int (((own_hi i) - (2 : Int32)) + (p1 &&& (3 : Int32))))])) (fun t k => XS.aload X63.here hx rfl (hb hby at_337) rfl rfl k) ?_
        refine own_step (S' := T63.setTop (mkF m 341 #[.val (.int p0), .val (.int p1), .val (.int p2), .val (.ref b1), .val (.ref b32), .val (.ref b48), .val (.int i), .val (.int (p2 &&& (3 : Int32))), .val (.int (((own_hi i) - (2 : Int32)) + (p1 &&& (3 : Int32)))), .val (.int (((own_hi i) - (2 : Int32)) + (p1 &&& (3 : Int32)))), .unset] [(.int i), (.ref b48), (.int (((own_hi i) - (2 : Int32)) + (p1 &&& (3 : Int32))))])) (fun t k => XS.iload X63.here hx rfl (hb hby at_339) rfl k) ?_
        refine own_step (S' := T63.setTop (mkF m 342 #[.val (.int p0), .val (.int p1), .val (.int p2), .val (.ref b1), .val (.ref b32), .val (.ref b48), .val (.int i), .val (.int (p2 &&& (3 : Int32))), .val (.int (((own_hi i) - (2 : Int32)) + (p1 &&& (3 : Int32)))), .val (.int (((own_hi i) - (2 : Int32)) + (p1 &&& (3 : Int32)))), .unset] [(.int (own_hi i)), (.int (((own_hi i) - (2 : Int32)) + (p1 &&& (3 : Int32))))])) (fun t k => own_iaload X63 hx hZ e63 A63 (j := i) hnn hhi (g := (mkF m 341 #[.val (.int p0), .val (.int p1), .val (.int p2), .val (.ref b1), .val (.ref b32), .val (.ref b48), .val (.int i), .val (.int (p2 &&& (3 : Int32))), .val (.int (((own_hi i) - (2 : Int32)) + (p1 &&& (3 : Int32)))), .val (.int (((own_hi i) - (2 : Int32)) + (p1 &&& (3 : Int32)))), .unset] [(.int i), (.ref b48), (.int (((own_hi i) - (2 : Int32)) + (p1 &&& (3 : Int32))))])) rfl rfl (hb hby at_341) t k) ?_
        by_cases q73 : (own_hi i) < (((own_hi i) - (2 : Int32)) + (p1 &&& (3 : Int32)))
        ·
          refine own_step (S' := T63.setTop (mkF m 349 #[.val (.int p0), .val (.int p1), .val (.int p2), .val (.ref b1), .val (.ref b32), .val (.ref b48), .val (.int i), .val (.int (p2 &&& (3 : Int32))), .val (.int (((own_hi i) - (2 : Int32)) + (p1 &&& (3 : Int32)))), .val (.int (((own_hi i) - (2 : Int32)) + (p1 &&& (3 : Int32)))), .unset] [])) (fun t k => XS.icmpYes X63.here hx rfl (pc0 := 342) (pc' := 349) rfl (hb hby at_342) rfl (tlt (q73 : (own_hi i) < (((own_hi i) - (2 : Int32)) + (p1 &&& (3 : Int32))))).2.2.1 (by decide) (by decide) k) ?_
          refine own_step (S' := T63.setTop (mkF m 350 #[.val (.int p0), .val (.int p1), .val (.int p2), .val (.ref b1), .val (.ref b32), .val (.ref b48), .val (.int i), .val (.int (p2 &&& (3 : Int32))), .val (.int (((own_hi i) - (2 : Int32)) + (p1 &&& (3 : Int32)))), .val (.int (((own_hi i) - (2 : Int32)) + (p1 &&& (3 : Int32)))), .unset] [(.int (0 : Int32))])) (fun t k => XS.iconst X63.here hx rfl (hb hby at_349) k) ?_
          refine own_step (S' := T63.setTop (mkF m 352 #[.val (.int p0), .val (.int p1), .val (.int p2), .val (.ref b1), .val (.ref b32), .val (.ref b48), .val (.int i), .val (.int (p2 &&& (3 : Int32))), .val (.int (((own_hi i) - (2 : Int32)) + (p1 &&& (3 : Int32)))), .val (.int (((own_hi i) - (2 : Int32)) + (p1 &&& (3 : Int32)))), .val (.int (0 : Int32))] [])) (fun t k => XS.istore X63.here hx rfl (hb hby at_350) rfl (l' := #[.val (.int p0), .val (.int p1), .val (.int p2), .val (.ref b1), .val (.ref b32), .val (.ref b48), .val (.int i), .val (.int (p2 &&& (3 : Int32))), .val (.int (((own_hi i) - (2 : Int32)) + (p1 &&& (3 : Int32)))), .val (.int (((own_hi i) - (2 : Int32)) + (p1 &&& (3 : Int32)))), .val (.int (0 : Int32))]) rfl k) ?_
          refine own_step (S' := T63.setTop (mkF m 353 #[.val (.int p0), .val (.int p1), .val (.int p2), .val (.ref b1), .val (.ref b32), .val (.ref b48), .val (.int i), .val (.int (p2 &&& (3 : Int32))), .val (.int (((own_hi i) - (2 : Int32)) + (p1 &&& (3 : Int32)))), .val (.int (((own_hi i) - (2 : Int32)) + (p1 &&& (3 : Int32)))), .val (.int (0 : Int32))] [(.ref b1)])) (fun t k => XS.aloadN X63.here hx rfl (hb hby at_352) rfl rfl k) ?_
          refine own_step (S' := T63.setTop (mkF m 355 #[.val (.int p0), .val (.int p1), .val (.int p2), .val (.ref b1), .val (.ref b32), .val (.ref b48), .val (.int i), .val (.int (p2 &&& (3 : Int32))), .val (.int (((own_hi i) - (2 : Int32)) + (p1 &&& (3 : Int32)))), .val (.int (((own_hi i) - (2 : Int32)) + (p1 &&& (3 : Int32)))), .val (.int (0 : Int32))] [(.int i), (.ref b1)])) (fun t k => XS.iload X63.here hx rfl (hb hby at_353) rfl k) ?_
          refine own_step (S' := T63.setTop (mkF m 356 #[.val (.int p0), .val (.int p1), .val (.int p2), .val (.ref b1), .val (.ref b32), .val (.ref b48), .val (.int i), .val (.int (p2 &&& (3 : Int32))), .val (.int (((own_hi i) - (2 : Int32)) + (p1 &&& (3 : Int32)))), .val (.int (((own_hi i) - (2 : Int32)) + (p1 &&& (3 : Int32)))), .val (.int (0 : Int32))] [(.ref (own_pick i w))])) (fun t k => own_aaload X63 hx hZ e63 A63_b1 rfl (j := i) hnn hat (g := (mkF m 355 #[.val (.int p0), .val (.int p1), .val (.int p2), .val (.ref b1), .val (.ref b32), .val (.ref b48), .val (.int i), .val (.int (p2 &&& (3 : Int32))), .val (.int (((own_hi i) - (2 : Int32)) + (p1 &&& (3 : Int32)))), .val (.int (((own_hi i) - (2 : Int32)) + (p1 &&& (3 : Int32)))), .val (.int (0 : Int32))] [(.int i), (.ref b1)])) rfl rfl (hb hby at_355) t k) ?_
          refine own_step (S' := T63.setTop (mkF m 358 #[.val (.int p0), .val (.int p1), .val (.int p2), .val (.ref b1), .val (.ref b32), .val (.ref b48), .val (.int i), .val (.int (p2 &&& (3 : Int32))), .val (.int (((own_hi i) - (2 : Int32)) + (p1 &&& (3 : Int32)))), .val (.int (((own_hi i) - (2 : Int32)) + (p1 &&& (3 : Int32)))), .val (.int (0 : Int32))] [(.int (((own_hi i) - (2 : Int32)) + (p1 &&& (3 : Int32)))), (.ref (own_pick i w))])) (fun t k => XS.iload X63.here hx rfl (hb hby at_356) rfl k) ?_
          obtain ⟨_, T74, Lq74, X74, ⟨rfl, Nq74, e74⟩, st74⟩ := own_callV X63 hx hZ hown (hw _ (List.mem_of_getElem? (i := 36) rfl)) (hw _ (List.mem_of_getElem? (i := 37) rfl)) (hw _ (List.mem_of_getElem? (i := 39) rfl)) (hw _ (List.mem_of_getElem? (i := 38) rfl)) (hw _ (List.mem_of_getElem? (i := 40) rfl)) (hw _ (List.mem_of_getElem? (i := 3) rfl)) (by decide) (argsL := [(.int (((own_hi i) - (2 : Int32)) + (p1 &&& (3 : Int32))))]) (rest := []) (rm1 l Z a0 hw [] (own_pick i w) (own_lo i) (own_hi i) (((own_hi i) - (2 : Int32)) + (p1 &&& (3 : Int32))) h63 Ex63 Flo Fhi) (W := 0) (by decide) (by decide) e63 (Ea.ext Ex63) (g := (mkF m 358 #[.val (.int p0), .val (.int p1), .val (.int p2), .val (.ref b1), .val (.ref b32), .val (.ref b48), .val (.int i), .val (.int (p2 &&& (3 : Int32))), .val (.int (((own_hi i) - (2 : Int32)) + (p1 &&& (3 : Int32)))), .val (.int (((own_hi i) - (2 : Int32)) + (p1 &&& (3 : Int32)))), .val (.int (0 : Int32))] [(.int (((own_hi i) - (2 : Int32)) + (p1 &&& (3 : Int32)))), (.ref (own_pick i w))])) rfl (by rw [hml]; rfl) (lenOf own_pd0 rfl) rfl (by show 2 * 0 + _ ≤ _; exact Nat.le_of_eq rfl) (hb hby at_358) (by decide) (by decide)
          have N74 := Fr.app N63 Nq74
          refine own_step (S' := T74.setTop (mkF m 361 #[.val (.int p0), .val (.int p1), .val (.int p2), .val (.ref b1), .val (.ref b32), .val (.ref b48), .val (.int i), .val (.int (p2 &&& (3 : Int32))), .val (.int (((own_hi i) - (2 : Int32)) + (p1 &&& (3 : Int32)))), .val (.int (((own_hi i) - (2 : Int32)) + (p1 &&& (3 : Int32)))), .val (.int (0 : Int32))] [(.int (own_off (own_lo i) (own_hi i) (((own_hi i) - (2 : Int32)) + (p1 &&& (3 : Int32)))))])) (fun t k => st74 t k) ?_
          refine own_step (S' := T74.setTop (mkF m 363 #[.val (.int p0), .val (.int p1), .val (.int p2), .val (.ref b1), .val (.ref b32), .val (.ref b48), .val (.int i), .val (.int (p2 &&& (3 : Int32))), .val (.int (((own_hi i) - (2 : Int32)) + (p1 &&& (3 : Int32)))), .val (.int (((own_hi i) - (2 : Int32)) + (p1 &&& (3 : Int32)))), .val (.int (0 : Int32))] [(.int (0 : Int32)), (.int (own_off (own_lo i) (own_hi i) (((own_hi i) - (2 : Int32)) + (p1 &&& (3 : Int32)))))])) (fun t k => XS.iload X74.here hx rfl (hb hby at_361) rfl k) ?_
          refine own_step (S' := T74.setTop (mkF m 366 #[.val (.int p0), .val (.int p1), .val (.int p2), .val (.ref b1), .val (.ref b32), .val (.ref b48), .val (.int i), .val (.int (p2 &&& (3 : Int32))), .val (.int (((own_hi i) - (2 : Int32)) + (p1 &&& (3 : Int32)))), .val (.int (((own_hi i) - (2 : Int32)) + (p1 &&& (3 : Int32)))), .val (.int (0 : Int32))] [])) (fun t k => XS.icmpNo X74.here hx rfl (hb hby at_363) rfl (teq ((by simp [own_off, q64, q70, q71, q73]) : (own_off (own_lo i) (own_hi i) (((own_hi i) - (2 : Int32)) + (p1 &&& (3 : Int32)))) = (0 : Int32))).2 k) ?_
          refine own_step (S' := T74.setTop (mkF m 367 #[.val (.int p0), .val (.int p1), .val (.int p2), .val (.ref b1), .val (.ref b32), .val (.ref b48), .val (.int i), .val (.int (p2 &&& (3 : Int32))), .val (.int (((own_hi i) - (2 : Int32)) + (p1 &&& (3 : Int32)))), .val (.int (((own_hi i) - (2 : Int32)) + (p1 &&& (3 : Int32)))), .val (.int (0 : Int32))] [(.int (1 : Int32))])) (fun t k => XS.iconst X74.here hx rfl (hb hby at_366) k) ?_
          refine own_step (S' := T74.setTop (mkF m 371 #[.val (.int p0), .val (.int p1), .val (.int p2), .val (.ref b1), .val (.ref b32), .val (.ref b48), .val (.int i), .val (.int (p2 &&& (3 : Int32))), .val (.int (((own_hi i) - (2 : Int32)) + (p1 &&& (3 : Int32)))), .val (.int (((own_hi i) - (2 : Int32)) + (p1 &&& (3 : Int32)))), .val (.int (0 : Int32))] [(.int (1 : Int32))])) (fun t k => XS.goto X74.here hx rfl (pc0 := 367) (pc' := 371) rfl (hb hby at_367) (by decide) (by decide) k) ?_
          exact own_retI (t := .boolean) X74 hx hlk hret (Or.inr (Or.inl rfl)) rfl (hb hby at_371) (⟨rfl, N74⟩) (by decide) (by decide)
        ·
          refine own_step (S' := T63.setTop (mkF m 345 #[.val (.int p0), .val (.int p1), .val (.int p2), .val (.ref b1), .val (.ref b32), .val (.ref b48), .val (.int i), .val (.int (p2 &&& (3 : Int32))), .val (.int (((own_hi i) - (2 : Int32)) + (p1 &&& (3 : Int32)))), .val (.int (((own_hi i) - (2 : Int32)) + (p1 &&& (3 : Int32)))), .unset] [])) (fun t k => XS.icmpNo X63.here hx rfl (hb hby at_342) rfl (flt (q73 : ¬ ((own_hi i) < (((own_hi i) - (2 : Int32)) + (p1 &&& (3 : Int32)))))).2.2.1 k) ?_
          refine own_step (S' := T63.setTop (mkF m 346 #[.val (.int p0), .val (.int p1), .val (.int p2), .val (.ref b1), .val (.ref b32), .val (.ref b48), .val (.int i), .val (.int (p2 &&& (3 : Int32))), .val (.int (((own_hi i) - (2 : Int32)) + (p1 &&& (3 : Int32)))), .val (.int (((own_hi i) - (2 : Int32)) + (p1 &&& (3 : Int32)))), .unset] [(.int (1 : Int32))])) (fun t k => XS.iconst X63.here hx rfl (hb hby at_345) k) ?_
          refine own_step (S' := T63.setTop (mkF m 350 #[.val (.int p0), .val (.int p1), .val (.int p2), .val (.ref b1), .val (.ref b32), .val (.ref b48), .val (.int i), .val (.int (p2 &&& (3 : Int32))), .val (.int (((own_hi i) - (2 : Int32)) + (p1 &&& (3 : Int32)))), .val (.int (((own_hi i) - (2 : Int32)) + (p1 &&& (3 : Int32)))), .unset] [(.int (1 : Int32))])) (fun t k => XS.goto X63.here hx rfl (pc0 := 346) (pc' := 350) rfl (hb hby at_346) (by decide) (by decide) k) ?_
          refine own_step (S' := T63.setTop (mkF m 352 #[.val (.int p0), .val (.int p1), .val (.int p2), .val (.ref b1), .val (.ref b32), .val (.ref b48), .val (.int i), .val (.int (p2 &&& (3 : Int32))), .val (.int (((own_hi i) - (2 : Int32)) + (p1 &&& (3 : Int32)))), .val (.int (((own_hi i) - (2 : Int32)) + (p1 &&& (3 : Int32)))), .val (.int (1 : Int32))] [])) (fun t k => XS.istore X63.here hx rfl (hb hby at_350) rfl (l' := #[.val (.int p0), .val (.int p1), .val (.int p2), .val (.ref b1), .val (.ref b32), .val (.ref b48), .val (.int i), .val (.int (p2 &&& (3 : Int32))), .val (.int (((own_hi i) - (2 : Int32)) + (p1 &&& (3 : Int32)))), .val (.int (((own_hi i) - (2 : Int32)) + (p1 &&& (3 : Int32)))), .val (.int (1 : Int32))]) rfl k) ?_
          refine own_step (S' := T63.setTop (mkF m 353 #[.val (.int p0), .val (.int p1), .val (.int p2), .val (.ref b1), .val (.ref b32), .val (.ref b48), .val (.int i), .val (.int (p2 &&& (3 : Int32))), .val (.int (((own_hi i) - (2 : Int32)) + (p1 &&& (3 : Int32)))), .val (.int (((own_hi i) - (2 : Int32)) + (p1 &&& (3 : Int32)))), .val (.int (1 : Int32))] [(.ref b1)])) (fun t k => XS.aloadN X63.here hx rfl (hb hby at_352) rfl rfl k) ?_
          refine own_step (S' := T63.setTop (mkF m 355 #[.val (.int p0), .val (.int p1), .val (.int p2), .val (.ref b1), .val (.ref b32), .val (.ref b48), .val (.int i), .val (.int (p2 &&& (3 : Int32))), .val (.int (((own_hi i) - (2 : Int32)) + (p1 &&& (3 : Int32)))), .val (.int (((own_hi i) - (2 : Int32)) + (p1 &&& (3 : Int32)))), .val (.int (1 : Int32))] [(.int i), (.ref b1)])) (fun t k => XS.iload X63.here hx rfl (hb hby at_353) rfl k) ?_
          refine own_step (S' := T63.setTop (mkF m 356 #[.val (.int p0), .val (.int p1), .val (.int p2), .val (.ref b1), .val (.ref b32), .val (.ref b48), .val (.int i), .val (.int (p2 &&& (3 : Int32))), .val (.int (((own_hi i) - (2 : Int32)) + (p1 &&& (3 : Int32)))), .val (.int (((own_hi i) - (2 : Int32)) + (p1 &&& (3 : Int32)))), .val (.int (1 : Int32))] [(.ref (own_pick i w))])) (fun t k => own_aaload X63 hx hZ e63 A63_b1 rfl (j := i) hnn hat (g := (mkF m 355 #[.val (.int p0), .val (.int p1), .val (.int p2), .val (.ref b1), .val (.ref b32), .val (.ref b48), .val (.int i), .val (.int (p2 &&& (3 : Int32))), .val (.int (((own_hi i) - (2 : Int32)) + (p1 &&& (3 : Int32)))), .val (.int (((own_hi i) - (2 : Int32)) + (p1 &&& (3 : Int32)))), .val (.int (1 : Int32))] [(.int i), (.ref b1)])) rfl rfl (hb hby at_355) t k) ?_
          refine own_step (S' := T63.setTop (mkF m 358 #[.val (.int p0), .val (.int p1), .val (.int p2), .val (.ref b1), .val (.ref b32), .val (.ref b48), .val (.int i), .val (.int (p2 &&& (3 : Int32))), .val (.int (((own_hi i) - (2 : Int32)) + (p1 &&& (3 : Int32)))), .val (.int (((own_hi i) - (2 : Int32)) + (p1 &&& (3 : Int32)))), .val (.int (1 : Int32))] [(.int (((own_hi i) - (2 : Int32)) + (p1 &&& (3 : Int32)))), (.ref (own_pick i w))])) (fun t k => XS.iload X63.here hx rfl (hb hby at_356) rfl k) ?_
          obtain ⟨_, T75, Lq75, X75, ⟨rfl, Nq75, e75⟩, st75⟩ := own_callV X63 hx hZ hown (hw _ (List.mem_of_getElem? (i := 36) rfl)) (hw _ (List.mem_of_getElem? (i := 37) rfl)) (hw _ (List.mem_of_getElem? (i := 39) rfl)) (hw _ (List.mem_of_getElem? (i := 38) rfl)) (hw _ (List.mem_of_getElem? (i := 40) rfl)) (hw _ (List.mem_of_getElem? (i := 3) rfl)) (by decide) (argsL := [(.int (((own_hi i) - (2 : Int32)) + (p1 &&& (3 : Int32))))]) (rest := []) (rm1 l Z a0 hw [] (own_pick i w) (own_lo i) (own_hi i) (((own_hi i) - (2 : Int32)) + (p1 &&& (3 : Int32))) h63 Ex63 Flo Fhi) (W := 0) (by decide) (by decide) e63 (Ea.ext Ex63) (g := (mkF m 358 #[.val (.int p0), .val (.int p1), .val (.int p2), .val (.ref b1), .val (.ref b32), .val (.ref b48), .val (.int i), .val (.int (p2 &&& (3 : Int32))), .val (.int (((own_hi i) - (2 : Int32)) + (p1 &&& (3 : Int32)))), .val (.int (((own_hi i) - (2 : Int32)) + (p1 &&& (3 : Int32)))), .val (.int (1 : Int32))] [(.int (((own_hi i) - (2 : Int32)) + (p1 &&& (3 : Int32)))), (.ref (own_pick i w))])) rfl (by rw [hml]; rfl) (lenOf own_pd0 rfl) rfl (by show 2 * 0 + _ ≤ _; exact Nat.le_of_eq rfl) (hb hby at_358) (by decide) (by decide)
          have N75 := Fr.app N63 Nq75
          refine own_step (S' := T75.setTop (mkF m 361 #[.val (.int p0), .val (.int p1), .val (.int p2), .val (.ref b1), .val (.ref b32), .val (.ref b48), .val (.int i), .val (.int (p2 &&& (3 : Int32))), .val (.int (((own_hi i) - (2 : Int32)) + (p1 &&& (3 : Int32)))), .val (.int (((own_hi i) - (2 : Int32)) + (p1 &&& (3 : Int32)))), .val (.int (1 : Int32))] [(.int (own_off (own_lo i) (own_hi i) (((own_hi i) - (2 : Int32)) + (p1 &&& (3 : Int32)))))])) (fun t k => st75 t k) ?_
          refine own_step (S' := T75.setTop (mkF m 363 #[.val (.int p0), .val (.int p1), .val (.int p2), .val (.ref b1), .val (.ref b32), .val (.ref b48), .val (.int i), .val (.int (p2 &&& (3 : Int32))), .val (.int (((own_hi i) - (2 : Int32)) + (p1 &&& (3 : Int32)))), .val (.int (((own_hi i) - (2 : Int32)) + (p1 &&& (3 : Int32)))), .val (.int (1 : Int32))] [(.int (1 : Int32)), (.int (own_off (own_lo i) (own_hi i) (((own_hi i) - (2 : Int32)) + (p1 &&& (3 : Int32)))))])) (fun t k => XS.iload X75.here hx rfl (hb hby at_361) rfl k) ?_
          refine own_step (S' := T75.setTop (mkF m 366 #[.val (.int p0), .val (.int p1), .val (.int p2), .val (.ref b1), .val (.ref b32), .val (.ref b48), .val (.int i), .val (.int (p2 &&& (3 : Int32))), .val (.int (((own_hi i) - (2 : Int32)) + (p1 &&& (3 : Int32)))), .val (.int (((own_hi i) - (2 : Int32)) + (p1 &&& (3 : Int32)))), .val (.int (1 : Int32))] [])) (fun t k => XS.icmpNo X75.here hx rfl (hb hby at_363) rfl (teq ((by simp [own_off, q64, q70, q71, q73]) : (own_off (own_lo i) (own_hi i) (((own_hi i) - (2 : Int32)) + (p1 &&& (3 : Int32)))) = (1 : Int32))).2 k) ?_
          refine own_step (S' := T75.setTop (mkF m 367 #[.val (.int p0), .val (.int p1), .val (.int p2), .val (.ref b1), .val (.ref b32), .val (.ref b48), .val (.int i), .val (.int (p2 &&& (3 : Int32))), .val (.int (((own_hi i) - (2 : Int32)) + (p1 &&& (3 : Int32)))), .val (.int (((own_hi i) - (2 : Int32)) + (p1 &&& (3 : Int32)))), .val (.int (1 : Int32))] [(.int (1 : Int32))])) (fun t k => XS.iconst X75.here hx rfl (hb hby at_366) k) ?_
          refine own_step (S' := T75.setTop (mkF m 371 #[.val (.int p0), .val (.int p1), .val (.int p2), .val (.ref b1), .val (.ref b32), .val (.ref b48), .val (.int i), .val (.int (p2 &&& (3 : Int32))), .val (.int (((own_hi i) - (2 : Int32)) + (p1 &&& (3 : Int32)))), .val (.int (((own_hi i) - (2 : Int32)) + (p1 &&& (3 : Int32)))), .val (.int (1 : Int32))] [(.int (1 : Int32))])) (fun t k => XS.goto X75.here hx rfl (pc0 := 367) (pc' := 371) rfl (hb hby at_367) (by decide) (by decide) k) ?_
          exact own_retI (t := .boolean) X75 hx hlk hret (Or.inr (Or.inl rfl)) rfl (hb hby at_371) (⟨rfl, N75⟩) (by decide) (by decide)
    ·
      refine own_step (S' := T63.setTop (mkF m 316 #[.val (.int p0), .val (.int p1), .val (.int p2), .val (.ref b1), .val (.ref b32), .val (.ref b48), .val (.int i), .val (.int (p2 &&& (3 : Int32))), .unset, .unset, .unset] [])) (fun t k => XS.icmpYes X63.here hx rfl (pc0 := 297) (pc' := 316) rfl (hb hby at_297) rfl (feq (q70 : ¬ ((p2 &&& (3 : Int32)) = (2 : Int32)))).2 (by decide) (by decide) k) ?_
      refine own_step (S' := T63.setTop (mkF m 317 #[.val (.int p0), .val (.int p1), .val (.int p2), .val (.ref b1), .val (.ref b32), .val (.ref b48), .val (.int i), .val (.int (p2 &&& (3 : Int32))), .unset, .unset, .unset] [(.int p1)])) (fun t k => XS.iloadN X63.here hx rfl (hb hby at_316) rfl k) ?_
      refine own_step (S' := T63.setTop (mkF m 318 #[.val (.int p0), .val (.int p1), .val (.int p2), .val (.ref b1), .val (.ref b32), .val (.ref b48), .val (.int i), .val (.int (p2 &&& (3 : Int32))), .unset, .unset, .unset] [(.int (p1.toInt16.toInt32))])) (fun t k => XT.i2s X63.here hx rfl (hb hby at_317) rfl k) ?_
      refine own_step (S' := T63.setTop (mkF m 320 #[.val (.int p0), .val (.int p1), .val (.int p2), .val (.ref b1), .val (.ref b32), .val (.ref b48), .val (.int i), .val (.int (p2 &&& (3 : Int32))), .val (.int (p1.toInt16.toInt32)), .unset, .unset] [])) (fun t k => XS.istore X63.here hx rfl (hb hby at_318) rfl (l' := #[.val (.int p0), .val (.int p1), .val (.int p2), .val (.ref b1), .val (.ref b32), .val (.ref b48), .val (.int i), .val (.int (p2 &&& (3 : Int32))), .val (.int (p1.toInt16.toInt32)), .unset, .unset]) rfl k) ?_
      have hsh : ((p1.toInt16.toInt32).toInt16.toInt32) = (p1.toInt16.toInt32) := by
        have h := c_i2s p1
        exact own_short h.2.1 h.2.2
      refine own_step (S' := T63.setTop (mkF m 322 #[.val (.int p0), .val (.int p1), .val (.int p2), .val (.ref b1), .val (.ref b32), .val (.ref b48), .val (.int i), .val (.int (p2 &&& (3 : Int32))), .val (.int (p1.toInt16.toInt32)), .unset, .unset] [(.int (p1.toInt16.toInt32))])) (fun t k => XS.iload X63.here hx rfl (hb hby at_320) rfl k) ?_
      refine own_step (S' := T63.setTop (mkF m 323 #[.val (.int p0), .val (.int p1), .val (.int p2), .val (.ref b1), .val (.ref b32), .val (.ref b48), .val (.int i), .val (.int (p2 &&& (3 : Int32))), .val (.int (p1.toInt16.toInt32)), .unset, .unset] [(.int ((p1.toInt16.toInt32).toInt16.toInt32))])) (fun t k => XT.i2s X63.here hx rfl (hb hby at_322) rfl k) ?_
      refine own_step (S' := T63.setTop (mkF m 325 #[.val (.int p0), .val (.int p1), .val (.int p2), .val (.ref b1), .val (.ref b32), .val (.ref b48), .val (.int i), .val (.int (p2 &&& (3 : Int32))), .val (.int (p1.toInt16.toInt32)), .val (.int ((p1.toInt16.toInt32).toInt16.toInt32)), .unset] [])) (fun t k => XS.istore X63.here hx rfl (hb hby at_323) rfl (l' := #[.val (.int p0), .val (.int p1), .val (.int p2), .val (.ref b1), .val (.ref b32), .val (.ref b48), .val (.int i), .val (.int (p2 &&& (3 : Int32))), .val (.int (p1.toInt16.toInt32)), .val (.int ((p1.toInt16.toInt32).toInt16.toInt32)), .unset]) rfl k) ?_
      rw [hsh]
      refine own_step (S' := T63.setTop (mkF m 327 #[.val (.int p0), .val (.int p1), .val (.int p2), .val (.ref b1), .val (.ref b32), .val (.ref b48), .val (.int i), .val (.int (p2 &&& (3 : Int32))), .val (.int (p1.toInt16.toInt32)), .val (.int (p1.toInt16.toInt32)), .unset] [(.ref b32)])) (fun t k => XS.aload X63.here hx rfl (hb hby at_325) rfl rfl k) ?_
      refine own_step (S' := T63.setTop (mkF m 329 #[.val (.int p0), .val (.int p1), .val (.int p2), .val (.ref b1), .val (.ref b32), .val (.ref b48), .val (.int i), .val (.int (p2 &&& (3 : Int32))), .val (.int (p1.toInt16.toInt32)), .val (.int (p1.toInt16.toInt32)), .unset] [(.int i), (.ref b32)])) (fun t k => XS.iload X63.here hx rfl (hb hby at_327) rfl k) ?_
      refine own_step (S' := T63.setTop (mkF m 330 #[.val (.int p0), .val (.int p1), .val (.int p2), .val (.ref b1), .val (.ref b32), .val (.ref b48), .val (.int i), .val (.int (p2 &&& (3 : Int32))), .val (.int (p1.toInt16.toInt32)), .val (.int (p1.toInt16.toInt32)), .unset] [(.int (own_lo i))])) (fun t k => own_iaload X63 hx hZ e63 A63_b32 (j := i) hnn hlo (g := (mkF m 329 #[.val (.int p0), .val (.int p1), .val (.int p2), .val (.ref b1), .val (.ref b32), .val (.ref b48), .val (.int i), .val (.int (p2 &&& (3 : Int32))), .val (.int (p1.toInt16.toInt32)), .val (.int (p1.toInt16.toInt32)), .unset] [(.int i), (.ref b32)])) rfl rfl (hb hby at_329) t k) ?_
      refine own_step (S' := T63.setTop (mkF m 332 #[.val (.int p0), .val (.int p1), .val (.int p2), .val (.ref b1), .val (.ref b32), .val (.ref b48), .val (.int i), .val (.int (p2 &&& (3 : Int32))), .val (.int (p1.toInt16.toInt32)), .val (.int (p1.toInt16.toInt32)), .unset] [(.int (p1.toInt16.toInt32)), (.int (own_lo i))])) (fun t k => XS.iload X63.here hx rfl (hb hby at_330) rfl k) ?_
      by_cases q76 : (p1.toInt16.toInt32) < (own_lo i)
      ·
        refine own_step (S' := T63.setTop (mkF m 349 #[.val (.int p0), .val (.int p1), .val (.int p2), .val (.ref b1), .val (.ref b32), .val (.ref b48), .val (.int i), .val (.int (p2 &&& (3 : Int32))), .val (.int (p1.toInt16.toInt32)), .val (.int (p1.toInt16.toInt32)), .unset] [])) (fun t k => XS.icmpYes X63.here hx rfl (pc0 := 332) (pc' := 349) rfl (hb hby at_332) rfl (tlt (q76 : (p1.toInt16.toInt32) < (own_lo i))).2.2.1 (by decide) (by decide) k) ?_
        refine own_step (S' := T63.setTop (mkF m 350 #[.val (.int p0), .val (.int p1), .val (.int p2), .val (.ref b1), .val (.ref b32), .val (.ref b48), .val (.int i), .val (.int (p2 &&& (3 : Int32))), .val (.int (p1.toInt16.toInt32)), .val (.int (p1.toInt16.toInt32)), .unset] [(.int (0 : Int32))])) (fun t k => XS.iconst X63.here hx rfl (hb hby at_349) k) ?_
        refine own_step (S' := T63.setTop (mkF m 352 #[.val (.int p0), .val (.int p1), .val (.int p2), .val (.ref b1), .val (.ref b32), .val (.ref b48), .val (.int i), .val (.int (p2 &&& (3 : Int32))), .val (.int (p1.toInt16.toInt32)), .val (.int (p1.toInt16.toInt32)), .val (.int (0 : Int32))] [])) (fun t k => XS.istore X63.here hx rfl (hb hby at_350) rfl (l' := #[.val (.int p0), .val (.int p1), .val (.int p2), .val (.ref b1), .val (.ref b32), .val (.ref b48), .val (.int i), .val (.int (p2 &&& (3 : Int32))), .val (.int (p1.toInt16.toInt32)), .val (.int (p1.toInt16.toInt32)), .val (.int (0 : Int32))]) rfl k) ?_
        refine own_step (S' := T63.setTop (mkF m 353 #[.val (.int p0), .val (.int p1), .val (.int p2), .val (.ref b1), .val (.ref b32), .val (.ref b48), .val (.int i), .val (.int (p2 &&& (3 : Int32))), .val (.int (p1.toInt16.toInt32)), .val (.int (p1.toInt16.toInt32)), .val (.int (0 : Int32))] [(.ref b1)])) (fun t k => XS.aloadN X63.here hx rfl (hb hby at_352) rfl rfl k) ?_
        refine own_step (S' := T63.setTop (mkF m 355 #[.val (.int p0), .val (.int p1), .val (.int p2), .val (.ref b1), .val (.ref b32), .val (.ref b48), .val (.int i), .val (.int (p2 &&& (3 : Int32))), .val (.int (p1.toInt16.toInt32)), .val (.int (p1.toInt16.toInt32)), .val (.int (0 : Int32))] [(.int i), (.ref b1)])) (fun t k => XS.iload X63.here hx rfl (hb hby at_353) rfl k) ?_
        refine own_step (S' := T63.setTop (mkF m 356 #[.val (.int p0), .val (.int p1), .val (.int p2), .val (.ref b1), .val (.ref b32), .val (.ref b48), .val (.int i), .val (.int (p2 &&& (3 : Int32))), .val (.int (p1.toInt16.toInt32)), .val (.int (p1.toInt16.toInt32)), .val (.int (0 : Int32))] [(.ref (own_pick i w))])) (fun t k => own_aaload X63 hx hZ e63 A63_b1 rfl (j := i) hnn hat (g := (mkF m 355 #[.val (.int p0), .val (.int p1), .val (.int p2), .val (.ref b1), .val (.ref b32), .val (.ref b48), .val (.int i), .val (.int (p2 &&& (3 : Int32))), .val (.int (p1.toInt16.toInt32)), .val (.int (p1.toInt16.toInt32)), .val (.int (0 : Int32))] [(.int i), (.ref b1)])) rfl rfl (hb hby at_355) t k) ?_
        refine own_step (S' := T63.setTop (mkF m 358 #[.val (.int p0), .val (.int p1), .val (.int p2), .val (.ref b1), .val (.ref b32), .val (.ref b48), .val (.int i), .val (.int (p2 &&& (3 : Int32))), .val (.int (p1.toInt16.toInt32)), .val (.int (p1.toInt16.toInt32)), .val (.int (0 : Int32))] [(.int (p1.toInt16.toInt32)), (.ref (own_pick i w))])) (fun t k => XS.iload X63.here hx rfl (hb hby at_356) rfl k) ?_
        obtain ⟨_, T77, Lq77, X77, ⟨rfl, Nq77, e77⟩, st77⟩ := own_callV X63 hx hZ hown (hw _ (List.mem_of_getElem? (i := 36) rfl)) (hw _ (List.mem_of_getElem? (i := 37) rfl)) (hw _ (List.mem_of_getElem? (i := 39) rfl)) (hw _ (List.mem_of_getElem? (i := 38) rfl)) (hw _ (List.mem_of_getElem? (i := 40) rfl)) (hw _ (List.mem_of_getElem? (i := 3) rfl)) (by decide) (argsL := [(.int (p1.toInt16.toInt32))]) (rest := []) (rm1 l Z a0 hw [] (own_pick i w) (own_lo i) (own_hi i) (p1.toInt16.toInt32) h63 Ex63 Flo Fhi) (W := 0) (by decide) (by decide) e63 (Ea.ext Ex63) (g := (mkF m 358 #[.val (.int p0), .val (.int p1), .val (.int p2), .val (.ref b1), .val (.ref b32), .val (.ref b48), .val (.int i), .val (.int (p2 &&& (3 : Int32))), .val (.int (p1.toInt16.toInt32)), .val (.int (p1.toInt16.toInt32)), .val (.int (0 : Int32))] [(.int (p1.toInt16.toInt32)), (.ref (own_pick i w))])) rfl (by rw [hml]; rfl) (lenOf own_pd0 rfl) rfl (by show 2 * 0 + _ ≤ _; exact Nat.le_of_eq rfl) (hb hby at_358) (by decide) (by decide)
        have N77 := Fr.app N63 Nq77
        refine own_step (S' := T77.setTop (mkF m 361 #[.val (.int p0), .val (.int p1), .val (.int p2), .val (.ref b1), .val (.ref b32), .val (.ref b48), .val (.int i), .val (.int (p2 &&& (3 : Int32))), .val (.int (p1.toInt16.toInt32)), .val (.int (p1.toInt16.toInt32)), .val (.int (0 : Int32))] [(.int (own_off (own_lo i) (own_hi i) (p1.toInt16.toInt32)))])) (fun t k => st77 t k) ?_
        refine own_step (S' := T77.setTop (mkF m 363 #[.val (.int p0), .val (.int p1), .val (.int p2), .val (.ref b1), .val (.ref b32), .val (.ref b48), .val (.int i), .val (.int (p2 &&& (3 : Int32))), .val (.int (p1.toInt16.toInt32)), .val (.int (p1.toInt16.toInt32)), .val (.int (0 : Int32))] [(.int (0 : Int32)), (.int (own_off (own_lo i) (own_hi i) (p1.toInt16.toInt32)))])) (fun t k => XS.iload X77.here hx rfl (hb hby at_361) rfl k) ?_
        refine own_step (S' := T77.setTop (mkF m 366 #[.val (.int p0), .val (.int p1), .val (.int p2), .val (.ref b1), .val (.ref b32), .val (.ref b48), .val (.int i), .val (.int (p2 &&& (3 : Int32))), .val (.int (p1.toInt16.toInt32)), .val (.int (p1.toInt16.toInt32)), .val (.int (0 : Int32))] [])) (fun t k => XS.icmpNo X77.here hx rfl (hb hby at_363) rfl (teq ((by simp [own_off, q64, q70, q76]) : (own_off (own_lo i) (own_hi i) (p1.toInt16.toInt32)) = (0 : Int32))).2 k) ?_
        refine own_step (S' := T77.setTop (mkF m 367 #[.val (.int p0), .val (.int p1), .val (.int p2), .val (.ref b1), .val (.ref b32), .val (.ref b48), .val (.int i), .val (.int (p2 &&& (3 : Int32))), .val (.int (p1.toInt16.toInt32)), .val (.int (p1.toInt16.toInt32)), .val (.int (0 : Int32))] [(.int (1 : Int32))])) (fun t k => XS.iconst X77.here hx rfl (hb hby at_366) k) ?_
        refine own_step (S' := T77.setTop (mkF m 371 #[.val (.int p0), .val (.int p1), .val (.int p2), .val (.ref b1), .val (.ref b32), .val (.ref b48), .val (.int i), .val (.int (p2 &&& (3 : Int32))), .val (.int (p1.toInt16.toInt32)), .val (.int (p1.toInt16.toInt32)), .val (.int (0 : Int32))] [(.int (1 : Int32))])) (fun t k => XS.goto X77.here hx rfl (pc0 := 367) (pc' := 371) rfl (hb hby at_367) (by decide) (by decide) k) ?_
        exact own_retI (t := .boolean) X77 hx hlk hret (Or.inr (Or.inl rfl)) rfl (hb hby at_371) (⟨rfl, N77⟩) (by decide) (by decide)
      ·
        refine own_step (S' := T63.setTop (mkF m 335 #[.val (.int p0), .val (.int p1), .val (.int p2), .val (.ref b1), .val (.ref b32), .val (.ref b48), .val (.int i), .val (.int (p2 &&& (3 : Int32))), .val (.int (p1.toInt16.toInt32)), .val (.int (p1.toInt16.toInt32)), .unset] [])) (fun t k => XS.icmpNo X63.here hx rfl (hb hby at_332) rfl (flt (q76 : ¬ ((p1.toInt16.toInt32) < (own_lo i)))).2.2.1 k) ?_
        refine own_step (S' := T63.setTop (mkF m 337 #[.val (.int p0), .val (.int p1), .val (.int p2), .val (.ref b1), .val (.ref b32), .val (.ref b48), .val (.int i), .val (.int (p2 &&& (3 : Int32))), .val (.int (p1.toInt16.toInt32)), .val (.int (p1.toInt16.toInt32)), .unset] [(.int (p1.toInt16.toInt32))])) (fun t k => XS.iload X63.here hx rfl (hb hby at_335) rfl k) ?_
        refine own_step (S' := T63.setTop (mkF m 339 #[.val (.int p0), .val (.int p1), .val (.int p2), .val (.ref b1), .val (.ref b32), .val (.ref b48), .val (.int i), .val (.int (p2 &&& (3 : Int32))), .val (.int (p1.toInt16.toInt32)), .val (.int (p1.toInt16.toInt32)), .unset] [(.ref b48), (.int (p1.toInt16.toInt32))])) (fun t k => XS.aload X63.here hx rfl (hb hby at_337) rfl rfl k) ?_
        refine own_step (S' := T63.setTop (mkF m 341 #[.val (.int p0), .val (.int p1), .val (.int p2), .val (.ref b1), .val (.ref b32), .val (.ref b48), .val (.int i), .val (.int (p2 &&& (3 : Int32))), .val (.int (p1.toInt16.toInt32)), .val (.int (p1.toInt16.toInt32)), .unset] [(.int i), (.ref b48), (.int (p1.toInt16.toInt32))])) (fun t k => XS.iload X63.here hx rfl (hb hby at_339) rfl k) ?_
        refine own_step (S' := T63.setTop (mkF m 342 #[.val (.int p0), .val (.int p1), .val (.int p2), .val (.ref b1), .val (.ref b32), .val (.ref b48), .val (.int i), .val (.int (p2 &&& (3 : Int32))), .val (.int (p1.toInt16.toInt32)), .val (.int (p1.toInt16.toInt32)), .unset] [(.int (own_hi i)), (.int (p1.toInt16.toInt32))])) (fun t k => own_iaload X63 hx hZ e63 A63 (j := i) hnn hhi (g := (mkF m 341 #[.val (.int p0), .val (.int p1), .val (.int p2), .val (.ref b1), .val (.ref b32), .val (.ref b48), .val (.int i), .val (.int (p2 &&& (3 : Int32))), .val (.int (p1.toInt16.toInt32)), .val (.int (p1.toInt16.toInt32)), .unset] [(.int i), (.ref b48), (.int (p1.toInt16.toInt32))])) rfl rfl (hb hby at_341) t k) ?_
        by_cases q78 : (own_hi i) < (p1.toInt16.toInt32)
        ·
          refine own_step (S' := T63.setTop (mkF m 349 #[.val (.int p0), .val (.int p1), .val (.int p2), .val (.ref b1), .val (.ref b32), .val (.ref b48), .val (.int i), .val (.int (p2 &&& (3 : Int32))), .val (.int (p1.toInt16.toInt32)), .val (.int (p1.toInt16.toInt32)), .unset] [])) (fun t k => XS.icmpYes X63.here hx rfl (pc0 := 342) (pc' := 349) rfl (hb hby at_342) rfl (tlt (q78 : (own_hi i) < (p1.toInt16.toInt32))).2.2.1 (by decide) (by decide) k) ?_
          refine own_step (S' := T63.setTop (mkF m 350 #[.val (.int p0), .val (.int p1), .val (.int p2), .val (.ref b1), .val (.ref b32), .val (.ref b48), .val (.int i), .val (.int (p2 &&& (3 : Int32))), .val (.int (p1.toInt16.toInt32)), .val (.int (p1.toInt16.toInt32)), .unset] [(.int (0 : Int32))])) (fun t k => XS.iconst X63.here hx rfl (hb hby at_349) k) ?_
          refine own_step (S' := T63.setTop (mkF m 352 #[.val (.int p0), .val (.int p1), .val (.int p2), .val (.ref b1), .val (.ref b32), .val (.ref b48), .val (.int i), .val (.int (p2 &&& (3 : Int32))), .val (.int (p1.toInt16.toInt32)), .val (.int (p1.toInt16.toInt32)), .val (.int (0 : Int32))] [])) (fun t k => XS.istore X63.here hx rfl (hb hby at_350) rfl (l' := #[.val (.int p0), .val (.int p1), .val (.int p2), .val (.ref b1), .val (.ref b32), .val (.ref b48), .val (.int i), .val (.int (p2 &&& (3 : Int32))), .val (.int (p1.toInt16.toInt32)), .val (.int (p1.toInt16.toInt32)), .val (.int (0 : Int32))]) rfl k) ?_
          refine own_step (S' := T63.setTop (mkF m 353 #[.val (.int p0), .val (.int p1), .val (.int p2), .val (.ref b1), .val (.ref b32), .val (.ref b48), .val (.int i), .val (.int (p2 &&& (3 : Int32))), .val (.int (p1.toInt16.toInt32)), .val (.int (p1.toInt16.toInt32)), .val (.int (0 : Int32))] [(.ref b1)])) (fun t k => XS.aloadN X63.here hx rfl (hb hby at_352) rfl rfl k) ?_
          refine own_step (S' := T63.setTop (mkF m 355 #[.val (.int p0), .val (.int p1), .val (.int p2), .val (.ref b1), .val (.ref b32), .val (.ref b48), .val (.int i), .val (.int (p2 &&& (3 : Int32))), .val (.int (p1.toInt16.toInt32)), .val (.int (p1.toInt16.toInt32)), .val (.int (0 : Int32))] [(.int i), (.ref b1)])) (fun t k => XS.iload X63.here hx rfl (hb hby at_353) rfl k) ?_
          refine own_step (S' := T63.setTop (mkF m 356 #[.val (.int p0), .val (.int p1), .val (.int p2), .val (.ref b1), .val (.ref b32), .val (.ref b48), .val (.int i), .val (.int (p2 &&& (3 : Int32))), .val (.int (p1.toInt16.toInt32)), .val (.int (p1.toInt16.toInt32)), .val (.int (0 : Int32))] [(.ref (own_pick i w))])) (fun t k => own_aaload X63 hx hZ e63 A63_b1 rfl (j := i) hnn hat (g := (mkF m 355 #[.val (.int p0), .val (.int p1), .val (.int p2), .val (.ref b1), .val (.ref b32), .val (.ref b48), .val (.int i), .val (.int (p2 &&& (3 : Int32))), .val (.int (p1.toInt16.toInt32)), .val (.int (p1.toInt16.toInt32)), .val (.int (0 : Int32))] [(.int i), (.ref b1)])) rfl rfl (hb hby at_355) t k) ?_
          refine own_step (S' := T63.setTop (mkF m 358 #[.val (.int p0), .val (.int p1), .val (.int p2), .val (.ref b1), .val (.ref b32), .val (.ref b48), .val (.int i), .val (.int (p2 &&& (3 : Int32))), .val (.int (p1.toInt16.toInt32)), .val (.int (p1.toInt16.toInt32)), .val (.int (0 : Int32))] [(.int (p1.toInt16.toInt32)), (.ref (own_pick i w))])) (fun t k => XS.iload X63.here hx rfl (hb hby at_356) rfl k) ?_
          obtain ⟨_, T79, Lq79, X79, ⟨rfl, Nq79, e79⟩, st79⟩ := own_callV X63 hx hZ hown (hw _ (List.mem_of_getElem? (i := 36) rfl)) (hw _ (List.mem_of_getElem? (i := 37) rfl)) (hw _ (List.mem_of_getElem? (i := 39) rfl)) (hw _ (List.mem_of_getElem? (i := 38) rfl)) (hw _ (List.mem_of_getElem? (i := 40) rfl)) (hw _ (List.mem_of_getElem? (i := 3) rfl)) (by decide) (argsL := [(.int (p1.toInt16.toInt32))]) (rest := []) (rm1 l Z a0 hw [] (own_pick i w) (own_lo i) (own_hi i) (p1.toInt16.toInt32) h63 Ex63 Flo Fhi) (W := 0) (by decide) (by decide) e63 (Ea.ext Ex63) (g := (mkF m 358 #[.val (.int p0), .val (.int p1), .val (.int p2), .val (.ref b1), .val (.ref b32), .val (.ref b48), .val (.int i), .val (.int (p2 &&& (3 : Int32))), .val (.int (p1.toInt16.toInt32)), .val (.int (p1.toInt16.toInt32)), .val (.int (0 : Int32))] [(.int (p1.toInt16.toInt32)), (.ref (own_pick i w))])) rfl (by rw [hml]; rfl) (lenOf own_pd0 rfl) rfl (by show 2 * 0 + _ ≤ _; exact Nat.le_of_eq rfl) (hb hby at_358) (by decide) (by decide)
          have N79 := Fr.app N63 Nq79
          refine own_step (S' := T79.setTop (mkF m 361 #[.val (.int p0), .val (.int p1), .val (.int p2), .val (.ref b1), .val (.ref b32), .val (.ref b48), .val (.int i), .val (.int (p2 &&& (3 : Int32))), .val (.int (p1.toInt16.toInt32)), .val (.int (p1.toInt16.toInt32)), .val (.int (0 : Int32))] [(.int (own_off (own_lo i) (own_hi i) (p1.toInt16.toInt32)))])) (fun t k => st79 t k) ?_
          refine own_step (S' := T79.setTop (mkF m 363 #[.val (.int p0), .val (.int p1), .val (.int p2), .val (.ref b1), .val (.ref b32), .val (.ref b48), .val (.int i), .val (.int (p2 &&& (3 : Int32))), .val (.int (p1.toInt16.toInt32)), .val (.int (p1.toInt16.toInt32)), .val (.int (0 : Int32))] [(.int (0 : Int32)), (.int (own_off (own_lo i) (own_hi i) (p1.toInt16.toInt32)))])) (fun t k => XS.iload X79.here hx rfl (hb hby at_361) rfl k) ?_
          refine own_step (S' := T79.setTop (mkF m 366 #[.val (.int p0), .val (.int p1), .val (.int p2), .val (.ref b1), .val (.ref b32), .val (.ref b48), .val (.int i), .val (.int (p2 &&& (3 : Int32))), .val (.int (p1.toInt16.toInt32)), .val (.int (p1.toInt16.toInt32)), .val (.int (0 : Int32))] [])) (fun t k => XS.icmpNo X79.here hx rfl (hb hby at_363) rfl (teq ((by simp [own_off, q64, q70, q76, q78]) : (own_off (own_lo i) (own_hi i) (p1.toInt16.toInt32)) = (0 : Int32))).2 k) ?_
          refine own_step (S' := T79.setTop (mkF m 367 #[.val (.int p0), .val (.int p1), .val (.int p2), .val (.ref b1), .val (.ref b32), .val (.ref b48), .val (.int i), .val (.int (p2 &&& (3 : Int32))), .val (.int (p1.toInt16.toInt32)), .val (.int (p1.toInt16.toInt32)), .val (.int (0 : Int32))] [(.int (1 : Int32))])) (fun t k => XS.iconst X79.here hx rfl (hb hby at_366) k) ?_
          refine own_step (S' := T79.setTop (mkF m 371 #[.val (.int p0), .val (.int p1), .val (.int p2), .val (.ref b1), .val (.ref b32), .val (.ref b48), .val (.int i), .val (.int (p2 &&& (3 : Int32))), .val (.int (p1.toInt16.toInt32)), .val (.int (p1.toInt16.toInt32)), .val (.int (0 : Int32))] [(.int (1 : Int32))])) (fun t k => XS.goto X79.here hx rfl (pc0 := 367) (pc' := 371) rfl (hb hby at_367) (by decide) (by decide) k) ?_
          exact own_retI (t := .boolean) X79 hx hlk hret (Or.inr (Or.inl rfl)) rfl (hb hby at_371) (⟨rfl, N79⟩) (by decide) (by decide)
        ·
          refine own_step (S' := T63.setTop (mkF m 345 #[.val (.int p0), .val (.int p1), .val (.int p2), .val (.ref b1), .val (.ref b32), .val (.ref b48), .val (.int i), .val (.int (p2 &&& (3 : Int32))), .val (.int (p1.toInt16.toInt32)), .val (.int (p1.toInt16.toInt32)), .unset] [])) (fun t k => XS.icmpNo X63.here hx rfl (hb hby at_342) rfl (flt (q78 : ¬ ((own_hi i) < (p1.toInt16.toInt32)))).2.2.1 k) ?_
          refine own_step (S' := T63.setTop (mkF m 346 #[.val (.int p0), .val (.int p1), .val (.int p2), .val (.ref b1), .val (.ref b32), .val (.ref b48), .val (.int i), .val (.int (p2 &&& (3 : Int32))), .val (.int (p1.toInt16.toInt32)), .val (.int (p1.toInt16.toInt32)), .unset] [(.int (1 : Int32))])) (fun t k => XS.iconst X63.here hx rfl (hb hby at_345) k) ?_
          refine own_step (S' := T63.setTop (mkF m 350 #[.val (.int p0), .val (.int p1), .val (.int p2), .val (.ref b1), .val (.ref b32), .val (.ref b48), .val (.int i), .val (.int (p2 &&& (3 : Int32))), .val (.int (p1.toInt16.toInt32)), .val (.int (p1.toInt16.toInt32)), .unset] [(.int (1 : Int32))])) (fun t k => XS.goto X63.here hx rfl (pc0 := 346) (pc' := 350) rfl (hb hby at_346) (by decide) (by decide) k) ?_
          refine own_step (S' := T63.setTop (mkF m 352 #[.val (.int p0), .val (.int p1), .val (.int p2), .val (.ref b1), .val (.ref b32), .val (.ref b48), .val (.int i), .val (.int (p2 &&& (3 : Int32))), .val (.int (p1.toInt16.toInt32)), .val (.int (p1.toInt16.toInt32)), .val (.int (1 : Int32))] [])) (fun t k => XS.istore X63.here hx rfl (hb hby at_350) rfl (l' := #[.val (.int p0), .val (.int p1), .val (.int p2), .val (.ref b1), .val (.ref b32), .val (.ref b48), .val (.int i), .val (.int (p2 &&& (3 : Int32))), .val (.int (p1.toInt16.toInt32)), .val (.int (p1.toInt16.toInt32)), .val (.int (1 : Int32))]) rfl k) ?_
          refine own_step (S' := T63.setTop (mkF m 353 #[.val (.int p0), .val (.int p1), .val (.int p2), .val (.ref b1), .val (.ref b32), .val (.ref b48), .val (.int i), .val (.int (p2 &&& (3 : Int32))), .val (.int (p1.toInt16.toInt32)), .val (.int (p1.toInt16.toInt32)), .val (.int (1 : Int32))] [(.ref b1)])) (fun t k => XS.aloadN X63.here hx rfl (hb hby at_352) rfl rfl k) ?_
          refine own_step (S' := T63.setTop (mkF m 355 #[.val (.int p0), .val (.int p1), .val (.int p2), .val (.ref b1), .val (.ref b32), .val (.ref b48), .val (.int i), .val (.int (p2 &&& (3 : Int32))), .val (.int (p1.toInt16.toInt32)), .val (.int (p1.toInt16.toInt32)), .val (.int (1 : Int32))] [(.int i), (.ref b1)])) (fun t k => XS.iload X63.here hx rfl (hb hby at_353) rfl k) ?_
          refine own_step (S' := T63.setTop (mkF m 356 #[.val (.int p0), .val (.int p1), .val (.int p2), .val (.ref b1), .val (.ref b32), .val (.ref b48), .val (.int i), .val (.int (p2 &&& (3 : Int32))), .val (.int (p1.toInt16.toInt32)), .val (.int (p1.toInt16.toInt32)), .val (.int (1 : Int32))] [(.ref (own_pick i w))])) (fun t k => own_aaload X63 hx hZ e63 A63_b1 rfl (j := i) hnn hat (g := (mkF m 355 #[.val (.int p0), .val (.int p1), .val (.int p2), .val (.ref b1), .val (.ref b32), .val (.ref b48), .val (.int i), .val (.int (p2 &&& (3 : Int32))), .val (.int (p1.toInt16.toInt32)), .val (.int (p1.toInt16.toInt32)), .val (.int (1 : Int32))] [(.int i), (.ref b1)])) rfl rfl (hb hby at_355) t k) ?_
          refine own_step (S' := T63.setTop (mkF m 358 #[.val (.int p0), .val (.int p1), .val (.int p2), .val (.ref b1), .val (.ref b32), .val (.ref b48), .val (.int i), .val (.int (p2 &&& (3 : Int32))), .val (.int (p1.toInt16.toInt32)), .val (.int (p1.toInt16.toInt32)), .val (.int (1 : Int32))] [(.int (p1.toInt16.toInt32)), (.ref (own_pick i w))])) (fun t k => XS.iload X63.here hx rfl (hb hby at_356) rfl k) ?_
          obtain ⟨_, T80, Lq80, X80, ⟨rfl, Nq80, e80⟩, st80⟩ := own_callV X63 hx hZ hown (hw _ (List.mem_of_getElem? (i := 36) rfl)) (hw _ (List.mem_of_getElem? (i := 37) rfl)) (hw _ (List.mem_of_getElem? (i := 39) rfl)) (hw _ (List.mem_of_getElem? (i := 38) rfl)) (hw _ (List.mem_of_getElem? (i := 40) rfl)) (hw _ (List.mem_of_getElem? (i := 3) rfl)) (by decide) (argsL := [(.int (p1.toInt16.toInt32))]) (rest := []) (rm1 l Z a0 hw [] (own_pick i w) (own_lo i) (own_hi i) (p1.toInt16.toInt32) h63 Ex63 Flo Fhi) (W := 0) (by decide) (by decide) e63 (Ea.ext Ex63) (g := (mkF m 358 #[.val (.int p0), .val (.int p1), .val (.int p2), .val (.ref b1), .val (.ref b32), .val (.ref b48), .val (.int i), .val (.int (p2 &&& (3 : Int32))), .val (.int (p1.toInt16.toInt32)), .val (.int (p1.toInt16.toInt32)), .val (.int (1 : Int32))] [(.int (p1.toInt16.toInt32)), (.ref (own_pick i w))])) rfl (by rw [hml]; rfl) (lenOf own_pd0 rfl) rfl (by show 2 * 0 + _ ≤ _; exact Nat.le_of_eq rfl) (hb hby at_358) (by decide) (by decide)
          have N80 := Fr.app N63 Nq80
          refine own_step (S' := T80.setTop (mkF m 361 #[.val (.int p0), .val (.int p1), .val (.int p2), .val (.ref b1), .val (.ref b32), .val (.ref b48), .val (.int i), .val (.int (p2 &&& (3 : Int32))), .val (.int (p1.toInt16.toInt32)), .val (.int (p1.toInt16.toInt32)), .val (.int (1 : Int32))] [(.int (own_off (own_lo i) (own_hi i) (p1.toInt16.toInt32)))])) (fun t k => st80 t k) ?_
          refine own_step (S' := T80.setTop (mkF m 363 #[.val (.int p0), .val (.int p1), .val (.int p2), .val (.ref b1), .val (.ref b32), .val (.ref b48), .val (.int i), .val (.int (p2 &&& (3 : Int32))), .val (.int (p1.toInt16.toInt32)), .val (.int (p1.toInt16.toInt32)), .val (.int (1 : Int32))] [(.int (1 : Int32)), (.int (own_off (own_lo i) (own_hi i) (p1.toInt16.toInt32)))])) (fun t k => XS.iload X80.here hx rfl (hb hby at_361) rfl k) ?_
          refine own_step (S' := T80.setTop (mkF m 366 #[.val (.int p0), .val (.int p1), .val (.int p2), .val (.ref b1), .val (.ref b32), .val (.ref b48), .val (.int i), .val (.int (p2 &&& (3 : Int32))), .val (.int (p1.toInt16.toInt32)), .val (.int (p1.toInt16.toInt32)), .val (.int (1 : Int32))] [])) (fun t k => XS.icmpNo X80.here hx rfl (hb hby at_363) rfl (teq ((by simp [own_off, q64, q70, q76, q78]) : (own_off (own_lo i) (own_hi i) (p1.toInt16.toInt32)) = (1 : Int32))).2 k) ?_
          refine own_step (S' := T80.setTop (mkF m 367 #[.val (.int p0), .val (.int p1), .val (.int p2), .val (.ref b1), .val (.ref b32), .val (.ref b48), .val (.int i), .val (.int (p2 &&& (3 : Int32))), .val (.int (p1.toInt16.toInt32)), .val (.int (p1.toInt16.toInt32)), .val (.int (1 : Int32))] [(.int (1 : Int32))])) (fun t k => XS.iconst X80.here hx rfl (hb hby at_366) k) ?_
          refine own_step (S' := T80.setTop (mkF m 371 #[.val (.int p0), .val (.int p1), .val (.int p2), .val (.ref b1), .val (.ref b32), .val (.ref b48), .val (.int i), .val (.int (p2 &&& (3 : Int32))), .val (.int (p1.toInt16.toInt32)), .val (.int (p1.toInt16.toInt32)), .val (.int (1 : Int32))] [(.int (1 : Int32))])) (fun t k => XS.goto X80.here hx rfl (pc0 := 367) (pc' := 371) rfl (hb hby at_367) (by decide) (by decide) k) ?_
          exact own_retI (t := .boolean) X80 hx hlk hret (Or.inr (Or.inl rfl)) rfl (hb hby at_371) (⟨rfl, N80⟩) (by decide) (by decide)
set_option maxRecDepth 65536 in
set_option maxHeartbeats 4000000 in
theorem comes_1 {Post : Tables → Env → Array Value → State → Outcome → State → Prop} (hpost : ∀ tb e args s v u, (limb_1_1.after args s (.returned v) u = true ∧ limb_1_2.after args s (.returned v) u = true ∧ True) → FrameEnd s (.returned v) u (Jvm.fieldLocs frame_1_writes args s ++ Jvm.arrayLocs frame_1_arrays args s ++ Jvm.staticLocs frame_1_statics s) 16 192 → Post tb e args s (.returned v) u) :
    ArmFor flags0 classFile x code maxLocals ret World_1 tables_1 room_1 Calls_1 rest_1 Pre_1 Post := by
  intro l hfl _ _ p e ha hc hk s m args below hf hA hF happ hP
  obtain ⟨hcalls, hrest, hpre⟩ := hP
  obtain ⟨-, -, -, hnamed, -, -, -, hat⟩ := (Spec.applies_iff hf).mp happ
  obtain ⟨hg, hn⟩ := and_e (Cond.before_iff.mp (show (Jvm.Cond.and given_1 narrow_1).before args s = true from hpre))
  obtain ⟨g0, hg⟩ := and_e hg
  obtain ⟨g1, hg⟩ := and_e hg
  obtain ⟨g2, hg⟩ := and_e hg
  have g3 := hg
  obtain ⟨w0, w1, w2, rfl⟩ : ∃ w0 w1 w2 : Value, args = #[w0, w1, w2] := by
    have hs : args.size = 3 := by simpa [Cond.value, given_1] using g0
    obtain ⟨Lx⟩ := args
    match Lx, hs with
    | [w0, w1, w2], _ => exact ⟨w0, w1, w2, rfl⟩
  have hw := fun d (hd : d ∈ tables_1) => atoms_spec (ws := Jvm.Cond.code x code maxLocals ret :: tables_1) hat d (List.mem_cons_of_mem _ hd)
  obtain ⟨i0, ei0⟩ := is_v g1
  obtain rfl : w0 = (.int i0) := Option.some.inj ei0
  obtain ⟨i1, ei1⟩ := is_v g2
  obtain rfl : w1 = (.int i1) := Option.some.inj ei1
  obtain ⟨i2, ei2⟩ := is_v g3
  obtain rfl : w2 = (.int i2) := Option.some.inj ei2
  obtain ⟨n0, hn⟩ := and_e hn
  obtain ⟨n1, hn⟩ := and_e hn
  obtain ⟨n2, hn⟩ := and_e hn
  obtain ⟨n3, hn⟩ := and_e hn
  obtain ⟨n4, hn⟩ := and_e hn
  obtain ⟨n5, hn⟩ := and_e hn
  obtain ⟨n6, hn⟩ := and_e hn
  obtain ⟨n7, hn⟩ := and_e hn
  obtain ⟨n8, hn⟩ := and_e hn
  obtain ⟨n9, hn⟩ := and_e hn
  obtain ⟨n10, hn⟩ := and_e hn
  obtain ⟨n11, hn⟩ := and_e hn
  obtain ⟨n12, hn⟩ := and_e hn
  obtain ⟨n13, hn⟩ := and_e hn
  obtain ⟨n14, hn⟩ := and_e hn
  obtain ⟨n15, hn⟩ := and_e hn
  obtain ⟨n16, hn⟩ := and_e hn
  obtain ⟨n17, hn⟩ := and_e hn
  obtain ⟨n18, hn⟩ := and_e hn
  obtain ⟨n19, hn⟩ := and_e hn
  obtain ⟨n20, hn⟩ := and_e hn
  obtain ⟨n21, hn⟩ := and_e hn
  obtain ⟨n22, hn⟩ := and_e hn
  obtain ⟨n23, hn⟩ := and_e hn
  obtain ⟨n24, hn⟩ := and_e hn
  obtain ⟨n25, hn⟩ := and_e hn
  obtain ⟨n26, hn⟩ := and_e hn
  obtain ⟨n27, hn⟩ := and_e hn
  obtain ⟨n28, hn⟩ := and_e hn
  obtain ⟨n29, hn⟩ := and_e hn
  obtain ⟨n30, hn⟩ := and_e hn
  obtain ⟨n31, hn⟩ := and_e hn
  obtain ⟨n32, hn⟩ := and_e hn
  obtain ⟨n33, hn⟩ := and_e hn
  obtain ⟨n34, hn⟩ := and_e hn
  obtain ⟨n35, hn⟩ := and_e hn
  obtain ⟨n36, hn⟩ := and_e hn
  obtain ⟨n37, hn⟩ := and_e hn
  obtain ⟨n38, hn⟩ := and_e hn
  obtain ⟨n39, hn⟩ := and_e hn
  obtain ⟨n40, hn⟩ := and_e hn
  obtain ⟨n41, hn⟩ := and_e hn
  obtain ⟨n42, hn⟩ := and_e hn
  obtain ⟨n43, hn⟩ := and_e hn
  have n44 := hn
  obtain ⟨x0, v0, sS0, sE0⟩ := own_exa n0 (hw _ (List.mem_of_getElem? (i := 3) rfl)) (hw _ (List.mem_of_getElem? (i := 4) rfl))
  obtain ⟨x1, v1, sS1, sE1⟩ := own_exa n1 (hw _ (List.mem_of_getElem? (i := 3) rfl)) (hw _ (List.mem_of_getElem? (i := 7) rfl))
  obtain ⟨x2, v2, sS2, sE2⟩ := own_exa n2 (hw _ (List.mem_of_getElem? (i := 3) rfl)) (hw _ (List.mem_of_getElem? (i := 9) rfl))
  obtain ⟨x3, v3, sS3, sE3⟩ := own_exa n3 (hw _ (List.mem_of_getElem? (i := 3) rfl)) (hw _ (List.mem_of_getElem? (i := 11) rfl))
  obtain ⟨x4, v4, sS4, sE4⟩ := own_exa n4 (hw _ (List.mem_of_getElem? (i := 3) rfl)) (hw _ (List.mem_of_getElem? (i := 13) rfl))
  obtain ⟨x5, v5, sS5, sE5⟩ := own_exa n5 (hw _ (List.mem_of_getElem? (i := 3) rfl)) (hw _ (List.mem_of_getElem? (i := 15) rfl))
  obtain ⟨x6, v6, sS6, sE6⟩ := own_exa n6 (hw _ (List.mem_of_getElem? (i := 3) rfl)) (hw _ (List.mem_of_getElem? (i := 17) rfl))
  obtain ⟨x7, v7, sS7, sE7⟩ := own_exa n7 (hw _ (List.mem_of_getElem? (i := 3) rfl)) (hw _ (List.mem_of_getElem? (i := 19) rfl))
  obtain ⟨x8, v8, sS8, sE8⟩ := own_exa n8 (hw _ (List.mem_of_getElem? (i := 3) rfl)) (hw _ (List.mem_of_getElem? (i := 21) rfl))
  obtain ⟨x9, v9, sS9, sE9⟩ := own_exa n9 (hw _ (List.mem_of_getElem? (i := 3) rfl)) (hw _ (List.mem_of_getElem? (i := 23) rfl))
  obtain ⟨x10, v10, sS10, sE10⟩ := own_exa n10 (hw _ (List.mem_of_getElem? (i := 3) rfl)) (hw _ (List.mem_of_getElem? (i := 25) rfl))
  obtain ⟨x11, v11, sS11, sE11⟩ := own_exa n11 (hw _ (List.mem_of_getElem? (i := 3) rfl)) (hw _ (List.mem_of_getElem? (i := 27) rfl))
  obtain ⟨x12, v12, sS12, sE12⟩ := own_exa n12 (hw _ (List.mem_of_getElem? (i := 3) rfl)) (hw _ (List.mem_of_getElem? (i := 29) rfl))
  obtain ⟨x13, v13, sS13, sE13⟩ := own_exa n13 (hw _ (List.mem_of_getElem? (i := 3) rfl)) (hw _ (List.mem_of_getElem? (i := 31) rfl))
  obtain ⟨x14, v14, sS14, sE14⟩ := own_exa n14 (hw _ (List.mem_of_getElem? (i := 3) rfl)) (hw _ (List.mem_of_getElem? (i := 33) rfl))
  have sF0_lowestVersion := own_fldI v0 n15
  have sF0_highestVersion := own_fldI v0 n16
  have sF1_lowestVersion := own_fldI v1 n17
  have sF1_highestVersion := own_fldI v1 n18
  have sF14_lowestVersion := own_fldI v14 n19
  have sF14_highestVersion := own_fldI v14 n20
  have sF5_lowestVersion := own_fldI v5 n21
  have sF8_lowestVersion := own_fldI v8 n22
  have sF8_highestVersion := own_fldI v8 n23
  have sF9_lowestVersion := own_fldI v9 n24
  have sF9_highestVersion := own_fldI v9 n25
  have sF10_lowestVersion := own_fldI v10 n26
  have sF10_highestVersion := own_fldI v10 n27
  have sF3_lowestVersion := own_fldI v3 n28
  have sF3_highestVersion := own_fldI v3 n29
  have sF11_lowestVersion := own_fldI v11 n30
  have sF11_highestVersion := own_fldI v11 n31
  have sF2_lowestVersion := own_fldI v2 n32
  have sF2_highestVersion := own_fldI v2 n33
  have sF4_lowestVersion := own_fldI v4 n34
  have sF7_lowestVersion := own_fldI v7 n35
  have sF7_highestVersion := own_fldI v7 n36
  have sF6_lowestVersion := own_fldI v6 n37
  have sF13_lowestVersion := own_fldI v13 n38
  have sF5_highestVersion := own_fldI v5 n39
  have sF13_highestVersion := own_fldI v13 n40
  have sF6_highestVersion := own_fldI v6 n41
  have sF4_highestVersion := own_fldI v4 n42
  have sF12_lowestVersion := own_fldI v12 n43
  have sF12_highestVersion := own_fldI v12 n44
  have H : Hyp s (fun j => [x0, x1, x2, x3, x4, x5, x6, x7, x8, x9, x10, x11, x12, x13, x14].getD j 0) := ⟨sS0, sE0, sF0_highestVersion, sF0_lowestVersion, sS1, sE1, sF1_highestVersion, sF1_lowestVersion, sS2, sE2, sF2_highestVersion, sF2_lowestVersion, sS3, sE3, sF3_highestVersion, sF3_lowestVersion, sS4, sE4, sF4_highestVersion, sF4_lowestVersion, sS5, sE5, sF5_highestVersion, sF5_lowestVersion, sS6, sE6, sF6_highestVersion, sF6_lowestVersion, sS7, sE7, sF7_highestVersion, sF7_lowestVersion, sS8, sE8, sF8_highestVersion, sF8_lowestVersion, sS9, sE9, sF9_highestVersion, sF9_lowestVersion, sS10, sE10, sF10_highestVersion, sF10_lowestVersion, sS11, sE11, sF11_highestVersion, sF11_lowestVersion, sS12, sE12, sF12_highestVersion, sF12_lowestVersion, sS13, sE13, sF13_highestVersion, sF13_lowestVersion, sS14, sE14, sF14_highestVersion, sF14_lowestVersion⟩
  obtain ⟨n, o, h1, h2, h3, _, L, rfl, ⟨rfl, N⟩, hq⟩ := rm0 l s _ hw tables_1 _ H i0 i1 i2 s.heap ⟨Nat.le_refl _, fun _ _ q => q⟩  p e ha hc hk s m _ below hf ((Spec.applies_iff_loose hf).mp happ).1 ⟨rfl, State.Warmed39.refl s, rfl⟩ trivial
  refine ⟨n, _, h1, h2, h3, hpost _ _ _ _ _ _ ⟨Cond.after_iff.mpr rfl, Cond.after_iff.mpr (eq_i res_at (Term.int_eval (1)) rfl), trivial⟩ ⟨hq.1, hq.2.1, (hq.2.2.sift fun y hy => Or.inr (N y hy)).mono (by decide) (by decide)⟩⟩
theorem main_1_1 : Claimed_1_1 := comes_1 fun _ _ _ _ _ _ h hF => ⟨h.1, hF⟩
theorem main_1_2 : Claimed_1_2 := comes_1 fun _ _ _ _ _ _ h hF => ⟨h.2.1, hF⟩
end Jvm.Pilot.@@N@@
namespace Jvm.Pilot.@@N@@
open Jvm Jvm.ClassFile Sem Op Lib Jvm.Free Jvm.Stand Jvm.Pilot.@@N@@.Jvm.D
/-! MADE BY PROGRAM (witnessworld.py) out of the Statement's table words and the real class files: 13 classes; the members and pool entries that the words name. The judged class is class 1, her method 1. -/
namespace start1
open Jvm.ClassFile
def u (s : String) : CpInfo := .utf8 (stringToUtf16 s)
/-- a pool by its gaps: so many unusable entries, then the entry; so many at the end -/
def gap : Nat → List CpInfo → List CpInfo
  | 0, r => r
  | n + 1, r => .unusable :: gap n r
def poolList (es : List (Nat × CpInfo)) (last : Nat) : List CpInfo := es.foldr (fun e r => gap e.1 (e.2 :: r)) (gap last [])
def pool (es : List (Nat × CpInfo)) (last : Nat) : Array CpInfo := ⟨poolList es last⟩
def fileOf (pool : Array CpInfo) (this : Nat) (attrs : Array Attribute := #[]) (ms : Array MethodInfo := #[]) (fl : Nat := 33) (sup : Nat := 0) (ifs : Array Nat := #[]) (fds : Array FieldInfo := #[]) : ClassFile where
  minorVersion := 0
  majorVersion := 65
  constantPool := pool
  accessFlags := fl
  thisClass := this
  superClass := sup
  interfaces := ifs
  fields := fds
  methods := ms
  attributes := attrs
def plain (name : String) (sup : Option ClassId) : Class where
  name := name
  kind := .ordinary
  loader := none
  accessFlags := 33
  super := sup
  interfaces := #[]
  cf := none
  fields := #[]
  methods := #[]
  instanceTypes := #[]
  staticTypes := #[]
  resolved := #[]
  callSites := []
  init := .initialized
  statics := none
  mirror := none

def pool0 : Array CpInfo := pool [(5, u "<init>"), (0, u "()V"), (1, .class_ 10), (1, u "java/lang/Object")] 113

def k0m0 : Method := { name := "<init>", desc := "()V", sig := { parameters := [], returnType := none }, accessFlags := 1, code := none }
/-- java/lang/Object -/
def k0 : Class := { plain "java/lang/Object" none with
  accessFlags := 33
  interfaces := #[]
  cf := some (fileOf pool0 8 #[] #[{ accessFlags := 1, nameIndex := 5, descriptorIndex := 6, attributes := #[] }] 33 0 #[] #[])
  fields := #[]
  methods := #[k0m0]
  instanceTypes := #[]
  staticTypes := #[]
  resolved := Array.replicate 124 none
  statics := none }

def pool1 : Array CpInfo := pool [(2, .class_ 4), (1, u "java/lang/Object"), (0, u "<init>"), (0, u "()V"), (0, .class_ 8), (0, u "com/example/usher/usher/ApiKey"), (0, .fieldref 7 10), (0, .nameAndType 11 12), (0, u "PRODUCE"), (0, u "Lcom/example/usher/usher/ApiKey;"), (0, .fieldref 7 14), (0, .nameAndType 15 12), (0, u "FETCH"), (0, .fieldref 7 17), (0, .nameAndType 18 12), (0, u "LIST_OFFSETS"), (0, .fieldref 7 20), (0, .nameAndType 21 12), (0, u "METADATA"), (0, .fieldref 7 23), (0, .nameAndType 24 12), (0, u "OFFSET_COMMIT"), (0, .fieldref 7 26), (0, .nameAndType 27 12), (0, u "OFFSET_FETCH"), (0, .fieldref 7 29), (0, .nameAndType 30 12), (0, u "FIND_COORDINATOR"), (0, .fieldref 7 32), (0, .nameAndType 33 12), (0, u "JOIN_GROUP"), (0, .fieldref 7 35), (0, .nameAndType 36 12), (0, u "HEARTBEAT"), (0, .fieldref 7 38), (0, .nameAndType 39 12), (0, u "LEAVE_GROUP"), (0, .fieldref 7 41), (0, .nameAndType 42 12), (0, u "SYNC_GROUP"), (0, .fieldref 7 44), (0, .nameAndType 45 12), (0, u "DESCRIBE_GROUPS"), (0, .fieldref 7 47), (0, .nameAndType 48 12), (0, u "LIST_GROUPS"), (0, .fieldref 7 50), (0, .nameAndType 51 12), (0, u "API_VERSIONS"), (0, .fieldref 7 53), (0, .nameAndType 54 12), (0, u "INIT_PRODUCER_ID"), (0, .integer 2147483647), (0, .methodref 7 57), (0, .nameAndType 58 59), (0, u "offers"), (0, u "(S)Z"), (0, .class_ 61), (0, u "com/example/usher/usher/ApiKeyOffersPinLaw"), (2, u "law"), (0, u "(III)Z")] 7

def k1m0 : Method := { name := "<init>", desc := "()V", sig := { parameters := [], returnType := none }, accessFlags := 1, code := none }
def k1c1 : Code := { maxStack := 4, maxLocals := 11, code := code, exceptionTable := #[], attributes := #[] }
def k1m1 : Method := { name := "law", desc := "(III)Z", sig := { parameters := [.int, .int, .int], returnType := some .boolean }, accessFlags := 9, code := some k1c1 }
/-- com/example/usher/usher/ApiKeyOffersPinLaw -/
def k1 : Class := { plain "com/example/usher/usher/ApiKeyOffersPinLaw" (some 0) with
  accessFlags := 49
  interfaces := #[]
  cf := some (fileOf pool1 60 #[] #[{ accessFlags := 1, nameIndex := 5, descriptorIndex := 6, attributes := #[] }, { accessFlags := 9, nameIndex := 64, descriptorIndex := 65, attributes := #[] }] 49 2 #[] #[])
  fields := #[]
  methods := #[k1m0, k1m1]
  instanceTypes := #[]
  staticTypes := #[]
  resolved := Array.replicate 73 none
  statics := none }

def pool2 : Array CpInfo := pool [(1, .class_ 2), (0, u "java/lang/constant/Constable"), (0, .class_ 4), (0, u "java/lang/Object")] 6

/-- java/lang/constant/Constable -/
def k2 : Class := { plain "java/lang/constant/Constable" (some 0) with
  accessFlags := 1537
  interfaces := #[]
  cf := some (fileOf pool2 1 #[] #[] 1537 3 #[] #[])
  fields := #[]
  methods := #[]
  instanceTypes := #[]
  staticTypes := #[]
  resolved := Array.replicate 11 none
  statics := none }

def pool3 : Array CpInfo := pool [(1, .class_ 2), (0, u "java/lang/Comparable"), (0, .class_ 4), (0, u "java/lang/Object")] 7

/-- java/lang/Comparable -/
def k3 : Class := { plain "java/lang/Comparable" (some 0) with
  accessFlags := 1537
  interfaces := #[]
  cf := some (fileOf pool3 1 #[] #[] 1537 3 #[] #[])
  fields := #[]
  methods := #[]
  instanceTypes := #[]
  staticTypes := #[]
  resolved := Array.replicate 12 none
  statics := none }

def pool4 : Array CpInfo := pool [(1, .class_ 2), (0, u "java/io/Serializable"), (0, .class_ 4), (0, u "java/lang/Object")] 2

/-- java/io/Serializable -/
def k4 : Class := { plain "java/io/Serializable" (some 0) with
  accessFlags := 1537
  interfaces := #[]
  cf := some (fileOf pool4 1 #[] #[] 1537 3 #[] #[])
  fields := #[]
  methods := #[]
  instanceTypes := #[]
  staticTypes := #[]
  resolved := Array.replicate 7 none
  statics := none }

def pool5 : Array CpInfo := pool [(2, .class_ 4), (1, u "java/lang/Enum"), (0, u "name"), (0, u "Ljava/lang/String;"), (2, u "ordinal"), (0, u "I"), (1, .class_ 14), (1, u "java/lang/Object"), (4, u "hash"), (86, .class_ 108), (1, u "java/lang/Enum$EnumDesc"), (2, .class_ 112), (0, u "java/lang/constant/Constable"), (0, .class_ 114), (0, u "java/lang/Comparable"), (0, .class_ 116), (0, u "java/io/Serializable")] 87

/-- java/lang/Enum -/
def k5 : Class := { plain "java/lang/Enum" (some 0) with
  accessFlags := 1057
  interfaces := #[2, 3, 4]
  cf := some (fileOf pool5 2 #[.nestMembers #[106]] #[] 1057 12 #[111, 113, 115] #[{ accessFlags := 18, nameIndex := 5, descriptorIndex := 6, attributes := #[] }, { accessFlags := 18, nameIndex := 9, descriptorIndex := 10, attributes := #[] }, { accessFlags := 2, nameIndex := 19, descriptorIndex := 10, attributes := #[] }])
  fields := #[{ name := "name", type := (.object "java/lang/String"), accessFlags := 18, slot := 0, constantValue := 0 }, { name := "ordinal", type := .int, accessFlags := 18, slot := 1, constantValue := 0 }, { name := "hash", type := .int, accessFlags := 2, slot := 2, constantValue := 0 }]
  methods := #[]
  instanceTypes := #[(.object "java/lang/String"), .int, .int]
  staticTypes := #[]
  resolved := Array.replicate 204 none
  statics := none }

def pool6 : Array CpInfo := pool [(1, .class_ 2), (0, u "com/example/usher/usher/ApiKey"), (2, u "PRODUCE"), (0, u "Lcom/example/usher/usher/ApiKey;"), (2, u "FETCH"), (2, u "LIST_OFFSETS"), (2, u "METADATA"), (2, u "OFFSET_COMMIT"), (2, u "OFFSET_FETCH"), (2, u "FIND_COORDINATOR"), (2, u "JOIN_GROUP"), (2, u "HEARTBEAT"), (2, u "LEAVE_GROUP"), (2, u "SYNC_GROUP"), (2, u "DESCRIBE_GROUPS"), (2, u "LIST_GROUPS"), (2, u "API_VERSIONS"), (2, u "INIT_PRODUCER_ID"), (2, u "$VALUES"), (0, u "[Lcom/example/usher/usher/ApiKey;"), (6, .class_ 61), (1, u "java/lang/Enum"), (8, u "id"), (0, u "S"), (0, .fieldref 1 73), (0, .nameAndType 74 71), (0, u "lowestVersion"), (0, .fieldref 1 76), (0, .nameAndType 77 71), (0, u "highestVersion"), (2, u "firstFlexibleVersion"), (45, u "offers"), (0, u "(S)Z")] 23

def k6c0 : Code := { maxStack := 2, maxLocals := 2, code := prog_2_method_8_code, exceptionTable := #[], attributes := #[] }
def k6m0 : Method := { name := "offers", desc := "(S)Z", sig := { parameters := [.short], returnType := some .boolean }, accessFlags := 0, code := some k6c0 }
/-- com/example/usher/usher/ApiKey -/
def k6 : Class := { plain "com/example/usher/usher/ApiKey" (some 5) with
  accessFlags := 16432
  interfaces := #[]
  cf := some (fileOf pool6 1 #[] #[{ accessFlags := 0, nameIndex := 126, descriptorIndex := 127, attributes := #[] }] 16432 59 #[] #[{ accessFlags := 16409, nameIndex := 5, descriptorIndex := 6, attributes := #[] }, { accessFlags := 16409, nameIndex := 9, descriptorIndex := 6, attributes := #[] }, { accessFlags := 16409, nameIndex := 12, descriptorIndex := 6, attributes := #[] }, { accessFlags := 16409, nameIndex := 15, descriptorIndex := 6, attributes := #[] }, { accessFlags := 16409, nameIndex := 18, descriptorIndex := 6, attributes := #[] }, { accessFlags := 16409, nameIndex := 21, descriptorIndex := 6, attributes := #[] }, { accessFlags := 16409, nameIndex := 24, descriptorIndex := 6, attributes := #[] }, { accessFlags := 16409, nameIndex := 27, descriptorIndex := 6, attributes := #[] }, { accessFlags := 16409, nameIndex := 30, descriptorIndex := 6, attributes := #[] }, { accessFlags := 16409, nameIndex := 33, descriptorIndex := 6, attributes := #[] }, { accessFlags := 16409, nameIndex := 36, descriptorIndex := 6, attributes := #[] }, { accessFlags := 16409, nameIndex := 39, descriptorIndex := 6, attributes := #[] }, { accessFlags := 16409, nameIndex := 42, descriptorIndex := 6, attributes := #[] }, { accessFlags := 16409, nameIndex := 45, descriptorIndex := 6, attributes := #[] }, { accessFlags := 16409, nameIndex := 48, descriptorIndex := 6, attributes := #[] }, { accessFlags := 18, nameIndex := 70, descriptorIndex := 71, attributes := #[] }, { accessFlags := 18, nameIndex := 74, descriptorIndex := 71, attributes := #[] }, { accessFlags := 18, nameIndex := 77, descriptorIndex := 71, attributes := #[] }, { accessFlags := 18, nameIndex := 80, descriptorIndex := 71, attributes := #[] }, { accessFlags := 4122, nameIndex := 51, descriptorIndex := 52, attributes := #[] }])
  fields := #[{ name := "PRODUCE", type := (.object "com/example/usher/usher/ApiKey"), accessFlags := 16409, slot := 0, constantValue := 0 }, { name := "FETCH", type := (.object "com/example/usher/usher/ApiKey"), accessFlags := 16409, slot := 1, constantValue := 0 }, { name := "LIST_OFFSETS", type := (.object "com/example/usher/usher/ApiKey"), accessFlags := 16409, slot := 2, constantValue := 0 }, { name := "METADATA", type := (.object "com/example/usher/usher/ApiKey"), accessFlags := 16409, slot := 3, constantValue := 0 }, { name := "OFFSET_COMMIT", type := (.object "com/example/usher/usher/ApiKey"), accessFlags := 16409, slot := 4, constantValue := 0 }, { name := "OFFSET_FETCH", type := (.object "com/example/usher/usher/ApiKey"), accessFlags := 16409, slot := 5, constantValue := 0 }, { name := "FIND_COORDINATOR", type := (.object "com/example/usher/usher/ApiKey"), accessFlags := 16409, slot := 6, constantValue := 0 }, { name := "JOIN_GROUP", type := (.object "com/example/usher/usher/ApiKey"), accessFlags := 16409, slot := 7, constantValue := 0 }, { name := "HEARTBEAT", type := (.object "com/example/usher/usher/ApiKey"), accessFlags := 16409, slot := 8, constantValue := 0 }, { name := "LEAVE_GROUP", type := (.object "com/example/usher/usher/ApiKey"), accessFlags := 16409, slot := 9, constantValue := 0 }, { name := "SYNC_GROUP", type := (.object "com/example/usher/usher/ApiKey"), accessFlags := 16409, slot := 10, constantValue := 0 }, { name := "DESCRIBE_GROUPS", type := (.object "com/example/usher/usher/ApiKey"), accessFlags := 16409, slot := 11, constantValue := 0 }, { name := "LIST_GROUPS", type := (.object "com/example/usher/usher/ApiKey"), accessFlags := 16409, slot := 12, constantValue := 0 }, { name := "API_VERSIONS", type := (.object "com/example/usher/usher/ApiKey"), accessFlags := 16409, slot := 13, constantValue := 0 }, { name := "INIT_PRODUCER_ID", type := (.object "com/example/usher/usher/ApiKey"), accessFlags := 16409, slot := 14, constantValue := 0 }, { name := "id", type := .short, accessFlags := 18, slot := 3, constantValue := 0 }, { name := "lowestVersion", type := .short, accessFlags := 18, slot := 4, constantValue := 0 }, { name := "highestVersion", type := .short, accessFlags := 18, slot := 5, constantValue := 0 }, { name := "firstFlexibleVersion", type := .short, accessFlags := 18, slot := 6, constantValue := 0 }, { name := "$VALUES", type := (.array (.object "com/example/usher/usher/ApiKey")), accessFlags := 4122, slot := 15, constantValue := 0 }]
  methods := #[k6m0]
  instanceTypes := #[(.object "java/lang/String"), .int, .int, .short, .short, .short, .short]
  staticTypes := #[(.object "com/example/usher/usher/ApiKey"), (.object "com/example/usher/usher/ApiKey"), (.object "com/example/usher/usher/ApiKey"), (.object "com/example/usher/usher/ApiKey"), (.object "com/example/usher/usher/ApiKey"), (.object "com/example/usher/usher/ApiKey"), (.object "com/example/usher/usher/ApiKey"), (.object "com/example/usher/usher/ApiKey"), (.object "com/example/usher/usher/ApiKey"), (.object "com/example/usher/usher/ApiKey"), (.object "com/example/usher/usher/ApiKey"), (.object "com/example/usher/usher/ApiKey"), (.object "com/example/usher/usher/ApiKey"), (.object "com/example/usher/usher/ApiKey"), (.object "com/example/usher/usher/ApiKey"), (.array (.object "com/example/usher/usher/ApiKey"))]
  resolved := Array.replicate 151 none
  statics := some 0 }

def pool7 : Array CpInfo := pool [(1, u "java/lang/Cloneable"), (0, .class_ 1), (0, u "java/lang/Object"), (0, .class_ 3)] 3

/-- java/lang/Cloneable -/
def k7 : Class := { plain "java/lang/Cloneable" (some 0) with
  accessFlags := 1537
  interfaces := #[]
  cf := some (fileOf pool7 2 #[] #[] 1537 4 #[] #[])
  fields := #[]
  methods := #[]
  instanceTypes := #[]
  staticTypes := #[]
  resolved := Array.replicate 8 none
  statics := none }

/-- the primitive byte -/
def k8 : Class := { plain "byte" none with kind := .primitive 'B', accessFlags := 0x411 }
/-- [B -/
def k9 : Class := { plain "[B" (some 0) with kind := .array 8 .byte, interfaces := #[7, 4], accessFlags := 1041 }

/-- the primitive int -/
def k10 : Class := { plain "int" none with kind := .primitive 'I', accessFlags := 0x411 }
/-- [I -/
def k11 : Class := { plain "[I" (some 0) with kind := .array 10 .int, interfaces := #[7, 4], accessFlags := 1041 }

/-- [Lcom/example/usher/usher/ApiKey; -/
def k12 : Class := { plain "[Lcom/example/usher/usher/ApiKey;" (some 0) with kind := .array 6 (.object "com/example/usher/usher/ApiKey"), interfaces := #[7, 4], accessFlags := 1041 }

def heap : Heap := #[{ cls := 6, slots := #[.ref 1, .ref 2, .ref 3, .ref 4, .ref 5, .ref 6, .ref 7, .ref 8, .ref 9, .ref 10, .ref 11, .ref 12, .ref 13, .ref 14, .ref 15, .null], vm := .statics 6 },
  { cls := 6, slots := #[.null, .int 0, .int 0, .int 0, .int 0, .int 7, .int 0], vm := .none },
  { cls := 6, slots := #[.null, .int 0, .int 0, .int 0, .int 4, .int 11, .int 0], vm := .none },
  { cls := 6, slots := #[.null, .int 0, .int 0, .int 0, .int 1, .int 2, .int 0], vm := .none },
  { cls := 6, slots := #[.null, .int 0, .int 0, .int 0, .int 0, .int 5, .int 0], vm := .none },
  { cls := 6, slots := #[.null, .int 0, .int 0, .int 0, .int 1, .int 7, .int 0], vm := .none },
  { cls := 6, slots := #[.null, .int 0, .int 0, .int 0, .int 1, .int 5, .int 0], vm := .none },
  { cls := 6, slots := #[.null, .int 0, .int 0, .int 0, .int 0, .int 2, .int 0], vm := .none },
  { cls := 6, slots := #[.null, .int 0, .int 0, .int 0, .int 0, .int 5, .int 0], vm := .none },
  { cls := 6, slots := #[.null, .int 0, .int 0, .int 0, .int 0, .int 3, .int 0], vm := .none },
  { cls := 6, slots := #[.null, .int 0, .int 0, .int 0, .int 0, .int 1, .int 0], vm := .none },
  { cls := 6, slots := #[.null, .int 0, .int 0, .int 0, .int 0, .int 3, .int 0], vm := .none },
  { cls := 6, slots := #[.null, .int 0, .int 0, .int 0, .int 0, .int 4, .int 0], vm := .none },
  { cls := 6, slots := #[.null, .int 0, .int 0, .int 0, .int 0, .int 2, .int 0], vm := .none },
  { cls := 6, slots := #[.null, .int 0, .int 0, .int 0, .int 0, .int 3, .int 0], vm := .none },
  { cls := 6, slots := #[.null, .int 0, .int 0, .int 0, .int 0, .int 1, .int 0], vm := .none }]
def classes : Array Class := #[k0, k1, k2, k3, k4, k5, k6, k7, k8, k9, k10, k11, k12]
def interned : List (Array UInt16 × Addr) := []
def slotsUsed : Nat := 121
def theMethod : MethodId := ⟨1, 1⟩
def args0 : Array Value := #[.int 5, .int 7, .int 1]
def aboutOver (below : List Frame) : State where
  vm := { classes := classes, interned := interned.toArray }
  heap := heap
  slotsUsed := slotsUsed
  threads := #[{ frames := .invoking theMethod args0 :: below }]
def below0 : List Frame := [.native { method := ⟨0, 0⟩, args := #[] }]
def about1 : State := aboutOver below0
def p0 : Program := .bare "" "" ""
def e0 : Env := launch0.env 0 0 0
theorem w_frames : about1.frames = Frame.invoking theMethod args0 :: below0 := rfl
set_option maxRecDepth 65536 in
theorem w_args : argsFit about1.vm theMethod args0 = true := by decide +kernel
set_option maxRecDepth 65536 in
theorem w_heap : heapFits about1 = true := by decide +kernel
set_option maxRecDepth 65536 in
theorem w_runnable : about1.curStatus? = some .runnable := by decide +kernel
set_option maxRecDepth 65536 in
theorem w_alone : about1.alone = true := by decide +kernel
set_option maxRecDepth 65536 in
theorem w_named : about1.methodNamed? x = some theMethod := by decide +kernel
set_option maxRecDepth 65536 in
theorem w_hears : about1.hears theMethod below0 = true := by decide +kernel
set_option maxRecDepth 65536 in
theorem w_ripe : about1.ripe theMethod args0 below0 = true := by decide +kernel
theorem w_running : about1.status = .running := rfl
set_option maxRecDepth 65536 in
theorem w_room : about1.hasRoom e0.platform room_1 = true :=
  launch0.hasRoom_least _ room_1 (by decide +kernel) (by decide +kernel) (by decide +kernel) (by decide +kernel) (by decide +kernel) (by decide +kernel)
theorem allAtoms_all (ts : List Jvm.Cond) (a : Array Jvm.Value) (st : Jvm.State) : (allAtoms ts).before a st = ts.all (fun c => c.before a st) := by
  induction ts with
  | nil => rfl
  | cons c t ih =>
    show (Jvm.Cond.and c (allAtoms t)).before a st = _
    rw [Jvm.Cond.before_and, ih, List.all_cons]
def words1 : List Jvm.Cond := Jvm.Cond.code x code maxLocals ret :: tables_1
/-- a 'code' word, met by the world's own term for the bytes: nothing is compared byte by byte -/
theorem code_word {y : MethodName} {bytes : ByteArray} {mx : Nat} {rt : Option FieldType} {a : Array Value} {s : State} {m : MethodId} {meth : Method} {c : Code} (h1 : s.methodNamed? y = some m) (h2 : s.vm.method? m = some meth) (h3 : meth.code = some c) (h4 : c.code = bytes)
    (h5 : (c.maxLocals == mx && c.exceptionTable.isEmpty && decide (c.maxStack ≤ mostOperands) && decide (meth.sig.returnType = rt) && !meth.locks && decide (parseMethodDescriptor y.desc = some meth.sig)) = true) : (Jvm.Cond.code y bytes mx rt).before a s = true := by
  simp only [Bool.and_eq_true, beq_iff_eq, Bool.not_eq_true', decide_eq_true_eq] at h5
  obtain ⟨⟨⟨⟨⟨g1, g2⟩, g3⟩, g4⟩, g5⟩, g6⟩ := h5
  simp [Cond.before, Cond.holds, Cond.value, h1, h2, h3, h4, g1, g2, g3, g4, g5, g6]
def isCode : Jvm.Cond → Bool
  | .code _ _ _ _ => true
  | _ => false
theorem all_split {L : List Jvm.Cond} {P : Jvm.Cond → Bool} (h1 : L.all (fun c => isCode c || P c) = true) (h2 : ∀ c ∈ L.filter isCode, P c = true) : L.all P = true := by
  refine List.all_eq_true.mpr fun c hc => ?_
  have h := List.all_eq_true.mp h1 c hc
  rcases Bool.eq_false_or_eq_true (isCode c) with hi | hi
  · exact h2 c (List.mem_filter.mpr ⟨hc, hi⟩)
  · simpa [hi] using h
set_option maxRecDepth 65536 in
theorem w_c0 : (Jvm.Cond.code x code maxLocals ret).before args0 about1 = true := code_word (m := ⟨1, 1⟩) (meth := k1m1) (c := k1c1) (by decide +kernel) rfl rfl rfl (by decide +kernel)
set_option maxRecDepth 65536 in
theorem w_c1 : (Jvm.Cond.code ({ cls := "com/example/usher/usher/ApiKey", name := "offers", desc := "(S)Z" } : Jvm.MethodName) prog_2_method_8_code (2 : Nat) (Option.some Jvm.ClassFile.FieldType.boolean)).before args0 about1 = true := code_word (m := ⟨6, 0⟩) (meth := k6m0) (c := k6c0) (by decide +kernel) rfl rfl rfl (by decide +kernel)
def codes1 : List Jvm.Cond := [Jvm.Cond.code x code maxLocals ret, Jvm.Cond.code ({ cls := "com/example/usher/usher/ApiKey", name := "offers", desc := "(S)Z" } : Jvm.MethodName) prog_2_method_8_code (2 : Nat) (Option.some Jvm.ClassFile.FieldType.boolean)]
set_option maxRecDepth 65536 in
theorem codes_eq : words1.filter isCode = codes1 := rfl
theorem w_codes : ∀ c ∈ words1.filter isCode, c.before args0 about1 = true := by
  rw [codes_eq]
  intro c hc
  simp only [codes1, List.mem_cons, List.not_mem_nil, or_false] at hc
  rcases hc with rfl | rfl
  · exact w_c0
  · exact w_c1
set_option maxRecDepth 65536 in
theorem w_t1 : (words1.take 24).all (fun c => isCode c || c.before args0 about1) = true := by decide +kernel
set_option maxRecDepth 65536 in
theorem w_t2 : (words1.drop 24).all (fun c => isCode c || c.before args0 about1) = true := by decide +kernel
theorem w_tables : (allAtoms (Jvm.Cond.code x code maxLocals ret :: tables_1)).before args0 about1 = true := by
  rw [allAtoms_all]
  show words1.all (fun c => c.before args0 about1) = true
  refine all_split ?_ w_codes
  rw [← List.take_append_drop 24 words1, List.all_append, w_t1, w_t2]
  rfl
set_option maxRecDepth 65536 in
theorem w_case : (Jvm.Cond.and given_1 narrow_1).before args0 about1 = true := by decide +kernel
theorem w_applies : (headSpec (Jvm.Cond.code x code maxLocals ret :: tables_1) room_1).applies x e0.platform about1 = true :=
  (Spec.applies_iff w_frames).mpr ⟨w_running, w_runnable, w_alone, w_named, w_hears, w_ripe, w_room, w_tables⟩
theorem atStart : AtStart classFile x code maxLocals ret World_1 tables_1 room_1 Calls_1 rest_1 Pre_1 launch0 p0 e0 about1 theMethod args0 below0 :=
  ⟨lists_1, trivial, launch0.admits_env _ _ _, launch0.least_env, fairChoices_fair.cas, fairChoices_fair.clock, w_frames, w_args, w_heap, w_applies, trivial, trivial, w_case⟩
end start1
theorem witness_1 : WitnessClaimed_1 := ⟨start1.p0, start1.e0, start1.about1, start1.theMethod, start1.args0, start1.below0, start1.atStart⟩
end Jvm.Pilot.@@N@@
