import JvmDerived
import JvmDerived.Pilot.@@N@@Statement
import JvmDerived.Pilot.@@N@@Code
set_option linter.unusedVariables false
set_option linter.unusedSimpArgs false
namespace Jvm.Pilot.@@N@@
open Jvm Jvm.ClassFile Sem Op Lib Jvm.Free Jvm.Stand Jvm.LawKit Jvm.RoadKit Bundle Jvm.Pilot.@@N@@.Jvm.D
section Own
variable {p : Program} {l : Launch} {e : Env} {R : Room} {s : State} {m : MethodId} {args : Array Value} {below : List Frame} {meth : Method} {c : Code} {T : State} {locs : List Loc} {cells slots : Nat} {Z : State} {a0 : Array Value} {h h' : Heap} {Q : Option Value → Heap → List Loc → Prop} {k n : Nat} {S S' : State}
/-- from S the walk comes to its end, and Q holds there -/
def own_Go (p : Program) (e : Env) (below : List Frame) (s : State) (Q : Option Value → Heap → List Loc → Prop) (k n : Nat) (S : State) : Prop :=
  ∃ s₂ o, Steps p.tables e below S s₂ ∧ s₂.status = .running ∧ Ended s₂ below o ∧ ∃ v L, o = .returned v ∧ Q v s₂.heap L ∧ FrameEnd s o s₂ L k n
theorem own_step (f : ∀ t, Steps p.tables e below S' t → Steps p.tables e below S t) (g : own_Go p e below s Q k n S') : own_Go p e below s Q k n S := by
  obtain ⟨s₂, o, h1, r⟩ := g
  exact ⟨s₂, o, f _ h1, r⟩
theorem own_ret (X : Stand p l e R s m args below meth c T locs cells slots) (hx : p.tables.exec = Jvm.exec) (hlk : meth.locks = false) {pc : Nat} {Ls : Array Slot} {w : Value} {t : FieldType} {i : Instr} {rest : List Value} (hret : meth.sig.returnType = some t) (hn : narrow t w = w)
    (hi : (i = .ireturn ∧ (t = .int ∨ t = .boolean ∨ t = .byte ∨ t = .char ∨ t = .short) ∧ ∃ z, w = .int z) ∨ (i = .lreturn ∧ t = .long ∧ ∃ z, w = .long z) ∨ (i = .dreturn ∧ t = .double ∧ ∃ z, w = .double z) ∨ (i = .freturn ∧ t = .float ∧ ∃ z, w = .float z) ∨ (i = .areturn ∧ t.isReference = true ∧ w.isRef = true))
    (hd : decode c.code pc = .ok (i, 1)) (hQ : Q (some w) T.heap locs) (hk : cells ≤ k) (hs : slots ≤ n) : own_Go p e below s Q k n (T.setTop (mkF m pc Ls (w :: rest))) := by
  obtain ⟨fs, hr, hrun, hended, hW, hsame⟩ := X.leave (v := some w) (fun h => by rw [hret] at h; cases h) hlk
  exact ⟨_, _, retOut X hx hret hn hi hd hr, hrun, hended, _, _, rfl, hQ, ⟨_, rfl⟩, hW, hsame.mono hk hs⟩
theorem own_retI (X : Stand p l e R s m args below meth c T locs cells slots) (hx : p.tables.exec = Jvm.exec) (hlk : meth.locks = false) {pc : Nat} {Ls : Array Slot} {z : Int32} {t : FieldType} {rest : List Value} (hret : meth.sig.returnType = some t) (ht : t = .int ∨ t = .boolean ∨ t = .byte ∨ t = .char ∨ t = .short) (hn : narrow t (.int z) = .int z)
    (hd : decode c.code pc = .ok (.ireturn, 1)) (hQ : Q (some (.int z)) T.heap locs) (hk : cells ≤ k) (hs : slots ≤ n) : own_Go p e below s Q k n (T.setTop (mkF m pc Ls (.int z :: rest))) :=
  own_ret X hx hlk hret hn (Or.inl ⟨rfl, ht, z, rfl⟩) hd hQ hk hs
theorem own_retJ (X : Stand p l e R s m args below meth c T locs cells slots) (hx : p.tables.exec = Jvm.exec) (hlk : meth.locks = false) {pc : Nat} {Ls : Array Slot} {z : Int64} {rest : List Value} (hret : meth.sig.returnType = some .long)
    (hd : decode c.code pc = .ok (.lreturn, 1)) (hQ : Q (some (.long z)) T.heap locs) (hk : cells ≤ k) (hs : slots ≤ n) : own_Go p e below s Q k n (T.setTop (mkF m pc Ls (.long z :: rest))) :=
  own_ret X hx hlk hret rfl (Or.inr (Or.inl ⟨rfl, rfl, z, rfl⟩)) hd hQ hk hs
theorem own_narrow_ref {t : FieldType} {w : Value} (ht : t.isReference = true) (hw : w.isRef = true) : narrow t w = w := by
  rcases ref_cases hw with rfl | ⟨z, rfl⟩ <;> cases t <;> first | rfl | (simp [FieldType.isReference] at ht)
theorem own_retA (X : Stand p l e R s m args below meth c T locs cells slots) (hx : p.tables.exec = Jvm.exec) (hlk : meth.locks = false) {pc : Nat} {Ls : Array Slot} {w : Value} {t : FieldType} {rest : List Value} (hret : meth.sig.returnType = some t) (ht : t.isReference = true) (hw : w.isRef = true)
    (hd : decode c.code pc = .ok (.areturn, 1)) (hQ : Q (some w) T.heap locs) (hk : cells ≤ k) (hs : slots ≤ n) : own_Go p e below s Q k n (T.setTop (mkF m pc Ls (w :: rest))) :=
  own_ret X hx hlk hret (own_narrow_ref ht hw) (Or.inr (Or.inr (Or.inr (Or.inr ⟨rfl, ht, hw⟩)))) hd hQ hk hs
theorem own_retV (X : Stand p l e R s m args below meth c T locs cells slots) (hx : p.tables.exec = Jvm.exec) (hlk : meth.locks = false) {pc : Nat} {Ls : Array Slot} (hret : meth.sig.returnType = none)
    (hd : decode c.code pc = .ok (.return_, 1)) (hQ : Q none T.heap locs) (hk : cells ≤ k) (hs : slots ≤ n) : own_Go p e below s Q k n (T.setTop (mkF m pc Ls [])) := by
  obtain ⟨fs, hr, hrun, hended, hW, hsame⟩ := X.leave (v := none) (fun _ => rfl) hlk
  exact ⟨_, _, X.returnOut hx hret hd hr, hrun, hended, _, _, rfl, hQ, ⟨_, rfl⟩, hW, hsame.mono hk hs⟩
theorem own_cat {v : Value} (q : v.isRef = true) : v.category = 1 := by
  rcases ref_cases q with rfl | ⟨z, rfl⟩ <;> rfl
/-- what a body is asked for: it is called with the arguments as', over the heap h0 -/
abbrev own_Met (l : Launch) (Z : State) (y : MethodName) (bytes : ByteArray) (maxL : Nat) (ret : Option FieldType) (ws : List Jvm.Cond) (rm : Room) (as' : Array Value) (h0 : Heap) (Q : Option Value → Heap → List Loc → Prop) : Prop :=
  MetFree l y (head1 (Jvm.Cond.code y bytes maxL ret :: ws) rm) (fun a U => a = as' ∧ Z.Warmed39 U.vm ∧ U.heap = h0) (fun _ _ _ _ _ => True) (fun _ U o U' => ∃ v L, o = .returned v ∧ Q v U'.heap L ∧ FrameEnd U o U' L rm.cells rm.slots)
/-- a body that leaves the heap as it was, and returns V -/
def own_P (Z : State) (h0 : Heap) (V : Value) (v : Option Value) (h : Heap) (L : List Loc) : Prop := v = some V ∧ Fr Z.heap.size L ∧ h = h0
theorem own_body {y : MethodName} {bytes : ByteArray} {maxL : Nat} {ret : Option FieldType} {ws : List Jvm.Cond} {rm : Room} {as' : Array Value} {h0 : Heap} {ls : Array Slot} (hn : plainFor y = true) (hf : ∀ m : MethodId, entryFrame m as' maxL = mkF m 0 ls [])
    (H : ∀ (p : Program) (e : Env) (s : State) (m : MethodId) (below : List Frame) (meth : Method) (c : Code) (T : State), Z.Warmed39 s.vm → p.tables.exec = Jvm.exec → c.code = bytes → c.maxLocals = maxL → s.vm.findClass y.cls = some m.cls → meth.name = y.name → meth.sig.returnType = ret → meth.locks = false →
      Stand p l e rm s m as' below meth c T [] 0 0 → T.heap = h0 → own_Go p e below s Q rm.cells rm.slots (T.setTop (mkF m 0 ls []))) : own_Met l Z y bytes maxL ret ws rm as' h0 Q := by
  refine MetFree.of_bodySF hn hisR ?_
  intro p e s m args below meth c s₁ Bd hml0 hP hK
  obtain ⟨rfl, hZ, hh⟩ := hP
  obtain ⟨s₂, o, h1, h2, h3, r⟩ := H p e s m below meth c s₁ hZ Bd.exec Bd.bytes hml0 (findClass_of_methodNamed Bd.named) (name_of_methodNamed Bd.named Bd.method).1 Bd.returns (BodyLoose.notSynchronized Bd) (Stand.of_body Bd) (by rw [← hh, Bd.state]; rfl)
  exact ⟨s₂, o, castTop (hf m) h1, h2, h3, r⟩
theorem own_callV (X : Stand p l e R s m args below meth c T locs cells slots) (hx : p.tables.exec = Jvm.exec) (hZ : Z.Warmed39 s.vm) {own C : String} {index : Nat} {y : MethodName} (hown : s.vm.findClass own = some m.cls)
    (w1 : (Jvm.Cond.methodLink own index y).before a0 Z = true) (w2 : (Jvm.Cond.declares y).before a0 Z = true) (w3 : (Jvm.Cond.selects C y y).before a0 Z = true) (w4 : (Jvm.Cond.instanceMethod y).before a0 Z = true) {bytes : ByteArray} {maxL : Nat} {ret : Option FieldType} (wc : (Jvm.Cond.code y bytes maxL ret).before a0 Z = true) (wz : (Jvm.Cond.initialized y.cls).before a0 Z = true)
    (hy : y.cls ≠ "java/lang/invoke/MethodHandle" ∧ y.cls ≠ "java/lang/invoke/VarHandle") {rm : Room} {b : Addr} {argsL rest : List Value} (hM : own_Met l Z y bytes maxL ret [] rm (.ref b :: argsL).toArray h Q) {W : Nat} (hf : rm.frames + 1 ≤ R.frames) (hl : W + (maxL + 11) + rm.locals ≤ R.locals)
    (eT : T.heap = h) (E : Exa Z h b C) {g : JFrame} (hg : g.method = m) (hsize : g.locals.size = c.maxLocals) (hlen : ∀ sig, parseMethodDescriptor y.desc = some sig → argsL.length = sig.parameters.length) (hstack : g.stack = argsL.reverse ++ .ref b :: rest)
    (hW : 2 * g.monitorRoom + (rest.map fun v => v.category).sum ≤ W) (hdg : decode c.code g.pc = .ok (.invokevirtual index, 3)) (hc : cells + rm.cells ≤ R.cells) (hs : slots + rm.slots ≤ R.slots) :
    ∃ v T' L', Stand p l e R s m args below meth c T' (locs ++ L') (cells + rm.cells) (slots + rm.slots) ∧ Q v T'.heap L' ∧ ∀ target, Steps p.tables e below (T'.setTop { g with pc := g.pc + 3, stack := v.toList ++ rest }) target → Steps p.tables e below (T.setTop g) target := by
  obtain ⟨cq, kq, qa, qb, qc⟩ := isOf hZ eT E
  obtain ⟨v, _, ⟨T8, L8, k8, n8⟩, -, X8, ⟨Lc8, hQ8, l8, y8, z8⟩, st8⟩ := X.virtualBack hx hown (mvT hZ w1) (mvT hZ w2) (notFace_of_selects (args := #[]) (mvT hZ w3)) (mvT hZ w3) (mvT hZ w4) hy (backOf (W := W) hM hZ wc wz hf hl) qa qc hg hsize (Steps.refl _) hlen hstack hW hdg (fun _ _ => ⟨rfl, eT, hc, hs⟩)
  dsimp only [Pt.U, Pt.locs, Pt.cells, Pt.slots] at X8 l8 y8 z8 st8 hQ8
  subst l8 y8 z8
  exact ⟨v, T8, Lc8, X8, hQ8, fun t q => st8.trans q⟩
theorem own_callS (X : Stand p l e R s m args below meth c T locs cells slots) (hx : p.tables.exec = Jvm.exec) (hZ : Z.Warmed39 s.vm) {own : String} {index : Nat} {y : MethodName} (hown : s.vm.findClass own = some m.cls)
    (w1 : (Jvm.Cond.methodLink own index y).before a0 Z = true) (w2 : (Jvm.Cond.static y).before a0 Z = true) {bytes : ByteArray} {maxL : Nat} {ret : Option FieldType} (wc : (Jvm.Cond.code y bytes maxL ret).before a0 Z = true) (wz : (Jvm.Cond.initialized y.cls).before a0 Z = true)
    (hy : y.cls ≠ "java/lang/invoke/MethodHandle" ∧ y.cls ≠ "java/lang/invoke/VarHandle") {rm : Room} {argsL rest : List Value} (hM : own_Met l Z y bytes maxL ret [] rm argsL.toArray h Q) {W : Nat} (hf : rm.frames + 1 ≤ R.frames) (hl : W + (maxL + 11) + rm.locals ≤ R.locals)
    (eT : T.heap = h) {g : JFrame} (hg : g.method = m) (hsize : g.locals.size = c.maxLocals) (hlen : ∀ sig, parseMethodDescriptor y.desc = some sig → argsL.length = sig.parameters.length) (hstack : g.stack = argsL.reverse ++ rest)
    (hW : 2 * g.monitorRoom + (rest.map fun v => v.category).sum ≤ W) (hdg : decode c.code g.pc = .ok (.invokestatic index, 3)) (hc : cells + rm.cells ≤ R.cells) (hs : slots + rm.slots ≤ R.slots) :
    ∃ v T' L', Stand p l e R s m args below meth c T' (locs ++ L') (cells + rm.cells) (slots + rm.slots) ∧ Q v T'.heap L' ∧ ∀ target, Steps p.tables e below (T'.setTop { g with pc := g.pc + 3, stack := v.toList ++ rest }) target → Steps p.tables e below (T.setTop g) target := by
  obtain ⟨v, _, ⟨T8, L8, k8, n8⟩, -, X8, ⟨Lc8, hQ8, l8, y8, z8⟩, st8⟩ := Jvm.LawKit.callS X hx hown (mvT hZ w1) (mvT hZ w2) (mvT hZ wz) (mvT hZ wc) hy (backOf (W := W) hM hZ wc wz hf hl) hg hsize hlen hstack hW hdg (fun _ _ => ⟨rfl, eT, hc, hs⟩)
  dsimp only [Pt.U, Pt.locs, Pt.cells, Pt.slots] at X8 l8 y8 z8 st8 hQ8
  subst l8 y8 z8
  exact ⟨v, T8, Lc8, X8, hQ8, st8⟩
theorem own_callI (X : Stand p l e R s m args below meth c T locs cells slots) (hx : p.tables.exec = Jvm.exec) (hZ : Z.Warmed39 s.vm) {own : String} {index : Nat} {y : MethodName} (hy1 : y.name = "<init>") (hown : s.vm.findClass own = some m.cls)
    (w1 : (Jvm.Cond.methodLink own index y).before a0 Z = true) (w2 : (Jvm.Cond.instanceMethod y).before a0 Z = true) {bytes : ByteArray} {maxL : Nat} (wc : (Jvm.Cond.code y bytes maxL none).before a0 Z = true) (wz : (Jvm.Cond.initialized y.cls).before a0 Z = true)
    (hy : y.cls ≠ "java/lang/invoke/MethodHandle" ∧ y.cls ≠ "java/lang/invoke/VarHandle") {rm : Room} {b : Addr} {argsL rest : List Value} (hM : own_Met l Z y bytes maxL none [] rm (.ref b :: argsL).toArray h Q) {W : Nat} (hf : rm.frames + 1 ≤ R.frames) (hl : W + (maxL + 11) + rm.locals ≤ R.locals)
    (eT : T.heap = h) {g : JFrame} (hg : g.method = m) (hsize : g.locals.size = c.maxLocals) (hlen : ∀ sig, parseMethodDescriptor y.desc = some sig → argsL.length = sig.parameters.length) (hstack : g.stack = argsL.reverse ++ .ref b :: rest)
    (hW : 2 * g.monitorRoom + (rest.map fun v => v.category).sum ≤ W) (hdg : decode c.code g.pc = .ok (.invokespecial index, 3)) (hc : cells + rm.cells ≤ R.cells) (hs : slots + rm.slots ≤ R.slots) :
    ∃ v T' L', Stand p l e R s m args below meth c T' (locs ++ L') (cells + rm.cells) (slots + rm.slots) ∧ Q v T'.heap L' ∧ ∀ target, Steps p.tables e below (T'.setTop { g with pc := g.pc + 3, stack := v.toList ++ rest }) target → Steps p.tables e below (T.setTop g) target := by
  obtain ⟨v, _, ⟨T8, L8, k8, n8⟩, -, X8, ⟨Lc8, hQ8, l8, y8, z8⟩, st8⟩ := X.specialBack hx hy1 hown (mvT hZ w1) (mvT hZ w2) (mvT hZ wc) hy (backOf (W := W) hM hZ wc wz hf hl) hg hsize (Steps.refl _) hlen hstack hW hdg (fun _ _ => ⟨rfl, eT, hc, hs⟩)
  dsimp only [Pt.U, Pt.locs, Pt.cells, Pt.slots] at X8 l8 y8 z8 st8 hQ8
  subst l8 y8 z8
  exact ⟨v, T8, Lc8, X8, hQ8, fun t q => st8.trans q⟩
theorem own_ldcI (X : Stand p l e R s m args below meth c T locs cells slots) (hx : p.tables.exec = Jvm.exec) (hZ : Z.Warmed39 s.vm) {own : String} {index : Nat} {v : Int32} (hown : s.vm.findClass own = some m.cls) (w : (Jvm.Cond.constant own index v).before a0 Z = true)
    {g : JFrame} (hg : g.method = m) (hd : decode c.code g.pc = .ok (.ldc index, 2)) : ∀ target, Steps p.tables e below (T.setTop { g with pc := g.pc + 2, stack := .int v :: g.stack }) target → Steps p.tables e below (T.setTop g) target := X.ldcInt hx hown (mvT hZ w) hg hd
theorem own_ldcJ (X : Stand p l e R s m args below meth c T locs cells slots) (hx : p.tables.exec = Jvm.exec) (hZ : Z.Warmed39 s.vm) {own : String} {index : Nat} {v : Int64} (hown : s.vm.findClass own = some m.cls) (w : (Jvm.Cond.constantLong own index v).before a0 Z = true)
    {g : JFrame} (hg : g.method = m) (hd : decode c.code g.pc = .ok (.ldc2_w index, 3)) : ∀ target, Steps p.tables e below (T.setTop { g with pc := g.pc + 3, stack := .long v :: g.stack }) target → Steps p.tables e below (T.setTop g) target := X.ldc2Long hx hown (mvT hZ w) hg hd
/-! arrays: what stands in them, as a list -/
def own_Ar (Z : State) (h : Heap) (a : Addr) (kc : ClassId) (ty : FieldType) (vs : List Value) : Prop := ∃ c : Cell, Arr Z h a c ty ∧ c.cls = kc ∧ c.slots.toList = vs
variable {a b : Addr} {kc : ClassId} {ty : FieldType} {vs vs' : List Value} {v : Value} {i : Nat}
theorem own_Ar.new {z : Int32} (A : Arr Z h a (newA kc ty z) ty) (hz : List.replicate z.toNatClampNeg (defaultValue ty) = vs) : own_Ar Z h a kc ty vs := ⟨_, A, rfl, by rw [← hz]; simp [newA]⟩
theorem own_Ar.set (W : Wr h h' a i v) (F : own_Ar Z h a kc ty vs) (hv : vs.set i v = vs') : own_Ar Z h' a kc ty vs' := by
  obtain ⟨c, A, q, r⟩ := F
  exact ⟨_, A.same W, q, by rw [← hv, ← r]; simp [Cell.setSlot]⟩
theorem own_Ar.other (W : Wr h h' b i v) (F : own_Ar Z h a kc ty vs) (q : a ≠ b) : own_Ar Z h' a kc ty vs := by
  obtain ⟨c, A, r⟩ := F
  exact ⟨c, A.other W q, r⟩
theorem own_Ar.ext (E : Ext h h') (F : own_Ar Z h a kc ty vs) : own_Ar Z h' a kc ty vs := by
  obtain ⟨c, A, r⟩ := F
  exact ⟨c, A.ext E, r⟩
theorem own_Ar.lt (F : own_Ar Z h a kc ty vs) : a < h.size := by
  obtain ⟨c, A, r⟩ := F
  exact A.lt
theorem own_ext_trans {h'' : Heap} (E : Ext h h') (E' : Ext h' h'') : Ext h h'' := ⟨Nat.le_trans E.1 E'.1, fun a c q => E'.2 a c (E.2 a c q)⟩
theorem own_ext_wr {h0 : Heap} (E : Ext h0 h) (W : Wr h h' a i v) (q : h0.size ≤ a) : Ext h0 h' := by
  refine ⟨Nat.le_trans E.1 (Nat.le_of_eq W.size.symm), fun x cx hc => ?_⟩
  obtain ⟨c', e1, -, -, -, e5, -⟩ := wr_at W (E.2 x cx hc)
  have ne : x ≠ a := fun z => by
    have := (Array.getElem?_eq_some_iff.mp hc).1
    subst z
    exact absurd this (Nat.not_lt.mpr q)
  rw [← e5 ne]; exact e1
theorem own_inb {c : Cell} {j : Int32} (r : c.slots.toList = vs) (hj : ¬ j < 0) (hv : vs[j.toNatClampNeg]? = some v) : ¬ (j < 0 ∨ c.slots.size ≤ j.toNatClampNeg) ∧ c.slots[j.toNatClampNeg]? = some v := by
  have q : c.slots[j.toNatClampNeg]? = some v := by rw [← hv, ← r, Array.getElem?_toList]
  refine ⟨fun z => ?_, q⟩
  rcases z with z | z
  · exact hj z
  · exact absurd (Array.getElem?_eq_some_iff.mp q).1 (Nat.not_lt.mpr z)
theorem own_aaload (X : Stand p l e R s m args below meth c T locs cells slots) (hx : p.tables.exec = Jvm.exec) (hZ : Z.Warmed39 s.vm) (eT : T.heap = h) (F : own_Ar Z h a kc ty vs) (hty : ty.isReference = true) {j : Int32} (hj : ¬ j < 0) (hv : vs[j.toNatClampNeg]? = some v)
    {g : JFrame} (hg : g.method = m) {rest : List Value} (hs : g.stack = .int j :: .ref a :: rest) (hd : decode c.code g.pc = .ok (.aaload, 1)) : ∀ target, Steps p.tables e below (T.setTop { g with pc := g.pc + 1, stack := v :: rest }) target → Steps p.tables e below (T.setTop g) target := by
  obtain ⟨cl, A, -, r⟩ := F
  obtain ⟨q1, q2⟩ := own_inb r hj hv
  exact X.aaload hx (by rw [eT]; exact A.1) (State.isArrayOf_alike hZ.alike A.2.1) hty A.2.2 q1 q2 hg hs hd
theorem own_iaload (X : Stand p l e R s m args below meth c T locs cells slots) (hx : p.tables.exec = Jvm.exec) (hZ : Z.Warmed39 s.vm) (eT : T.heap = h) (F : own_Ar Z h a kc .int vs) {j : Int32} (hj : ¬ j < 0) (hv : vs[j.toNatClampNeg]? = some v)
    {g : JFrame} (hg : g.method = m) {rest : List Value} (hs : g.stack = .int j :: .ref a :: rest) (hd : decode c.code g.pc = .ok (.iaload, 1)) : ∀ target, Steps p.tables e below (T.setTop { g with pc := g.pc + 1, stack := v :: rest }) target → Steps p.tables e below (T.setTop g) target := by
  obtain ⟨cl, A, -, r⟩ := F
  obtain ⟨q1, q2⟩ := own_inb r hj hv
  exact fun t k => X.iaload hx (by rw [eT]; exact A.1) (State.isArrayOf_alike hZ.alike A.2.1) A.2.2 q1 q2 hg hs hd t k
theorem own_zaload (X : Stand p l e R s m args below meth c T locs cells slots) (hx : p.tables.exec = Jvm.exec) (hZ : Z.Warmed39 s.vm) (eT : T.heap = h) (F : own_Ar Z h a kc .boolean vs) {j : Int32} (hj : ¬ j < 0) (hv : vs[j.toNatClampNeg]? = some v)
    {g : JFrame} (hg : g.method = m) {rest : List Value} (hs : g.stack = .int j :: .ref a :: rest) (hd : decode c.code g.pc = .ok (.baload, 1)) : ∀ target, Steps p.tables e below (T.setTop { g with pc := g.pc + 1, stack := v :: rest }) target → Steps p.tables e below (T.setTop g) target := by
  obtain ⟨cl, A, -, r⟩ := F
  obtain ⟨q1, q2⟩ := own_inb r hj hv
  exact fun t k => X.baloadBooleans hx (by rw [eT]; exact A.1) (State.isArrayOf_alike hZ.alike A.2.1) A.2.2 q1 q2 hg hs hd t k
theorem own_alen (X : Stand p l e R s m args below meth c T locs cells slots) (hx : p.tables.exec = Jvm.exec) (hZ : Z.Warmed39 s.vm) (eT : T.heap = h) (F : own_Ar Z h a kc ty vs) {z : Int32} (hz : vs.length.toInt32 = z)
    {g : JFrame} (hg : g.method = m) {rest : List Value} (hs : g.stack = .ref a :: rest) (hd : decode c.code g.pc = .ok (.arraylength, 1)) : ∀ target, Steps p.tables e below (T.setTop { g with pc := g.pc + 1, stack := .int z :: rest }) target → Steps p.tables e below (T.setTop g) target := by
  obtain ⟨cl, A, -, r⟩ := F
  have q : cl.slots.size.toInt32 = z := by rw [← hz, ← r]; simp
  subst q
  exact fun t k => X.arraylength hx (by rw [eT]; exact A.1) (State.isArrayOf_alike hZ.alike A.2.1) hg hs hd t k
theorem own_stin {c : Cell} {j : Int32} (r : c.slots.toList = vs) (hj : ¬ j < 0) (hi : j.toNatClampNeg = i) (hlt : i < vs.length) : ¬ (j < 0 ∨ c.slots.size ≤ j.toNatClampNeg) := by
  have q : c.slots.size = vs.length := by rw [← r]; simp
  rintro (z | z)
  · exact hj z
  · omega
theorem own_stR (X : Stand p l e R s m args below meth c T locs cells slots) (hx : p.tables.exec = Jvm.exec) (hZ : Z.Warmed39 s.vm) (eT : T.heap = h) {C : String} (F : own_Ar Z h a kc (.object C) vs) (O : Ovr Z kc C) {y : Addr} (I : Exa Z h y C) {j : Int32} (i : Nat) (vs' : List Value) (hj : ¬ j < 0) (hi : j.toNatClampNeg = i) (hlt : i < vs.length) (hv : vs.set i (.ref y) = vs')
    (Ex : Ext Z.heap h) (ha : Z.heap.size ≤ a) (N : Fr Z.heap.size locs) {g : JFrame} (hg : g.method = m) {rest : List Value} (hs : g.stack = .ref y :: .int j :: .ref a :: rest) (hd : decode c.code g.pc = .ok (.aastore, 1)) :
    ∃ T' h' locs', Stand p l e R s m args below meth c T' locs' cells slots ∧ T'.heap = h' ∧ own_Ar Z h' a kc (.object C) vs' ∧ Ext Z.heap h' ∧ Fr Z.heap.size locs' ∧ Wr h h' a i (.ref y) ∧ ∀ target, Steps p.tables e below (T'.setTop { g with pc := g.pc + 1, stack := rest }) target → Steps p.tables e below (T.setTop g) target := by
  obtain ⟨cl, A, q, r⟩ := F
  obtain ⟨T', h', X', e', W', st⟩ := stR X hx hZ eT A (own_stin r hj hi hlt) rfl (Sto.of A (q ▸ O) (Ins.self I)) hg hs hd
  rw [hi] at W'
  exact ⟨T', h', _, X', e', own_Ar.set W' ⟨cl, A, q, r⟩ hv, own_ext_wr Ex W' ha, Fr.snoc X' N ha, W', st⟩
theorem own_stI (X : Stand p l e R s m args below meth c T locs cells slots) (hx : p.tables.exec = Jvm.exec) (hZ : Z.Warmed39 s.vm) (eT : T.heap = h) (F : own_Ar Z h a kc .int vs) {x j : Int32} (i : Nat) (vs' : List Value) (hj : ¬ j < 0) (hi : j.toNatClampNeg = i) (hlt : i < vs.length) (hv : vs.set i (.int x) = vs')
    (Ex : Ext Z.heap h) (ha : Z.heap.size ≤ a) (N : Fr Z.heap.size locs) {g : JFrame} (hg : g.method = m) {rest : List Value} (hs : g.stack = .int x :: .int j :: .ref a :: rest) (hd : decode c.code g.pc = .ok (.iastore, 1)) :
    ∃ T' h' locs', Stand p l e R s m args below meth c T' locs' cells slots ∧ T'.heap = h' ∧ own_Ar Z h' a kc .int vs' ∧ Ext Z.heap h' ∧ Fr Z.heap.size locs' ∧ Wr h h' a i (.int x) ∧ ∀ target, Steps p.tables e below (T'.setTop { g with pc := g.pc + 1, stack := rest }) target → Steps p.tables e below (T.setTop g) target := by
  obtain ⟨cl, A, q, r⟩ := F
  obtain ⟨T', h', X', e', W', st⟩ := stI X hx hZ eT A (own_stin r hj hi hlt) hg hs hd
  rw [hi] at W'
  exact ⟨T', h', _, X', e', own_Ar.set W' ⟨cl, A, q, r⟩ hv, own_ext_wr Ex W' ha, Fr.snoc X' N ha, W', st⟩
theorem own_stZ (X : Stand p l e R s m args below meth c T locs cells slots) (hx : p.tables.exec = Jvm.exec) (hZ : Z.Warmed39 s.vm) (eT : T.heap = h) (F : own_Ar Z h a kc .boolean vs) {x j : Int32} (i : Nat) (vs' : List Value) (hj : ¬ j < 0) (hi : j.toNatClampNeg = i) (hlt : i < vs.length) (hn : nar .boolean x = x) (hv : vs.set i (.int x) = vs')
    (Ex : Ext Z.heap h) (ha : Z.heap.size ≤ a) (N : Fr Z.heap.size locs) {g : JFrame} (hg : g.method = m) {rest : List Value} (hs : g.stack = .int x :: .int j :: .ref a :: rest) (hd : decode c.code g.pc = .ok (.bastore, 1)) :
    ∃ T' h' locs', Stand p l e R s m args below meth c T' locs' cells slots ∧ T'.heap = h' ∧ own_Ar Z h' a kc .boolean vs' ∧ Ext Z.heap h' ∧ Fr Z.heap.size locs' ∧ Wr h h' a i (.int x) ∧ ∀ target, Steps p.tables e below (T'.setTop { g with pc := g.pc + 1, stack := rest }) target → Steps p.tables e below (T.setTop g) target := by
  obtain ⟨cl, A, q, r⟩ := F
  obtain ⟨T', h', X', e', W', st⟩ := stZ X hx hZ eT A (own_stin r hj hi hlt) hg hs hd
  rw [hi, hn] at W'
  exact ⟨T', h', _, X', e', own_Ar.set W' ⟨cl, A, q, r⟩ hv, own_ext_wr Ex W' ha, Fr.snoc X' N ha, W', st⟩
theorem own_newR (X : Stand p l e R s m args below meth c T locs cells slots) (hx : p.tables.exec = Jvm.exec) (hZ : Z.Warmed39 s.vm) {own C : String} {index : Nat} (hown : s.vm.findClass own = some m.cls) (w1 : (Jvm.Cond.classLink own index C).before a0 Z = true) (w2 : (Jvm.Cond.arrayOver (.object C)).before a0 Z = true)
    (eT : T.heap = h) (Ex : Ext Z.heap h) {g : JFrame} (hg : g.method = m) (hd : decode c.code g.pc = .ok (.anewarray index, 3)) {z : Int32} {rest : List Value} (hs : g.stack = .int z :: rest) (hn : ¬ z < 0) (vs : List Value) (hz : List.replicate z.toNatClampNeg (.null : Value) = vs) {cap : Nat} (hcap : z.toNatClampNeg ≤ cap) (hb : cap * 8 ≤ 536870912) (hc : cells + 1 ≤ R.cells) (hl : slots + cap ≤ R.slots) :
    ∃ T' h' kc a, Stand p l e R s m args below meth c T' locs (cells + 1) (slots + cap) ∧ T'.heap = h' ∧ Ext h h' ∧ Ext Z.heap h' ∧ own_Ar Z h' a kc (.object C) vs ∧ Ovr Z kc C ∧ Z.heap.size ≤ a ∧ h.size = a ∧
      ∀ target, Steps p.tables e below (T'.setTop { g with pc := g.pc + 3, stack := .ref a :: rest }) target → Steps p.tables e below (T.setTop g) target := by
  obtain ⟨T', h', kc, X', e', E', A', O', st⟩ := newR X hx hZ hown w1 w2 eT hg hd hs hn hcap hb hc hl
  exact ⟨T', h', kc, h.size, X', e', E', own_ext_trans Ex E', own_Ar.new A' hz, O', Ex.1, rfl, st⟩
theorem own_newP (X : Stand p l e R s m args below meth c T locs cells slots) (hx : p.tables.exec = Jvm.exec) (hZ : Z.Warmed39 s.vm) {aty : ArrayType} (ty : FieldType) (hty : newarray.typeOf aty = ty) (w : (Jvm.Cond.arrayClass ty).before a0 Z = true)
    (eT : T.heap = h) (Ex : Ext Z.heap h) {g : JFrame} (hg : g.method = m) (hd : decode c.code g.pc = .ok (.newarray aty, 2)) {z : Int32} {rest : List Value} (hs : g.stack = .int z :: rest) (hn : ¬ z < 0) (vs : List Value) (hz : List.replicate z.toNatClampNeg (defaultValue ty) = vs) {cap : Nat} (hcap : z.toNatClampNeg ≤ cap) (hb : cap * 8 ≤ 536870912) (hc : cells + 1 ≤ R.cells) (hl : slots + cap ≤ R.slots) :
    ∃ T' h' kc a, Stand p l e R s m args below meth c T' locs (cells + 1) (slots + cap) ∧ T'.heap = h' ∧ Ext h h' ∧ Ext Z.heap h' ∧ own_Ar Z h' a kc ty vs ∧ Z.heap.size ≤ a ∧ h.size = a ∧
      ∀ target, Steps p.tables e below (T'.setTop { g with pc := g.pc + 2, stack := .ref a :: rest }) target → Steps p.tables e below (T.setTop g) target := by
  subst hty
  obtain ⟨T', h', kc, X', e', E', A', st⟩ := newP X hx hZ w eT hg hd hs hn hcap hb hc hl
  exact ⟨T', h', kc, h.size, X', e', E', own_ext_trans Ex E', own_Ar.new A' hz, Ex.1, rfl, st⟩
theorem own_Ar.keep {ws : List Addr} (K : Keep h h' ws) (F : own_Ar Z h a kc ty vs) (q : a ∉ ws) : own_Ar Z h' a kc ty vs := by
  obtain ⟨c, A, r⟩ := F
  exact ⟨c, ⟨K.2.1 a c A.1 q, A.2⟩, r⟩
/-! objects -/
theorem own_new (X : Stand p l e R s m args below meth c T locs cells slots) (hx : p.tables.exec = Jvm.exec) (hZ : Z.Warmed39 s.vm) {own C : String} {index n : Nat} (hown : s.vm.findClass own = some m.cls) (w : (Jvm.Cond.classLink own index C).before a0 Z = true) (wi : (Jvm.Cond.instantiable C n).before a0 Z = true) (wz : (Jvm.Cond.initialized C).before a0 Z = true) (eT : T.heap = h) (Ex : Ext Z.heap h)
    {g : JFrame} (hg : g.method = m) (hd : decode c.code g.pc = .ok (.new index, 3)) (hc : cells + 1 ≤ R.cells) (hl : slots + n ≤ R.slots) :
    ∃ T' h' a, Stand p l e R s m args below meth c T' locs (cells + 1) (slots + n) ∧ T'.heap = h' ∧ Ext h h' ∧ Ext Z.heap h' ∧ Exa Z h' a C ∧ (∀ {O nm d : String} {ty : FieldType}, Laid Z a0 C O nm d → parseFieldDescriptor d = some ty → Fld Z h' a O nm d (defaultValue ty)) ∧ Z.heap.size ≤ a ∧ h.size = a ∧
      ∀ target, Steps p.tables e below (T'.setTop { g with pc := g.pc + 3, stack := .ref a :: g.stack }) target → Steps p.tables e below (T.setTop g) target := by
  obtain ⟨T', h', X', e', E', A', D', -, st⟩ := newO X hx hZ hown w wi wz eT hg hd hc hl
  exact ⟨T', h', h.size, X', e', E', own_ext_trans Ex E', A', D', Ex.1, rfl, st⟩
theorem own_putF (X : Stand p l e R s m args below meth c T locs cells slots) (hx : p.tables.exec = Jvm.exec) (hZ : Z.Warmed39 s.vm) {own R0 O nm d C : String} {index kk : Nat} {ty : FieldType} (hown : s.vm.findClass own = some m.cls) (w : (Jvm.Cond.fieldLink own index R0 nm d).before a0 Z = true) (via : Via Z R0 O nm d)
    (eT : T.heap = h) {v old : Value} (F : Fld Z h a O nm d old) (E : Exa Z h a C) (L : (Jvm.Cond.lays C O nm d).before a0 Z = true ∨ ((Jvm.Cond.laysFinal C O nm d).before a0 Z = true ∧ own = O ∧ meth.name = "<init>")) (wi : (Jvm.Cond.instantiable C kk).before a0 Z = true)
    (hty : parseFieldDescriptor d = some ty) (hn : narrow ty v = v) (hf : fits ty v = true) (Ex : Ext Z.heap h) (ha : Z.heap.size ≤ a) (N : Fr Z.heap.size locs) {g : JFrame} (hg : g.method = m) {rest : List Value} (hs : g.stack = v :: .ref a :: rest) (hd : decode c.code g.pc = .ok (.putfield index, 3)) :
    ∃ T' h' locs', Stand p l e R s m args below meth c T' locs' cells slots ∧ T'.heap = h' ∧ Fld Z h' a O nm d v ∧ Exa Z h' a C ∧ Ext Z.heap h' ∧ Fr Z.heap.size locs' ∧ Wr h h' a (Jvm.RoadKit.slotOf Z O nm d) v ∧ ∀ target, Steps p.tables e below (T'.setTop { g with pc := g.pc + 3, stack := rest }) target → Steps p.tables e below (T.setTop g) target := by
  obtain ⟨T', h', X', e', W', st⟩ := putF X hx hZ hown (host := "") (Or.inl w) via eT F E L wi hty hn hf hg hs hd
  exact ⟨T', h', _, X', e', Fld.same W' F, Exa.wr W' E, own_ext_wr Ex W' ha, Fr.snoc X' N ha, W', st⟩
/-! from the case's words to facts on the heap -/
theorem own_exa {C nm d K : String} (hn : (Jvm.Cond.exactly (.static C nm d) K).value args s none s [] = some true) (w1 : (Jvm.Cond.initialized C).before args s = true) (w2 : (Jvm.Cond.laysStatic C nm d).before args s = true) :
    ∃ w, (Term.static C nm d).eval args s none [] s = some (.ref w) ∧ Sta s s.heap C nm d (.ref w) ∧ Exa s s.heap w K := by
  obtain ⟨w, ev⟩ := exa_v hn
  exact ⟨w, ev, Sta.start ev (Or.inr ⟨w1, w2⟩), Exa.start ev hn⟩
theorem own_fldI {t : Term} {O f d : String} {w : Addr} {z : Int32} (ev : t.eval args s none [] s = some (.ref w)) (hn : (Jvm.Cond.eq (.field t O f d) (.int z)).value args s none s [] = some true) : Fld s s.heap w O f d (.int z) := by
  obtain ⟨x, y, h1, h2, k1, k2⟩ := cmp_v (Or.inl hn)
  cases (Term.int_eval z).symm.trans h2
  obtain ⟨z', rfl⟩ := k2
  simp only [Cond.value, h1, h2] at hn
  have e1 : z' = z := by simpa using hn
  subst e1
  refine Fld.start ?_
  rw [← fld_at (C := O) (n := f) (dd := d) ev]
  exact h1
theorem own_fldJ {t : Term} {O f d : String} {w : Addr} {z : Int64} (ev : t.eval args s none [] s = some (.ref w)) (hn : (Jvm.Cond.eq (.field t O f d) (.long z)).value args s none s [] = some true) : Fld s s.heap w O f d (.long z) := by
  obtain ⟨x, y, h1, h2, k1, k2⟩ := cmp_v (Or.inl hn)
  cases (show (Term.long z).eval args s none [] s = some (.long z) from rfl).symm.trans h2
  obtain ⟨z', rfl⟩ := k2
  simp only [Cond.value, h1, h2] at hn
  have e1 : z' = z := by simpa using hn
  subst e1
  refine Fld.start ?_
  rw [← fld_at (C := O) (n := f) (dd := d) ev]
  exact h1
theorem own_fld_inj {C nm d : String} {w w' : Value} (F : Fld Z h a C nm d w) (G : Fld Z h a C nm d w') : w = w' := by
  by_cases q : w = w'
  · exact q
  · exact absurd rfl (Fld.ne F G q)
theorem own_idx (x d : Int32) (hd : 0 < d.toInt) : 0 ≤ ((x &&& 2147483647) % d).toInt ∧ ((x &&& 2147483647) % d).toInt < d.toInt := by
  have h := c_mask x 2147483647 31 (by decide) (by decide)
  have h0 : 0 ≤ (x &&& 2147483647).toInt := by omega
  have q := (c_iremV (x &&& 2147483647) d).1 h0 hd
  exact ⟨q.1, q.2.1⟩
theorem own_bm32 {x : Int} (h0 : -2147483648 ≤ x) (h1 : x < 2147483648) : x.bmod (2 ^ 32) = x := Int.bmod_eq_of_le (by omega) (by omega)
theorem own_bm64 {x : Int} (h0 : -9223372036854775808 ≤ x) (h1 : x < 9223372036854775808) : x.bmod (2 ^ 64) = x := Int.bmod_eq_of_le (by omega) (by omega)
theorem own_iadd {x y : Int32} (h0 : -2147483648 ≤ x.toInt + y.toInt) (h1 : x.toInt + y.toInt < 2147483648) : (x + y).toInt = x.toInt + y.toInt := by rw [Int32.toInt_add, own_bm32 h0 h1]
theorem own_isub {x y : Int32} (h0 : -2147483648 ≤ x.toInt - y.toInt) (h1 : x.toInt - y.toInt < 2147483648) : (x - y).toInt = x.toInt - y.toInt := by rw [Int32.toInt_sub, own_bm32 h0 h1]
theorem own_lneg {x : Int64} (h0 : -9223372036854775808 ≤ -x.toInt) (h1 : -x.toInt < 9223372036854775808) : (-x).toInt = -x.toInt := by rw [Int64.toInt_neg, own_bm64 h0 h1]
theorem own_lmul {x y : Int64} (h0 : -9223372036854775808 ≤ x.toInt * y.toInt) (h1 : x.toInt * y.toInt < 9223372036854775808) : (x * y).toInt = x.toInt * y.toInt := by rw [Int64.toInt_mul, own_bm64 h0 h1]
theorem own_cl {x y : Int64} : XT.cmpL x y < 0 ↔ x < y := by
  have h : XT.cmpL x y = lcmpV x y := by simp [XT.cmpL, lcmpV]
  rw [h]; exact lc_lt x y
theorem own_cg {x y : Int64} : 0 < XT.cmpL x y ↔ y < x := by
  have h : XT.cmpL x y = lcmpV x y := by simp [XT.cmpL, lcmpV]
  rw [h]; exact lc_gt x y
theorem own_ce {x y : Int64} : XT.cmpL x y = 0 ↔ x = y := by
  have h : XT.cmpL x y = lcmpV x y := by simp [XT.cmpL, lcmpV]
  rw [h]; exact lc_eq x y
theorem own_short {x : Int32} (h0 : -32768 ≤ x.toInt) (h1 : x.toInt < 32768) : x.toInt16.toInt32 = x := by
  have h := c_i2s x
  exact Int32.toInt_inj.mp (by omega)
theorem own_nn {i : Int32} (q : 0 ≤ i.toInt) : ¬ i < 0 := by
  rw [Int32.lt_iff_toInt_lt]
  have h : (0 : Int32).toInt = 0 := by decide
  omega
theorem own_len {t : Term} {cl : Cell} {z : Int32} (ev : t.eval args s none [] s = some (.ref a)) (A : Arr s s.heap a cl ty) (hn : (Jvm.Cond.eq (.length t) (.int z)).value args s none s [] = some true) : cl.slots.size = z.toNatClampNeg := by
  have ha : s.arrayAt? a = some cl := Arr.fin (Vm.Alike.refl _) A
  by_cases hlt : cl.slots.size < 2147483648
  · have h3 := len_f ev ha hlt
    have e1 : cl.slots.size.toInt32 = z := by
      have h4 := Term.int_eval (args := args) (first := s) (o := none) (idx := []) (s := s) z
      simp only [Cond.value, h3, h4] at hn
      simpa using hn
    have h5 := len_toInt hlt
    have h6 := nat_of (own_nn (i := cl.slots.size.toInt32) (by omega))
    rw [← e1]
    omega
  · exfalso
    simp [Cond.value, Term.eval, ev, ha, hlt] at hn
theorem own_elem {t u : Term} {cl : Cell} {j : Int32} {x : Value} (ev : t.eval args s none [] s = some (.ref a)) (A : Arr s s.heap a cl ty) (hu : u.eval args s none [] s = some x) (hx : x.isRef = true) (hn : (Jvm.Cond.eq (.elem t (.int j)) u).value args s none s [] = some true) : cl.slots[j.toNatClampNeg]? = some x := by
  obtain ⟨v, y, h1, h2, k1, k2⟩ := cmp_v (Or.inl hn)
  cases hu.symm.trans h2
  have hv : v.isRef = true := by
    rcases ref_cases hx with rfl | ⟨q, rfl⟩ <;> cases v <;> simp [Kin, Value.isRef] at k1 k2 ⊢
  have e1 := gotT (eq_R h1 hu hv hx) hn
  subst e1
  exact (elem_in h1 ev (Term.int_eval j) A.1).2
theorem own_toList {cl : Cell} (hs : cl.slots.size = vs.length) (H : HasL cl 0 vs) : cl.slots.toList = vs := by
  refine List.ext_getElem? fun j => ?_
  rw [Array.getElem?_toList]
  by_cases q : j < vs.length
  · have := HasL.at (dv := .null) vs 0 H j q
    rw [Nat.zero_add] at this
    rw [this, List.getElem?_eq_getElem q]
    simp [List.getD, q]
  · rw [List.getElem?_eq_none (by omega), Array.getElem?_eq_none (by omega)]
theorem own_arr {C nm d : String} (hn : (Jvm.Cond.arrayOf (.static C nm d) ty).value args s none s [] = some true) (w1 : (Jvm.Cond.initialized C).before args s = true) (w2 : (Jvm.Cond.laysStatic C nm d).before args s = true) :
    ∃ w cl, (Term.static C nm d).eval args s none [] s = some (.ref w) ∧ Sta s s.heap C nm d (.ref w) ∧ Arr s s.heap w cl ty := by
  obtain ⟨w, ev⟩ := arr_v hn
  obtain ⟨cl, A⟩ := Arr.start ev hn
  exact ⟨w, cl, ev, Sta.start ev (Or.inr ⟨w1, w2⟩), A⟩
theorem own_and3 (x : Int32) : 0 ≤ (x &&& 3).toInt ∧ (x &&& 3).toInt < 4 := by
  have h := c_mask x 3 2 (by decide) (by decide)
  omega
end Own
end Jvm.Pilot.@@N@@
namespace Jvm.Pilot.@@N@@
open Jvm Jvm.ClassFile Sem Op Lib Jvm.Free Jvm.Stand Jvm.LawKit Jvm.RoadKit Bundle Jvm.Pilot.@@N@@.Jvm.D
theorem own_pd0 : parseMethodDescriptor "(I)Lcom/example/creditd/creditd/core/GiftType;" = some ⟨[.int], some (.object "com/example/creditd/creditd/core/GiftType")⟩ := by decide +kernel
theorem own_pd1 : parseMethodDescriptor "(J)Z" = some ⟨[.long], some .boolean⟩ := by decide +kernel
theorem own_pd2 : parseMethodDescriptor "(IJ)Z" = some ⟨[.int, .long], some .boolean⟩ := by decide +kernel
theorem d1_0 : decode method_2_code 0 = .ok (.iload_n 0, 1) := by decide +kernel
theorem d1_1 : decode method_2_code 1 = .ok (.ifCond .ne 7, 3) := by decide +kernel
theorem d1_4 : decode method_2_code 4 = .ok (.getstatic 7, 3) := by decide +kernel
theorem d1_7 : decode method_2_code 7 = .ok (.areturn, 1) := by decide +kernel
theorem d1_8 : decode method_2_code 8 = .ok (.iload_n 0, 1) := by decide +kernel
theorem d1_9 : decode method_2_code 9 = .ok (.iconst 1, 1) := by decide +kernel
theorem d1_10 : decode method_2_code 10 = .ok (.if_icmp .ne 7, 3) := by decide +kernel
theorem d1_13 : decode method_2_code 13 = .ok (.getstatic 13, 3) := by decide +kernel
theorem d1_16 : decode method_2_code 16 = .ok (.areturn, 1) := by decide +kernel
theorem d1_17 : decode method_2_code 17 = .ok (.iload_n 0, 1) := by decide +kernel
theorem d1_18 : decode method_2_code 18 = .ok (.iconst 2, 1) := by decide +kernel
theorem d1_19 : decode method_2_code 19 = .ok (.if_icmp .ne 7, 3) := by decide +kernel
theorem d1_22 : decode method_2_code 22 = .ok (.getstatic 16, 3) := by decide +kernel
theorem d1_25 : decode method_2_code 25 = .ok (.areturn, 1) := by decide +kernel
theorem d1_26 : decode method_2_code 26 = .ok (.iload_n 0, 1) := by decide +kernel
theorem d1_27 : decode method_2_code 27 = .ok (.iconst 3, 1) := by decide +kernel
theorem d1_28 : decode method_2_code 28 = .ok (.if_icmp .ne 7, 3) := by decide +kernel
theorem d1_31 : decode method_2_code 31 = .ok (.getstatic 19, 3) := by decide +kernel
theorem d1_34 : decode method_2_code 34 = .ok (.areturn, 1) := by decide +kernel
theorem d1_35 : decode method_2_code 35 = .ok (.getstatic 22, 3) := by decide +kernel
theorem d1_38 : decode method_2_code 38 = .ok (.areturn, 1) := by decide +kernel
theorem d2_0 : decode prog_12_method_6_code 0 = .ok (.lload_n 1, 1) := by decide +kernel
theorem d2_1 : decode prog_12_method_6_code 1 = .ok (.aload_n 0, 1) := by decide +kernel
theorem d2_2 : decode prog_12_method_6_code 2 = .ok (.getfield 38, 3) := by decide +kernel
theorem d2_5 : decode prog_12_method_6_code 5 = .ok (.lcmp, 1) := by decide +kernel
theorem d2_6 : decode prog_12_method_6_code 6 = .ok (.ifCond .lt 16, 3) := by decide +kernel
theorem d2_9 : decode prog_12_method_6_code 9 = .ok (.lload_n 1, 1) := by decide +kernel
theorem d2_10 : decode prog_12_method_6_code 10 = .ok (.aload_n 0, 1) := by decide +kernel
theorem d2_11 : decode prog_12_method_6_code 11 = .ok (.getfield 42, 3) := by decide +kernel
theorem d2_14 : decode prog_12_method_6_code 14 = .ok (.lcmp, 1) := by decide +kernel
theorem d2_15 : decode prog_12_method_6_code 15 = .ok (.ifCond .gt 7, 3) := by decide +kernel
theorem d2_18 : decode prog_12_method_6_code 18 = .ok (.iconst 1, 1) := by decide +kernel
theorem d2_19 : decode prog_12_method_6_code 19 = .ok (.goto 4, 3) := by decide +kernel
theorem d2_22 : decode prog_12_method_6_code 22 = .ok (.iconst 0, 1) := by decide +kernel
theorem d2_23 : decode prog_12_method_6_code 23 = .ok (.ireturn, 1) := by decide +kernel
theorem d3_0 : decode method_3_code 0 = .ok (.iload_n 0, 1) := by decide +kernel
theorem d3_1 : decode method_3_code 1 = .ok (.iconst 1, 1) := by decide +kernel
theorem d3_2 : decode method_3_code 2 = .ok (.if_icmp .ne 25, 3) := by decide +kernel
theorem d3_5 : decode method_3_code 5 = .ok (.lload_n 1, 1) := by decide +kernel
theorem d3_6 : decode method_3_code 6 = .ok (.ldc2_w 25, 3) := by decide +kernel
theorem d3_9 : decode method_3_code 9 = .ok (.lcmp, 1) := by decide +kernel
theorem d3_10 : decode method_3_code 10 = .ok (.ifCond .lt 15, 3) := by decide +kernel
theorem d3_13 : decode method_3_code 13 = .ok (.lload_n 1, 1) := by decide +kernel
theorem d3_14 : decode method_3_code 14 = .ok (.ldc2_w 27, 3) := by decide +kernel
theorem d3_17 : decode method_3_code 17 = .ok (.lcmp, 1) := by decide +kernel
theorem d3_18 : decode method_3_code 18 = .ok (.ifCond .gt 7, 3) := by decide +kernel
theorem d3_21 : decode method_3_code 21 = .ok (.iconst 1, 1) := by decide +kernel
theorem d3_22 : decode method_3_code 22 = .ok (.goto 4, 3) := by decide +kernel
theorem d3_25 : decode method_3_code 25 = .ok (.iconst 0, 1) := by decide +kernel
theorem d3_26 : decode method_3_code 26 = .ok (.ireturn, 1) := by decide +kernel
theorem d3_27 : decode method_3_code 27 = .ok (.iload_n 0, 1) := by decide +kernel
theorem d3_28 : decode method_3_code 28 = .ok (.iconst 2, 1) := by decide +kernel
theorem d3_29 : decode method_3_code 29 = .ok (.if_icmp .ne 23, 3) := by decide +kernel
theorem d3_32 : decode method_3_code 32 = .ok (.lload_n 1, 1) := by decide +kernel
theorem d3_33 : decode method_3_code 33 = .ok (.lconst 1, 1) := by decide +kernel
theorem d3_34 : decode method_3_code 34 = .ok (.lcmp, 1) := by decide +kernel
theorem d3_35 : decode method_3_code 35 = .ok (.ifCond .lt 15, 3) := by decide +kernel
theorem d3_38 : decode method_3_code 38 = .ok (.lload_n 1, 1) := by decide +kernel
theorem d3_39 : decode method_3_code 39 = .ok (.ldc2_w 27, 3) := by decide +kernel
theorem d3_42 : decode method_3_code 42 = .ok (.lcmp, 1) := by decide +kernel
theorem d3_43 : decode method_3_code 43 = .ok (.ifCond .gt 7, 3) := by decide +kernel
theorem d3_46 : decode method_3_code 46 = .ok (.iconst 1, 1) := by decide +kernel
theorem d3_47 : decode method_3_code 47 = .ok (.goto 4, 3) := by decide +kernel
theorem d3_50 : decode method_3_code 50 = .ok (.iconst 0, 1) := by decide +kernel
theorem d3_51 : decode method_3_code 51 = .ok (.ireturn, 1) := by decide +kernel
theorem d3_52 : decode method_3_code 52 = .ok (.lload_n 1, 1) := by decide +kernel
theorem d3_53 : decode method_3_code 53 = .ok (.lconst 1, 1) := by decide +kernel
theorem d3_54 : decode method_3_code 54 = .ok (.lcmp, 1) := by decide +kernel
theorem d3_55 : decode method_3_code 55 = .ok (.ifCond .ne 7, 3) := by decide +kernel
theorem d3_58 : decode method_3_code 58 = .ok (.iconst 1, 1) := by decide +kernel
theorem d3_59 : decode method_3_code 59 = .ok (.goto 4, 3) := by decide +kernel
theorem d3_62 : decode method_3_code 62 = .ok (.iconst 0, 1) := by decide +kernel
theorem d3_63 : decode method_3_code 63 = .ok (.ireturn, 1) := by decide +kernel
theorem own_pn0 : plainFor x = true := by first | exact plainFor_of_name (by first | (simp [plainName, overriddenIn]; done) | decide +kernel) | decide +kernel
theorem own_pn1 : plainFor (⟨"com/example/creditd/creditd/core/GiftTypeAdmitsPinLaw", "pick", "(I)Lcom/example/creditd/creditd/core/GiftType;"⟩ : MethodName) = true := by first | exact plainFor_of_name (by first | (simp [plainName, overriddenIn]; done) | decide +kernel) | decide +kernel
theorem own_pn2 : plainFor (⟨"com/example/creditd/creditd/core/GiftType", "admits", "(J)Z"⟩ : MethodName) = true := by first | exact plainFor_of_name (by first | (simp [plainName, overriddenIn]; done) | decide +kernel) | decide +kernel
theorem own_pn3 : plainFor (⟨"com/example/creditd/creditd/core/GiftTypeAdmitsPinLaw", "expected", "(IJ)Z"⟩ : MethodName) = true := by first | exact plainFor_of_name (by first | (simp [plainName, overriddenIn]; done) | decide +kernel) | decide +kernel
def Hyp (Z : State) (w : Nat → Addr) : Prop :=
  Sta Z Z.heap "com/example/creditd/creditd/core/GiftType" "SIMPLE" "Lcom/example/creditd/creditd/core/GiftType;" (.ref (w 0)) ∧
  Exa Z Z.heap (w 0) "com/example/creditd/creditd/core/GiftType" ∧
  Fld Z Z.heap (w 0) "com/example/creditd/creditd/core/GiftType" "maxPortions" "J" (.long (1 : Int64)) ∧
  Fld Z Z.heap (w 0) "com/example/creditd/creditd/core/GiftType" "minPortions" "J" (.long (1 : Int64)) ∧
  Sta Z Z.heap "com/example/creditd/creditd/core/GiftType" "SPLIT" "Lcom/example/creditd/creditd/core/GiftType;" (.ref (w 1)) ∧
  Exa Z Z.heap (w 1) "com/example/creditd/creditd/core/GiftType" ∧
  Fld Z Z.heap (w 1) "com/example/creditd/creditd/core/GiftType" "maxPortions" "J" (.long (100 : Int64)) ∧
  Fld Z Z.heap (w 1) "com/example/creditd/creditd/core/GiftType" "minPortions" "J" (.long (2 : Int64)) ∧
  Sta Z Z.heap "com/example/creditd/creditd/core/GiftType" "FIRST_COME" "Lcom/example/creditd/creditd/core/GiftType;" (.ref (w 2)) ∧
  Exa Z Z.heap (w 2) "com/example/creditd/creditd/core/GiftType" ∧
  Fld Z Z.heap (w 2) "com/example/creditd/creditd/core/GiftType" "maxPortions" "J" (.long (100 : Int64)) ∧
  Fld Z Z.heap (w 2) "com/example/creditd/creditd/core/GiftType" "minPortions" "J" (.long (1 : Int64)) ∧
  Sta Z Z.heap "com/example/creditd/creditd/core/GiftType" "PERSONALIZED" "Lcom/example/creditd/creditd/core/GiftType;" (.ref (w 3)) ∧
  Exa Z Z.heap (w 3) "com/example/creditd/creditd/core/GiftType" ∧
  Fld Z Z.heap (w 3) "com/example/creditd/creditd/core/GiftType" "maxPortions" "J" (.long (1 : Int64)) ∧
  Fld Z Z.heap (w 3) "com/example/creditd/creditd/core/GiftType" "minPortions" "J" (.long (1 : Int64)) ∧
  Sta Z Z.heap "com/example/creditd/creditd/core/GiftType" "RIDDLE" "Lcom/example/creditd/creditd/core/GiftType;" (.ref (w 4)) ∧
  Exa Z Z.heap (w 4) "com/example/creditd/creditd/core/GiftType" ∧
  Fld Z Z.heap (w 4) "com/example/creditd/creditd/core/GiftType" "maxPortions" "J" (.long (1 : Int64)) ∧
  Fld Z Z.heap (w 4) "com/example/creditd/creditd/core/GiftType" "minPortions" "J" (.long (1 : Int64))
theorem own_cases5 {i : Int32} (h0 : 0 ≤ i.toInt) (h1 : i.toInt < 5) : i = 0 ∨ i = 1 ∨ i = 2 ∨ i = 3 ∨ i = 4 := by
  have h : i.toInt = 0 ∨ i.toInt = 1 ∨ i.toInt = 2 ∨ i.toInt = 3 ∨ i.toInt = 4 := by omega
  rcases h with h | h | h | h | h <;> simp [← Int32.toInt_inj, h]
def own_pick (i : Int32) (w : Nat → Addr) : Addr := if i = 0 then w 0 else if i = 1 then w 1 else if i = 2 then w 2 else if i = 3 then w 3 else w 4
def own_mn (i : Int32) : Int64 := if i = 1 then 2 else 1
def own_mx (i : Int32) : Int64 := if i = 1 then 100 else if i = 2 then 100 else 1
def own_adm (mn mx n : Int64) : Int32 := if XT.cmpL n mn < 0 then 0 else if 0 < XT.cmpL n mx then 0 else 1
def own_exp (i : Int32) (n : Int64) : Int32 := if i = 1 then (if XT.cmpL n 2 < 0 then 0 else if 0 < XT.cmpL n 100 then 0 else 1) else if i = 2 then (if XT.cmpL n 1 < 0 then 0 else if 0 < XT.cmpL n 100 then 0 else 1) else if XT.cmpL n 1 = 0 then 1 else 0
theorem own_one (n : Int64) : own_adm 1 1 n = if XT.cmpL n 1 = 0 then 1 else 0 := by
  simp only [own_adm, own_cl, own_cg, own_ce]
  have h := @Int64.toInt_inj n 1
  have h1 : (1 : Int64).toInt = 1 := by decide
  by_cases q1 : n < 1
  · have q3 : ¬ n = 1 := fun z => by subst z; exact absurd q1 (by decide)
    simp [q1, q3]
  · by_cases q2 : 1 < n
    · have q3 : ¬ n = 1 := fun z => by subst z; exact absurd q2 (by decide)
      simp [q1, q2, q3]
    · have q3 : n = 1 := by rw [Int64.lt_iff_toInt_lt] at q1 q2; exact h.mp (by omega)
      simp [q3]
set_option maxRecDepth 65536 in
set_option maxHeartbeats 4000000 in
theorem rm1 (l : Launch) (Z : State) (a0 : Array Value) (hw : ∀ d ∈ tables_1, d.before a0 Z = true) (ws : List Jvm.Cond) (w : Nat → Addr) (H : Hyp Z w) (i : Int32) (h0 : Heap) (Ex0 : Ext Z.heap h0)  :
    own_Met l Z (⟨"com/example/creditd/creditd/core/GiftTypeAdmitsPinLaw", "pick", "(I)Lcom/example/creditd/creditd/core/GiftType;"⟩ : MethodName) method_2_code 1 (some (.object "com/example/creditd/creditd/core/GiftType")) ws ({ frames := 0, cells := 0, slots := 0, locals := 0 } : Room) #[(.int i)] h0 (own_P Z h0 (.ref (own_pick i w))) := by
  obtain ⟨sS0, sE0, sF0_maxPortions, sF0_minPortions, sS1, sE1, sF1_maxPortions, sF1_minPortions, sS2, sE2, sF2_maxPortions, sF2_minPortions, sS3, sE3, sF3_maxPortions, sF3_minPortions, sS4, sE4, sF4_maxPortions, sF4_minPortions⟩ := H
  refine own_body (ls := #[.val (.int i)]) own_pn1 (fun m => by first | (simp [entryFrame, mkF, argsToLocals, Value.category]; done) | rfl) ?_
  intro p e s m below meth c T0 hZ hx hby hml' hown' hnm hret' hlk X0 e0
  have hml : c.maxLocals = 1 := hml'
  have hown : s.vm.findClass "com/example/creditd/creditd/core/GiftTypeAdmitsPinLaw" = some m.cls := hown'
  have hret : meth.sig.returnType = (some (.object "com/example/creditd/creditd/core/GiftType")) := hret'
  have N0 := Fr.nil Z.heap.size
  refine own_step (S' := T0.setTop (mkF m 1 #[.val (.int i)] [(.int i)])) (fun t k => XS.iloadN X0.here hx rfl (hb hby d1_0) rfl k) ?_
  by_cases q1 : i = (0 : Int32)
  ·
    refine own_step (S' := T0.setTop (mkF m 4 #[.val (.int i)] [])) (fun t k => XS.ifNo X0.here hx rfl (hb hby d1_1) rfl ((if0 _ _).trans (teq (q1 : i = (0 : Int32))).2) k) ?_
    obtain ⟨T2, X2, e2, st2⟩ := getS2 X0 hx hZ hown (host := "") (Or.inl (hw _ (List.mem_of_getElem? (i := 7) rfl))) Via.refl e0 (sS0.ext Ex0) (g := (mkF m 4 #[.val (.int i)] [])) rfl (hb hby d1_4)
    refine own_step (S' := T2.setTop (mkF m 7 #[.val (.int i)] [(.ref (w 0))])) (fun t k => st2 t k) ?_
    exact own_retA X2 hx hlk hret rfl rfl (hb hby d1_7) (⟨by unfold own_pick; rw [if_pos q1], N0, e2⟩) (by decide) (by decide)
  ·
    refine own_step (S' := T0.setTop (mkF m 8 #[.val (.int i)] [])) (fun t k => XS.ifYes X0.here hx rfl (pc0 := 1) (pc' := 8) rfl (hb hby d1_1) rfl ((if0 _ _).trans (feq (q1 : ¬ (i = (0 : Int32)))).2) (by decide) (by decide) k) ?_
    refine own_step (S' := T0.setTop (mkF m 9 #[.val (.int i)] [(.int i)])) (fun t k => XS.iloadN X0.here hx rfl (hb hby d1_8) rfl k) ?_
    refine own_step (S' := T0.setTop (mkF m 10 #[.val (.int i)] [(.int (1 : Int32)), (.int i)])) (fun t k => XS.iconst X0.here hx rfl (hb hby d1_9) k) ?_
    by_cases q3 : i = (1 : Int32)
    ·
      refine own_step (S' := T0.setTop (mkF m 13 #[.val (.int i)] [])) (fun t k => XS.icmpNo X0.here hx rfl (hb hby d1_10) rfl (teq (q3 : i = (1 : Int32))).2 k) ?_
      obtain ⟨T4, X4, e4, st4⟩ := getS2 X0 hx hZ hown (host := "") (Or.inl (hw _ (List.mem_of_getElem? (i := 20) rfl))) Via.refl e0 (sS1.ext Ex0) (g := (mkF m 13 #[.val (.int i)] [])) rfl (hb hby d1_13)
      refine own_step (S' := T4.setTop (mkF m 16 #[.val (.int i)] [(.ref (w 1))])) (fun t k => st4 t k) ?_
      exact own_retA X4 hx hlk hret rfl rfl (hb hby d1_16) (⟨by unfold own_pick; rw [if_neg q1, if_pos q3], N0, e4⟩) (by decide) (by decide)
    ·
      refine own_step (S' := T0.setTop (mkF m 17 #[.val (.int i)] [])) (fun t k => XS.icmpYes X0.here hx rfl (pc0 := 10) (pc' := 17) rfl (hb hby d1_10) rfl (feq (q3 : ¬ (i = (1 : Int32)))).2 (by decide) (by decide) k) ?_
      refine own_step (S' := T0.setTop (mkF m 18 #[.val (.int i)] [(.int i)])) (fun t k => XS.iloadN X0.here hx rfl (hb hby d1_17) rfl k) ?_
      refine own_step (S' := T0.setTop (mkF m 19 #[.val (.int i)] [(.int (2 : Int32)), (.int i)])) (fun t k => XS.iconst X0.here hx rfl (hb hby d1_18) k) ?_
      by_cases q5 : i = (2 : Int32)
      ·
        refine own_step (S' := T0.setTop (mkF m 22 #[.val (.int i)] [])) (fun t k => XS.icmpNo X0.here hx rfl (hb hby d1_19) rfl (teq (q5 : i = (2 : Int32))).2 k) ?_
        obtain ⟨T6, X6, e6, st6⟩ := getS2 X0 hx hZ hown (host := "") (Or.inl (hw _ (List.mem_of_getElem? (i := 29) rfl))) Via.refl e0 (sS2.ext Ex0) (g := (mkF m 22 #[.val (.int i)] [])) rfl (hb hby d1_22)
        refine own_step (S' := T6.setTop (mkF m 25 #[.val (.int i)] [(.ref (w 2))])) (fun t k => st6 t k) ?_
        exact own_retA X6 hx hlk hret rfl rfl (hb hby d1_25) (⟨by unfold own_pick; rw [if_neg q1, if_neg q3, if_pos q5], N0, e6⟩) (by decide) (by decide)
      ·
        refine own_step (S' := T0.setTop (mkF m 26 #[.val (.int i)] [])) (fun t k => XS.icmpYes X0.here hx rfl (pc0 := 19) (pc' := 26) rfl (hb hby d1_19) rfl (feq (q5 : ¬ (i = (2 : Int32)))).2 (by decide) (by decide) k) ?_
        refine own_step (S' := T0.setTop (mkF m 27 #[.val (.int i)] [(.int i)])) (fun t k => XS.iloadN X0.here hx rfl (hb hby d1_26) rfl k) ?_
        refine own_step (S' := T0.setTop (mkF m 28 #[.val (.int i)] [(.int (3 : Int32)), (.int i)])) (fun t k => XS.iconst X0.here hx rfl (hb hby d1_27) k) ?_
        by_cases q7 : i = (3 : Int32)
        ·
          refine own_step (S' := T0.setTop (mkF m 31 #[.val (.int i)] [])) (fun t k => XS.icmpNo X0.here hx rfl (hb hby d1_28) rfl (teq (q7 : i = (3 : Int32))).2 k) ?_
          obtain ⟨T8, X8, e8, st8⟩ := getS2 X0 hx hZ hown (host := "") (Or.inl (hw _ (List.mem_of_getElem? (i := 27) rfl))) Via.refl e0 (sS3.ext Ex0) (g := (mkF m 31 #[.val (.int i)] [])) rfl (hb hby d1_31)
          refine own_step (S' := T8.setTop (mkF m 34 #[.val (.int i)] [(.ref (w 3))])) (fun t k => st8 t k) ?_
          exact own_retA X8 hx hlk hret rfl rfl (hb hby d1_34) (⟨by unfold own_pick; rw [if_neg q1, if_neg q3, if_neg q5, if_pos q7], N0, e8⟩) (by decide) (by decide)
        ·
          refine own_step (S' := T0.setTop (mkF m 35 #[.val (.int i)] [])) (fun t k => XS.icmpYes X0.here hx rfl (pc0 := 28) (pc' := 35) rfl (hb hby d1_28) rfl (feq (q7 : ¬ (i = (3 : Int32)))).2 (by decide) (by decide) k) ?_
          obtain ⟨T9, X9, e9, st9⟩ := getS2 X0 hx hZ hown (host := "") (Or.inl (hw _ (List.mem_of_getElem? (i := 25) rfl))) Via.refl e0 (sS4.ext Ex0) (g := (mkF m 35 #[.val (.int i)] [])) rfl (hb hby d1_35)
          refine own_step (S' := T9.setTop (mkF m 38 #[.val (.int i)] [(.ref (w 4))])) (fun t k => st9 t k) ?_
          exact own_retA X9 hx hlk hret rfl rfl (hb hby d1_38) (⟨by unfold own_pick; rw [if_neg q1, if_neg q3, if_neg q5, if_neg q7], N0, e9⟩) (by decide) (by decide)
set_option maxRecDepth 65536 in
set_option maxHeartbeats 4000000 in
theorem rm2 (l : Launch) (Z : State) (a0 : Array Value) (hw : ∀ d ∈ tables_1, d.before a0 Z = true) (ws : List Jvm.Cond) (a : Addr) (mn mx n : Int64) (h0 : Heap) (Ex0 : Ext Z.heap h0) (Fmn : Fld Z Z.heap a "com/example/creditd/creditd/core/GiftType" "minPortions" "J" (.long mn)) (Fmx : Fld Z Z.heap a "com/example/creditd/creditd/core/GiftType" "maxPortions" "J" (.long mx)) :
    own_Met l Z (⟨"com/example/creditd/creditd/core/GiftType", "admits", "(J)Z"⟩ : MethodName) prog_12_method_6_code 3 (some .boolean) ws ({ frames := 0, cells := 0, slots := 0, locals := 0 } : Room) #[(.ref a), (.long n)] h0 (own_P Z h0 (.int (own_adm mn mx n))) := by
  refine own_body (ls := #[.val (.ref a), .val (.long n), .second]) own_pn2 (fun m => by first | (simp [entryFrame, mkF, argsToLocals, Value.category]; done) | rfl) ?_
  intro p e s m below meth c T0 hZ hx hby hml' hown' hnm hret' hlk X0 e0
  have hml : c.maxLocals = 3 := hml'
  have hown : s.vm.findClass "com/example/creditd/creditd/core/GiftType" = some m.cls := hown'
  have hret : meth.sig.returnType = (some .boolean) := hret'
  have N0 := Fr.nil Z.heap.size
  refine own_step (S' := T0.setTop (mkF m 1 #[.val (.ref a), .val (.long n), .second] [(.long n)])) (fun t k => XT.lloadN X0.here hx rfl (hb hby d2_0) rfl k) ?_
  refine own_step (S' := T0.setTop (mkF m 2 #[.val (.ref a), .val (.long n), .second] [(.ref a), (.long n)])) (fun t k => XS.aloadN X0.here hx rfl (hb hby d2_1) rfl rfl k) ?_
  obtain ⟨T1, X1, e1, st1⟩ := getF X0 hx hZ hown (host := "") (Or.inl (hw _ (List.mem_of_getElem? (i := 15) rfl))) Via.refl e0 (Fmn.ext Ex0) (g := (mkF m 2 #[.val (.ref a), .val (.long n), .second] [(.ref a), (.long n)])) rfl rfl (hb hby d2_2)
  refine own_step (S' := T1.setTop (mkF m 5 #[.val (.ref a), .val (.long n), .second] [(.long mn), (.long n)])) (fun t k => st1 t k) ?_
  refine own_step (S' := T1.setTop (mkF m 6 #[.val (.ref a), .val (.long n), .second] [(.int (XT.cmpL n mn))])) (fun t k => XT.lcmp X1.here hx rfl (hb hby d2_5) rfl k) ?_
  by_cases q2 : (XT.cmpL n mn) < (0 : Int32)
  ·
    refine own_step (S' := T1.setTop (mkF m 22 #[.val (.ref a), .val (.long n), .second] [])) (fun t k => XS.ifYes X1.here hx rfl (pc0 := 6) (pc' := 22) rfl (hb hby d2_6) rfl ((if0 _ _).trans (tlt (q2 : (XT.cmpL n mn) < (0 : Int32))).1) (by decide) (by decide) k) ?_
    refine own_step (S' := T1.setTop (mkF m 23 #[.val (.ref a), .val (.long n), .second] [(.int (0 : Int32))])) (fun t k => XS.iconst X1.here hx rfl (hb hby d2_22) k) ?_
    exact own_retI (t := .boolean) X1 hx hlk hret (Or.inr (Or.inl rfl)) rfl (hb hby d2_23) (⟨by unfold own_adm; rw [if_pos q2], N0, e1⟩) (by decide) (by decide)
  ·
    refine own_step (S' := T1.setTop (mkF m 9 #[.val (.ref a), .val (.long n), .second] [])) (fun t k => XS.ifNo X1.here hx rfl (hb hby d2_6) rfl ((if0 _ _).trans (flt (q2 : ¬ ((XT.cmpL n mn) < (0 : Int32)))).1) k) ?_
    refine own_step (S' := T1.setTop (mkF m 10 #[.val (.ref a), .val (.long n), .second] [(.long n)])) (fun t k => XT.lloadN X1.here hx rfl (hb hby d2_9) rfl k) ?_
    refine own_step (S' := T1.setTop (mkF m 11 #[.val (.ref a), .val (.long n), .second] [(.ref a), (.long n)])) (fun t k => XS.aloadN X1.here hx rfl (hb hby d2_10) rfl rfl k) ?_
    obtain ⟨T3, X3, e3, st3⟩ := getF X1 hx hZ hown (host := "") (Or.inl (hw _ (List.mem_of_getElem? (i := 22) rfl))) Via.refl e1 (Fmx.ext Ex0) (g := (mkF m 11 #[.val (.ref a), .val (.long n), .second] [(.ref a), (.long n)])) rfl rfl (hb hby d2_11)
    refine own_step (S' := T3.setTop (mkF m 14 #[.val (.ref a), .val (.long n), .second] [(.long mx), (.long n)])) (fun t k => st3 t k) ?_
    refine own_step (S' := T3.setTop (mkF m 15 #[.val (.ref a), .val (.long n), .second] [(.int (XT.cmpL n mx))])) (fun t k => XT.lcmp X3.here hx rfl (hb hby d2_14) rfl k) ?_
    by_cases q4 : (0 : Int32) < (XT.cmpL n mx)
    ·
      refine own_step (S' := T3.setTop (mkF m 22 #[.val (.ref a), .val (.long n), .second] [])) (fun t k => XS.ifYes X3.here hx rfl (pc0 := 15) (pc' := 22) rfl (hb hby d2_15) rfl ((if0 _ _).trans (tlt (q4 : (0 : Int32) < (XT.cmpL n mx))).2.2.1) (by decide) (by decide) k) ?_
      refine own_step (S' := T3.setTop (mkF m 23 #[.val (.ref a), .val (.long n), .second] [(.int (0 : Int32))])) (fun t k => XS.iconst X3.here hx rfl (hb hby d2_22) k) ?_
      exact own_retI (t := .boolean) X3 hx hlk hret (Or.inr (Or.inl rfl)) rfl (hb hby d2_23) (⟨by unfold own_adm; rw [if_neg q2, if_pos q4], N0, e3⟩) (by decide) (by decide)
    ·
      refine own_step (S' := T3.setTop (mkF m 18 #[.val (.ref a), .val (.long n), .second] [])) (fun t k => XS.ifNo X3.here hx rfl (hb hby d2_15) rfl ((if0 _ _).trans (flt (q4 : ¬ ((0 : Int32) < (XT.cmpL n mx)))).2.2.1) k) ?_
      refine own_step (S' := T3.setTop (mkF m 19 #[.val (.ref a), .val (.long n), .second] [(.int (1 : Int32))])) (fun t k => XS.iconst X3.here hx rfl (hb hby d2_18) k) ?_
      refine own_step (S' := T3.setTop (mkF m 23 #[.val (.ref a), .val (.long n), .second] [(.int (1 : Int32))])) (fun t k => XS.goto X3.here hx rfl (pc0 := 19) (pc' := 23) rfl (hb hby d2_19) (by decide) (by decide) k) ?_
      exact own_retI (t := .boolean) X3 hx hlk hret (Or.inr (Or.inl rfl)) rfl (hb hby d2_23) (⟨by unfold own_adm; rw [if_neg q2, if_neg q4], N0, e3⟩) (by decide) (by decide)
set_option maxRecDepth 65536 in
set_option maxHeartbeats 4000000 in
theorem rm3 (l : Launch) (Z : State) (a0 : Array Value) (hw : ∀ d ∈ tables_1, d.before a0 Z = true) (ws : List Jvm.Cond) (i : Int32) (n : Int64) (h0 : Heap) (Ex0 : Ext Z.heap h0)  :
    own_Met l Z (⟨"com/example/creditd/creditd/core/GiftTypeAdmitsPinLaw", "expected", "(IJ)Z"⟩ : MethodName) method_3_code 3 (some .boolean) ws ({ frames := 0, cells := 0, slots := 0, locals := 0 } : Room) #[(.int i), (.long n)] h0 (own_P Z h0 (.int (own_exp i n))) := by
  refine own_body (ls := #[.val (.int i), .val (.long n), .second]) own_pn3 (fun m => by first | (simp [entryFrame, mkF, argsToLocals, Value.category]; done) | rfl) ?_
  intro p e s m below meth c T0 hZ hx hby hml' hown' hnm hret' hlk X0 e0
  have hml : c.maxLocals = 3 := hml'
  have hown : s.vm.findClass "com/example/creditd/creditd/core/GiftTypeAdmitsPinLaw" = some m.cls := hown'
  have hret : meth.sig.returnType = (some .boolean) := hret'
  have N0 := Fr.nil Z.heap.size
  refine own_step (S' := T0.setTop (mkF m 1 #[.val (.int i), .val (.long n), .second] [(.int i)])) (fun t k => XS.iloadN X0.here hx rfl (hb hby d3_0) rfl k) ?_
  refine own_step (S' := T0.setTop (mkF m 2 #[.val (.int i), .val (.long n), .second] [(.int (1 : Int32)), (.int i)])) (fun t k => XS.iconst X0.here hx rfl (hb hby d3_1) k) ?_
  by_cases q1 : i = (1 : Int32)
  ·
    refine own_step (S' := T0.setTop (mkF m 5 #[.val (.int i), .val (.long n), .second] [])) (fun t k => XS.icmpNo X0.here hx rfl (hb hby d3_2) rfl (teq (q1 : i = (1 : Int32))).2 k) ?_
    refine own_step (S' := T0.setTop (mkF m 6 #[.val (.int i), .val (.long n), .second] [(.long n)])) (fun t k => XT.lloadN X0.here hx rfl (hb hby d3_5) rfl k) ?_
    refine own_step (S' := T0.setTop (mkF m 9 #[.val (.int i), .val (.long n), .second] [(.long (2 : Int64)), (.long n)])) (fun t k => own_ldcJ (own := "com/example/creditd/creditd/core/GiftTypeAdmitsPinLaw") (index := 25) (v := (2 : Int64)) X0 hx hZ hown (hw _ (List.mem_of_getElem? (i := 2) rfl)) (g := (mkF m 6 #[.val (.int i), .val (.long n), .second] [(.long n)])) rfl (hb hby d3_6) t k) ?_
    refine own_step (S' := T0.setTop (mkF m 10 #[.val (.int i), .val (.long n), .second] [(.int (XT.cmpL n (2 : Int64)))])) (fun t k => XT.lcmp X0.here hx rfl (hb hby d3_9) rfl k) ?_
    by_cases q2 : (XT.cmpL n (2 : Int64)) < (0 : Int32)
    ·
      refine own_step (S' := T0.setTop (mkF m 25 #[.val (.int i), .val (.long n), .second] [])) (fun t k => XS.ifYes X0.here hx rfl (pc0 := 10) (pc' := 25) rfl (hb hby d3_10) rfl ((if0 _ _).trans (tlt (q2 : (XT.cmpL n (2 : Int64)) < (0 : Int32))).1) (by decide) (by decide) k) ?_
      refine own_step (S' := T0.setTop (mkF m 26 #[.val (.int i), .val (.long n), .second] [(.int (0 : Int32))])) (fun t k => XS.iconst X0.here hx rfl (hb hby d3_25) k) ?_
      exact own_retI (t := .boolean) X0 hx hlk hret (Or.inr (Or.inl rfl)) rfl (hb hby d3_26) (⟨by unfold own_exp; rw [if_pos q1, if_pos q2], N0, e0⟩) (by decide) (by decide)
    ·
      refine own_step (S' := T0.setTop (mkF m 13 #[.val (.int i), .val (.long n), .second] [])) (fun t k => XS.ifNo X0.here hx rfl (hb hby d3_10) rfl ((if0 _ _).trans (flt (q2 : ¬ ((XT.cmpL n (2 : Int64)) < (0 : Int32)))).1) k) ?_
      refine own_step (S' := T0.setTop (mkF m 14 #[.val (.int i), .val (.long n), .second] [(.long n)])) (fun t k => XT.lloadN X0.here hx rfl (hb hby d3_13) rfl k) ?_
      refine own_step (S' := T0.setTop (mkF m 17 #[.val (.int i), .val (.long n), .second] [(.long (100 : Int64)), (.long n)])) (fun t k => own_ldcJ (own := "com/example/creditd/creditd/core/GiftTypeAdmitsPinLaw") (index := 27) (v := (100 : Int64)) X0 hx hZ hown (hw _ (List.mem_of_getElem? (i := 24) rfl)) (g := (mkF m 14 #[.val (.int i), .val (.long n), .second] [(.long n)])) rfl (hb hby d3_14) t k) ?_
      refine own_step (S' := T0.setTop (mkF m 18 #[.val (.int i), .val (.long n), .second] [(.int (XT.cmpL n (100 : Int64)))])) (fun t k => XT.lcmp X0.here hx rfl (hb hby d3_17) rfl k) ?_
      by_cases q3 : (0 : Int32) < (XT.cmpL n (100 : Int64))
      ·
        refine own_step (S' := T0.setTop (mkF m 25 #[.val (.int i), .val (.long n), .second] [])) (fun t k => XS.ifYes X0.here hx rfl (pc0 := 18) (pc' := 25) rfl (hb hby d3_18) rfl ((if0 _ _).trans (tlt (q3 : (0 : Int32) < (XT.cmpL n (100 : Int64)))).2.2.1) (by decide) (by decide) k) ?_
        refine own_step (S' := T0.setTop (mkF m 26 #[.val (.int i), .val (.long n), .second] [(.int (0 : Int32))])) (fun t k => XS.iconst X0.here hx rfl (hb hby d3_25) k) ?_
        exact own_retI (t := .boolean) X0 hx hlk hret (Or.inr (Or.inl rfl)) rfl (hb hby d3_26) (⟨by unfold own_exp; rw [if_pos q1, if_neg q2, if_pos q3], N0, e0⟩) (by decide) (by decide)
      ·
        refine own_step (S' := T0.setTop (mkF m 21 #[.val (.int i), .val (.long n), .second] [])) (fun t k => XS.ifNo X0.here hx rfl (hb hby d3_18) rfl ((if0 _ _).trans (flt (q3 : ¬ ((0 : Int32) < (XT.cmpL n (100 : Int64))))).2.2.1) k) ?_
        refine own_step (S' := T0.setTop (mkF m 22 #[.val (.int i), .val (.long n), .second] [(.int (1 : Int32))])) (fun t k => XS.iconst X0.here hx rfl (hb hby d3_21) k) ?_
        refine own_step (S' := T0.setTop (mkF m 26 #[.val (.int i), .val (.long n), .second] [(.int (1 : Int32))])) (fun t k => XS.goto X0.here hx rfl (pc0 := 22) (pc' := 26) rfl (hb hby d3_22) (by decide) (by decide) k) ?_
        exact own_retI (t := .boolean) X0 hx hlk hret (Or.inr (Or.inl rfl)) rfl (hb hby d3_26) (⟨by unfold own_exp; rw [if_pos q1, if_neg q2, if_neg q3], N0, e0⟩) (by decide) (by decide)
  ·
    refine own_step (S' := T0.setTop (mkF m 27 #[.val (.int i), .val (.long n), .second] [])) (fun t k => XS.icmpYes X0.here hx rfl (pc0 := 2) (pc' := 27) rfl (hb hby d3_2) rfl (feq (q1 : ¬ (i = (1 : Int32)))).2 (by decide) (by decide) k) ?_
    refine own_step (S' := T0.setTop (mkF m 28 #[.val (.int i), .val (.long n), .second] [(.int i)])) (fun t k => XS.iloadN X0.here hx rfl (hb hby d3_27) rfl k) ?_
    refine own_step (S' := T0.setTop (mkF m 29 #[.val (.int i), .val (.long n), .second] [(.int (2 : Int32)), (.int i)])) (fun t k => XS.iconst X0.here hx rfl (hb hby d3_28) k) ?_
    by_cases q4 : i = (2 : Int32)
    ·
      refine own_step (S' := T0.setTop (mkF m 32 #[.val (.int i), .val (.long n), .second] [])) (fun t k => XS.icmpNo X0.here hx rfl (hb hby d3_29) rfl (teq (q4 : i = (2 : Int32))).2 k) ?_
      refine own_step (S' := T0.setTop (mkF m 33 #[.val (.int i), .val (.long n), .second] [(.long n)])) (fun t k => XT.lloadN X0.here hx rfl (hb hby d3_32) rfl k) ?_
      refine own_step (S' := T0.setTop (mkF m 34 #[.val (.int i), .val (.long n), .second] [(.long (1 : Int64)), (.long n)])) (fun t k => XT.lconst X0.here hx rfl (hb hby d3_33) k) ?_
      refine own_step (S' := T0.setTop (mkF m 35 #[.val (.int i), .val (.long n), .second] [(.int (XT.cmpL n (1 : Int64)))])) (fun t k => XT.lcmp X0.here hx rfl (hb hby d3_34) rfl k) ?_
      by_cases q5 : (XT.cmpL n (1 : Int64)) < (0 : Int32)
      ·
        refine own_step (S' := T0.setTop (mkF m 50 #[.val (.int i), .val (.long n), .second] [])) (fun t k => XS.ifYes X0.here hx rfl (pc0 := 35) (pc' := 50) rfl (hb hby d3_35) rfl ((if0 _ _).trans (tlt (q5 : (XT.cmpL n (1 : Int64)) < (0 : Int32))).1) (by decide) (by decide) k) ?_
        refine own_step (S' := T0.setTop (mkF m 51 #[.val (.int i), .val (.long n), .second] [(.int (0 : Int32))])) (fun t k => XS.iconst X0.here hx rfl (hb hby d3_50) k) ?_
        exact own_retI (t := .boolean) X0 hx hlk hret (Or.inr (Or.inl rfl)) rfl (hb hby d3_51) (⟨by unfold own_exp; rw [if_neg q1, if_pos q4, if_pos q5], N0, e0⟩) (by decide) (by decide)
      ·
        refine own_step (S' := T0.setTop (mkF m 38 #[.val (.int i), .val (.long n), .second] [])) (fun t k => XS.ifNo X0.here hx rfl (hb hby d3_35) rfl ((if0 _ _).trans (flt (q5 : ¬ ((XT.cmpL n (1 : Int64)) < (0 : Int32)))).1) k) ?_
        refine own_step (S' := T0.setTop (mkF m 39 #[.val (.int i), .val (.long n), .second] [(.long n)])) (fun t k => XT.lloadN X0.here hx rfl (hb hby d3_38) rfl k) ?_
        refine own_step (S' := T0.setTop (mkF m 42 #[.val (.int i), .val (.long n), .second] [(.long (100 : Int64)), (.long n)])) (fun t k => own_ldcJ (own := "com/example/creditd/creditd/core/GiftTypeAdmitsPinLaw") (index := 27) (v := (100 : Int64)) X0 hx hZ hown (hw _ (List.mem_of_getElem? (i := 24) rfl)) (g := (mkF m 39 #[.val (.int i), .val (.long n), .second] [(.long n)])) rfl (hb hby d3_39) t k) ?_
        refine own_step (S' := T0.setTop (mkF m 43 #[.val (.int i), .val (.long n), .second] [(.int (XT.cmpL n (100 : Int64)))])) (fun t k => XT.lcmp X0.here hx rfl (hb hby d3_42) rfl k) ?_
        by_cases q6 : (0 : Int32) < (XT.cmpL n (100 : Int64))
        ·
          refine own_step (S' := T0.setTop (mkF m 50 #[.val (.int i), .val (.long n), .second] [])) (fun t k => XS.ifYes X0.here hx rfl (pc0 := 43) (pc' := 50) rfl (hb hby d3_43) rfl ((if0 _ _).trans (tlt (q6 : (0 : Int32) < (XT.cmpL n (100 : Int64)))).2.2.1) (by decide) (by decide) k) ?_
          refine own_step (S' := T0.setTop (mkF m 51 #[.val (.int i), .val (.long n), .second] [(.int (0 : Int32))])) (fun t k => XS.iconst X0.here hx rfl (hb hby d3_50) k) ?_
          exact own_retI (t := .boolean) X0 hx hlk hret (Or.inr (Or.inl rfl)) rfl (hb hby d3_51) (⟨by unfold own_exp; rw [if_neg q1, if_pos q4, if_neg q5, if_pos q6], N0, e0⟩) (by decide) (by decide)
        ·
          refine own_step (S' := T0.setTop (mkF m 46 #[.val (.int i), .val (.long n), .second] [])) (fun t k => XS.ifNo X0.here hx rfl (hb hby d3_43) rfl ((if0 _ _).trans (flt (q6 : ¬ ((0 : Int32) < (XT.cmpL n (100 : Int64))))).2.2.1) k) ?_
          refine own_step (S' := T0.setTop (mkF m 47 #[.val (.int i), .val (.long n), .second] [(.int (1 : Int32))])) (fun t k => XS.iconst X0.here hx rfl (hb hby d3_46) k) ?_
          refine own_step (S' := T0.setTop (mkF m 51 #[.val (.int i), .val (.long n), .second] [(.int (1 : Int32))])) (fun t k => XS.goto X0.here hx rfl (pc0 := 47) (pc' := 51) rfl (hb hby d3_47) (by decide) (by decide) k) ?_
          exact own_retI (t := .boolean) X0 hx hlk hret (Or.inr (Or.inl rfl)) rfl (hb hby d3_51) (⟨by unfold own_exp; rw [if_neg q1, if_pos q4, if_neg q5, if_neg q6], N0, e0⟩) (by decide) (by decide)
    ·
      refine own_step (S' := T0.setTop (mkF m 52 #[.val (.int i), .val (.long n), .second] [])) (fun t k => XS.icmpYes X0.here hx rfl (pc0 := 29) (pc' := 52) rfl (hb hby d3_29) rfl (feq (q4 : ¬ (i = (2 : Int32)))).2 (by decide) (by decide) k) ?_
      refine own_step (S' := T0.setTop (mkF m 53 #[.val (.int i), .val (.long n), .second] [(.long n)])) (fun t k => XT.lloadN X0.here hx rfl (hb hby d3_52) rfl k) ?_
      refine own_step (S' := T0.setTop (mkF m 54 #[.val (.int i), .val (.long n), .second] [(.long (1 : Int64)), (.long n)])) (fun t k => XT.lconst X0.here hx rfl (hb hby d3_53) k) ?_
      refine own_step (S' := T0.setTop (mkF m 55 #[.val (.int i), .val (.long n), .second] [(.int (XT.cmpL n (1 : Int64)))])) (fun t k => XT.lcmp X0.here hx rfl (hb hby d3_54) rfl k) ?_
      by_cases q7 : (XT.cmpL n (1 : Int64)) = (0 : Int32)
      ·
        refine own_step (S' := T0.setTop (mkF m 58 #[.val (.int i), .val (.long n), .second] [])) (fun t k => XS.ifNo X0.here hx rfl (hb hby d3_55) rfl ((if0 _ _).trans (teq (q7 : (XT.cmpL n (1 : Int64)) = (0 : Int32))).2) k) ?_
        refine own_step (S' := T0.setTop (mkF m 59 #[.val (.int i), .val (.long n), .second] [(.int (1 : Int32))])) (fun t k => XS.iconst X0.here hx rfl (hb hby d3_58) k) ?_
        refine own_step (S' := T0.setTop (mkF m 63 #[.val (.int i), .val (.long n), .second] [(.int (1 : Int32))])) (fun t k => XS.goto X0.here hx rfl (pc0 := 59) (pc' := 63) rfl (hb hby d3_59) (by decide) (by decide) k) ?_
        exact own_retI (t := .boolean) X0 hx hlk hret (Or.inr (Or.inl rfl)) rfl (hb hby d3_63) (⟨by unfold own_exp; rw [if_neg q1, if_neg q4, if_pos q7], N0, e0⟩) (by decide) (by decide)
      ·
        refine own_step (S' := T0.setTop (mkF m 62 #[.val (.int i), .val (.long n), .second] [])) (fun t k => XS.ifYes X0.here hx rfl (pc0 := 55) (pc' := 62) rfl (hb hby d3_55) rfl ((if0 _ _).trans (feq (q7 : ¬ ((XT.cmpL n (1 : Int64)) = (0 : Int32)))).2) (by decide) (by decide) k) ?_
        refine own_step (S' := T0.setTop (mkF m 63 #[.val (.int i), .val (.long n), .second] [(.int (0 : Int32))])) (fun t k => XS.iconst X0.here hx rfl (hb hby d3_62) k) ?_
        exact own_retI (t := .boolean) X0 hx hlk hret (Or.inr (Or.inl rfl)) rfl (hb hby d3_63) (⟨by unfold own_exp; rw [if_neg q1, if_neg q4, if_neg q7], N0, e0⟩) (by decide) (by decide)
set_option maxRecDepth 65536 in
set_option maxHeartbeats 4000000 in
theorem rm0 (l : Launch) (Z : State) (a0 : Array Value) (hw : ∀ d ∈ tables_1, d.before a0 Z = true) (ws : List Jvm.Cond) (w : Nat → Addr) (H : Hyp Z w) (p0 : Int32) (p1 : Int64) (h0 : Heap) (Ex0 : Ext Z.heap h0)  :
    own_Met l Z x code maxLocals ret ws room_1 #[(.int p0), (.long p1)] h0 (fun v _ L => v = some (.int 1) ∧ Fr Z.heap.size L) := by
  have H0 := H
  obtain ⟨sS0, sE0, sF0_maxPortions, sF0_minPortions, sS1, sE1, sF1_maxPortions, sF1_minPortions, sS2, sE2, sF2_maxPortions, sF2_minPortions, sS3, sE3, sF3_maxPortions, sF3_minPortions, sS4, sE4, sF4_maxPortions, sF4_minPortions⟩ := H0
  refine own_body (ls := #[.val (.int p0), .val (.long p1), .second, .unset, .unset, .unset, .unset, .unset]) own_pn0 (fun m => by first | (simp [entryFrame, mkF, argsToLocals, Value.category, maxLocals]; done) | rfl) ?_
  intro p e s m below meth c T0 hZ hx hby hml' hown' hnm hret' hlk X0 e0
  have hml : c.maxLocals = 8 := hml'
  have hown : s.vm.findClass "com/example/creditd/creditd/core/GiftTypeAdmitsPinLaw" = some m.cls := hown'
  have hret : meth.sig.returnType = (some .boolean) := hret'
  have N0 := Fr.nil Z.heap.size
  refine own_step (S' := T0.setTop (mkF m 1 #[.val (.int p0), .val (.long p1), .second, .unset, .unset, .unset, .unset, .unset] [(.int p0)])) (fun t k => XS.iloadN X0.here hx rfl (hb hby at_0) rfl k) ?_
  refine own_step (S' := T0.setTop (mkF m 3 #[.val (.int p0), .val (.long p1), .second, .unset, .unset, .unset, .unset, .unset] [(.int (2147483647 : Int32)), (.int p0)])) (fun t k => own_ldcI (own := "com/example/creditd/creditd/core/GiftTypeAdmitsPinLaw") (index := 29) (v := (2147483647 : Int32)) X0 hx hZ hown (hw _ (List.mem_of_getElem? (i := 0) rfl)) (g := (mkF m 1 #[.val (.int p0), .val (.long p1), .second, .unset, .unset, .unset, .unset, .unset] [(.int p0)])) rfl (hb hby at_1) t k) ?_
  refine own_step (S' := T0.setTop (mkF m 4 #[.val (.int p0), .val (.long p1), .second, .unset, .unset, .unset, .unset, .unset] [(.int (p0 &&& (2147483647 : Int32)))])) (fun t k => XS.iand X0.here hx rfl (hb hby at_3) rfl k) ?_
  refine own_step (S' := T0.setTop (mkF m 5 #[.val (.int p0), .val (.long p1), .second, .unset, .unset, .unset, .unset, .unset] [(.int (5 : Int32)), (.int (p0 &&& (2147483647 : Int32)))])) (fun t k => XS.iconst X0.here hx rfl (hb hby at_4) k) ?_
  refine own_step (S' := T0.setTop (mkF m 6 #[.val (.int p0), .val (.long p1), .second, .unset, .unset, .unset, .unset, .unset] [(.int ((p0 &&& (2147483647 : Int32)) % (5 : Int32)))])) (fun t k => iremM X0 hx rfl (hb hby at_5) rfl (by decide) k) ?_
  refine own_step (S' := T0.setTop (mkF m 7 #[.val (.int p0), .val (.long p1), .second, .val (.int ((p0 &&& (2147483647 : Int32)) % (5 : Int32))), .unset, .unset, .unset, .unset] [])) (fun t k => XS.istoreN X0.here hx rfl (hb hby at_6) rfl (l' := #[.val (.int p0), .val (.long p1), .second, .val (.int ((p0 &&& (2147483647 : Int32)) % (5 : Int32))), .unset, .unset, .unset, .unset]) rfl k) ?_
  generalize hg_i : ((p0 &&& (2147483647 : Int32)) % (5 : Int32)) = i
  have hr := own_idx p0 5 (by decide)
  rw [hg_i] at hr
  have hc := own_cases5 hr.1 hr.2
  have Ea : Exa Z Z.heap (own_pick i w) "com/example/creditd/creditd/core/GiftType" := by
    rcases hc with rfl | rfl | rfl | rfl | rfl
    · exact (sE0)
    · exact (sE1)
    · exact (sE2)
    · exact (sE3)
    · exact (sE4)
  have Fmn : Fld Z Z.heap (own_pick i w) "com/example/creditd/creditd/core/GiftType" "minPortions" "J" (.long (own_mn i)) := by
    rcases hc with rfl | rfl | rfl | rfl | rfl
    · exact (sF0_minPortions)
    · exact (sF1_minPortions)
    · exact (sF2_minPortions)
    · exact (sF3_minPortions)
    · exact (sF4_minPortions)
  have Fmx : Fld Z Z.heap (own_pick i w) "com/example/creditd/creditd/core/GiftType" "maxPortions" "J" (.long (own_mx i)) := by
    rcases hc with rfl | rfl | rfl | rfl | rfl
    · exact (sF0_maxPortions)
    · exact (sF1_maxPortions)
    · exact (sF2_maxPortions)
    · exact (sF3_maxPortions)
    · exact (sF4_maxPortions)
  have hf : ∀ n, own_adm (own_mn i) (own_mx i) n = own_exp i n := by
    intro n
    rcases hc with rfl | rfl | rfl | rfl | rfl <;> first | (simp [own_mn, own_mx, own_exp, own_adm]; done) | (simp [own_mn, own_mx, own_exp, own_one])
  refine own_step (S' := T0.setTop (mkF m 8 #[.val (.int p0), .val (.long p1), .second, .val (.int i), .unset, .unset, .unset, .unset] [(.int p0)])) (fun t k => XS.iloadN X0.here hx rfl (hb hby at_7) rfl k) ?_
  refine own_step (S' := T0.setTop (mkF m 10 #[.val (.int p0), .val (.long p1), .second, .val (.int i), .unset, .unset, .unset, .unset] [(.int (8 : Int32)), (.int p0)])) (fun t k => XS.bipush X0.here hx rfl (hb hby at_8) k) ?_
  refine own_step (S' := T0.setTop (mkF m 11 #[.val (.int p0), .val (.long p1), .second, .val (.int i), .unset, .unset, .unset, .unset] [(.int (XT.ushr p0 (8 : Int32)))])) (fun t k => XT.iushr X0.here hx rfl (hb hby at_10) rfl k) ?_
  refine own_step (S' := T0.setTop (mkF m 12 #[.val (.int p0), .val (.long p1), .second, .val (.int i), .unset, .unset, .unset, .unset] [(.int (1 : Int32)), (.int (XT.ushr p0 (8 : Int32)))])) (fun t k => XS.iconst X0.here hx rfl (hb hby at_11) k) ?_
  refine own_step (S' := T0.setTop (mkF m 13 #[.val (.int p0), .val (.long p1), .second, .val (.int i), .unset, .unset, .unset, .unset] [(.int ((XT.ushr p0 (8 : Int32)) &&& (1 : Int32)))])) (fun t k => XS.iand X0.here hx rfl (hb hby at_12) rfl k) ?_
  by_cases q1 : ((XT.ushr p0 (8 : Int32)) &&& (1 : Int32)) = (0 : Int32)
  ·
    refine own_step (S' := T0.setTop (mkF m 20 #[.val (.int p0), .val (.long p1), .second, .val (.int i), .unset, .unset, .unset, .unset] [])) (fun t k => XS.ifYes X0.here hx rfl (pc0 := 13) (pc' := 20) rfl (hb hby at_13) rfl ((if0 _ _).trans (teq (q1 : ((XT.ushr p0 (8 : Int32)) &&& (1 : Int32)) = (0 : Int32))).1) (by decide) (by decide) k) ?_
    refine own_step (S' := T0.setTop (mkF m 21 #[.val (.int p0), .val (.long p1), .second, .val (.int i), .unset, .unset, .unset, .unset] [(.int (0 : Int32))])) (fun t k => XS.iconst X0.here hx rfl (hb hby at_20) k) ?_
    refine own_step (S' := T0.setTop (mkF m 23 #[.val (.int p0), .val (.long p1), .second, .val (.int i), .val (.int (0 : Int32)), .unset, .unset, .unset] [])) (fun t k => XS.istore X0.here hx rfl (hb hby at_21) rfl (l' := #[.val (.int p0), .val (.long p1), .second, .val (.int i), .val (.int (0 : Int32)), .unset, .unset, .unset]) rfl k) ?_
    refine own_step (S' := T0.setTop (mkF m 25 #[.val (.int p0), .val (.long p1), .second, .val (.int i), .val (.int (0 : Int32)), .unset, .unset, .unset] [(.int (0 : Int32))])) (fun t k => XS.iload X0.here hx rfl (hb hby at_23) rfl k) ?_
    refine own_step (S' := T0.setTop (mkF m 32 #[.val (.int p0), .val (.long p1), .second, .val (.int i), .val (.int (0 : Int32)), .unset, .unset, .unset] [])) (fun t k => XS.ifYes X0.here hx rfl (pc0 := 25) (pc' := 32) rfl (hb hby at_25) rfl ((if0 _ _).trans (teq ((by decide) : (0 : Int32) = (0 : Int32))).1) (by decide) (by decide) k) ?_
    refine own_step (S' := T0.setTop (mkF m 33 #[.val (.int p0), .val (.long p1), .second, .val (.int i), .val (.int (0 : Int32)), .unset, .unset, .unset] [(.long p1)])) (fun t k => XT.lloadN X0.here hx rfl (hb hby at_32) rfl k) ?_
    refine own_step (S' := T0.setTop (mkF m 36 #[.val (.int p0), .val (.long p1), .second, .val (.int i), .val (.int (0 : Int32)), .unset, .unset, .unset] [(.long (127 : Int64)), (.long p1)])) (fun t k => own_ldcJ (own := "com/example/creditd/creditd/core/GiftTypeAdmitsPinLaw") (index := 30) (v := (127 : Int64)) X0 hx hZ hown (hw _ (List.mem_of_getElem? (i := 1) rfl)) (g := (mkF m 33 #[.val (.int p0), .val (.long p1), .second, .val (.int i), .val (.int (0 : Int32)), .unset, .unset, .unset] [(.long p1)])) rfl (hb hby at_33) t k) ?_
    refine own_step (S' := T0.setTop (mkF m 37 #[.val (.int p0), .val (.long p1), .second, .val (.int i), .val (.int (0 : Int32)), .unset, .unset, .unset] [(.long (p1 &&& (127 : Int64)))])) (fun t k => XT.land X0.here hx rfl (hb hby at_36) rfl k) ?_
    refine own_step (S' := T0.setTop (mkF m 38 #[.val (.int p0), .val (.long p1), .second, .val (.int i), .val (.int (0 : Int32)), .unset, .unset, .unset] [(.int ((p1 &&& (127 : Int64)).toInt32))])) (fun t k => XT.l2i X0.here hx rfl (hb hby at_37) rfl k) ?_
    refine own_step (S' := T0.setTop (mkF m 39 #[.val (.int p0), .val (.long p1), .second, .val (.int i), .val (.int (0 : Int32)), .unset, .unset, .unset] [(.long (((p1 &&& (127 : Int64)).toInt32).toInt64))])) (fun t k => XT.i2l X0.here hx rfl (hb hby at_38) rfl k) ?_
    refine own_step (S' := T0.setTop (mkF m 42 #[.val (.int p0), .val (.long p1), .second, .val (.int i), .val (.int (0 : Int32)), .unset, .unset, .unset] [(.long (2 : Int64)), (.long (((p1 &&& (127 : Int64)).toInt32).toInt64))])) (fun t k => own_ldcJ (own := "com/example/creditd/creditd/core/GiftTypeAdmitsPinLaw") (index := 25) (v := (2 : Int64)) X0 hx hZ hown (hw _ (List.mem_of_getElem? (i := 2) rfl)) (g := (mkF m 39 #[.val (.int p0), .val (.long p1), .second, .val (.int i), .val (.int (0 : Int32)), .unset, .unset, .unset] [(.long (((p1 &&& (127 : Int64)).toInt32).toInt64))])) rfl (hb hby at_39) t k) ?_
    refine own_step (S' := T0.setTop (mkF m 43 #[.val (.int p0), .val (.long p1), .second, .val (.int i), .val (.int (0 : Int32)), .unset, .unset, .unset] [(.long ((((p1 &&& (127 : Int64)).toInt32).toInt64) - (2 : Int64)))])) (fun t k => XT.lsub X0.here hx rfl (hb hby at_42) rfl k) ?_
    refine own_step (S' := T0.setTop (mkF m 45 #[.val (.int p0), .val (.long p1), .second, .val (.int i), .val (.int (0 : Int32)), .val (.long ((((p1 &&& (127 : Int64)).toInt32).toInt64) - (2 : Int64))), .second, .unset] [])) (fun t k => XT.lstore X0.here hx rfl (hb hby at_43) rfl (l' := #[.val (.int p0), .val (.long p1), .second, .val (.int i), .val (.int (0 : Int32)), .val (.long ((((p1 &&& (127 : Int64)).toInt32).toInt64) - (2 : Int64))), .second, .unset]) rfl k) ?_
    refine own_step (S' := T0.setTop (mkF m 46 #[.val (.int p0), .val (.long p1), .second, .val (.int i), .val (.int (0 : Int32)), .val (.long ((((p1 &&& (127 : Int64)).toInt32).toInt64) - (2 : Int64))), .second, .unset] [(.int i)])) (fun t k => XS.iloadN X0.here hx rfl (hb hby at_45) rfl k) ?_
    obtain ⟨_, T2, Lq2, X2, ⟨rfl, Nq2, e2⟩, st2⟩ := own_callS X0 hx hZ hown (hw _ (List.mem_of_getElem? (i := 3) rfl)) (hw _ (List.mem_of_getElem? (i := 4) rfl)) (hw _ (List.mem_of_getElem? (i := 6) rfl)) (hw _ (List.mem_of_getElem? (i := 5) rfl)) (by decide) (argsL := [(.int i)]) (rest := []) (rm1 l Z a0 hw [] w H i h0 Ex0) (W := 0) (by decide) (by decide) e0 (g := (mkF m 46 #[.val (.int p0), .val (.long p1), .second, .val (.int i), .val (.int (0 : Int32)), .val (.long ((((p1 &&& (127 : Int64)).toInt32).toInt64) - (2 : Int64))), .second, .unset] [(.int i)])) rfl (by rw [hml]; rfl) (lenOf own_pd0 rfl) rfl (by show 2 * 0 + _ ≤ _; exact Nat.le_of_eq rfl) (hb hby at_46) (by decide) (by decide)
    have N2 := Fr.app N0 Nq2
    refine own_step (S' := T2.setTop (mkF m 49 #[.val (.int p0), .val (.long p1), .second, .val (.int i), .val (.int (0 : Int32)), .val (.long ((((p1 &&& (127 : Int64)).toInt32).toInt64) - (2 : Int64))), .second, .unset] [(.ref (own_pick i w))])) (fun t k => st2 t k) ?_
    refine own_step (S' := T2.setTop (mkF m 51 #[.val (.int p0), .val (.long p1), .second, .val (.int i), .val (.int (0 : Int32)), .val (.long ((((p1 &&& (127 : Int64)).toInt32).toInt64) - (2 : Int64))), .second, .val (.ref (own_pick i w))] [])) (fun t k => XS.astore X2.here hx rfl (hb hby at_49) rfl rfl (l' := #[.val (.int p0), .val (.long p1), .second, .val (.int i), .val (.int (0 : Int32)), .val (.long ((((p1 &&& (127 : Int64)).toInt32).toInt64) - (2 : Int64))), .second, .val (.ref (own_pick i w))]) rfl k) ?_
    refine own_step (S' := T2.setTop (mkF m 53 #[.val (.int p0), .val (.long p1), .second, .val (.int i), .val (.int (0 : Int32)), .val (.long ((((p1 &&& (127 : Int64)).toInt32).toInt64) - (2 : Int64))), .second, .val (.ref (own_pick i w))] [(.ref (own_pick i w))])) (fun t k => XS.aload X2.here hx rfl (hb hby at_51) rfl rfl k) ?_
    refine own_step (S' := T2.setTop (mkF m 55 #[.val (.int p0), .val (.long p1), .second, .val (.int i), .val (.int (0 : Int32)), .val (.long ((((p1 &&& (127 : Int64)).toInt32).toInt64) - (2 : Int64))), .second, .val (.ref (own_pick i w))] [(.long ((((p1 &&& (127 : Int64)).toInt32).toInt64) - (2 : Int64))), (.ref (own_pick i w))])) (fun t k => XT.lload X2.here hx rfl (hb hby at_53) rfl k) ?_
    obtain ⟨_, T3, Lq3, X3, ⟨rfl, Nq3, e3⟩, st3⟩ := own_callV X2 hx hZ hown (hw _ (List.mem_of_getElem? (i := 10) rfl)) (hw _ (List.mem_of_getElem? (i := 11) rfl)) (hw _ (List.mem_of_getElem? (i := 13) rfl)) (hw _ (List.mem_of_getElem? (i := 12) rfl)) (hw _ (List.mem_of_getElem? (i := 14) rfl)) (hw _ (List.mem_of_getElem? (i := 8) rfl)) (by decide) (argsL := [(.long ((((p1 &&& (127 : Int64)).toInt32).toInt64) - (2 : Int64)))]) (rest := []) (rm2 l Z a0 hw [] (own_pick i w) (own_mn i) (own_mx i) ((((p1 &&& (127 : Int64)).toInt32).toInt64) - (2 : Int64)) h0 Ex0 Fmn Fmx) (W := 0) (by decide) (by decide) e2 (Ea.ext Ex0) (g := (mkF m 55 #[.val (.int p0), .val (.long p1), .second, .val (.int i), .val (.int (0 : Int32)), .val (.long ((((p1 &&& (127 : Int64)).toInt32).toInt64) - (2 : Int64))), .second, .val (.ref (own_pick i w))] [(.long ((((p1 &&& (127 : Int64)).toInt32).toInt64) - (2 : Int64))), (.ref (own_pick i w))])) rfl (by rw [hml]; rfl) (lenOf own_pd1 rfl) rfl (by show 2 * 0 + _ ≤ _; exact Nat.le_of_eq rfl) (hb hby at_55) (by decide) (by decide)
    have N3 := Fr.app N2 Nq3
    refine own_step (S' := T3.setTop (mkF m 58 #[.val (.int p0), .val (.long p1), .second, .val (.int i), .val (.int (0 : Int32)), .val (.long ((((p1 &&& (127 : Int64)).toInt32).toInt64) - (2 : Int64))), .second, .val (.ref (own_pick i w))] [(.int (own_adm (own_mn i) (own_mx i) ((((p1 &&& (127 : Int64)).toInt32).toInt64) - (2 : Int64))))])) (fun t k => st3 t k) ?_
    refine own_step (S' := T3.setTop (mkF m 59 #[.val (.int p0), .val (.long p1), .second, .val (.int i), .val (.int (0 : Int32)), .val (.long ((((p1 &&& (127 : Int64)).toInt32).toInt64) - (2 : Int64))), .second, .val (.ref (own_pick i w))] [(.int i), (.int (own_adm (own_mn i) (own_mx i) ((((p1 &&& (127 : Int64)).toInt32).toInt64) - (2 : Int64))))])) (fun t k => XS.iloadN X3.here hx rfl (hb hby at_58) rfl k) ?_
    refine own_step (S' := T3.setTop (mkF m 61 #[.val (.int p0), .val (.long p1), .second, .val (.int i), .val (.int (0 : Int32)), .val (.long ((((p1 &&& (127 : Int64)).toInt32).toInt64) - (2 : Int64))), .second, .val (.ref (own_pick i w))] [(.long ((((p1 &&& (127 : Int64)).toInt32).toInt64) - (2 : Int64))), (.int i), (.int (own_adm (own_mn i) (own_mx i) ((((p1 &&& (127 : Int64)).toInt32).toInt64) - (2 : Int64))))])) (fun t k => XT.lload X3.here hx rfl (hb hby at_59) rfl k) ?_
    obtain ⟨_, T4, Lq4, X4, ⟨rfl, Nq4, e4⟩, st4⟩ := own_callS X3 hx hZ hown (hw _ (List.mem_of_getElem? (i := 17) rfl)) (hw _ (List.mem_of_getElem? (i := 18) rfl)) (hw _ (List.mem_of_getElem? (i := 19) rfl)) (hw _ (List.mem_of_getElem? (i := 5) rfl)) (by decide) (argsL := [(.int i), (.long ((((p1 &&& (127 : Int64)).toInt32).toInt64) - (2 : Int64)))]) (rest := [(.int (own_adm (own_mn i) (own_mx i) ((((p1 &&& (127 : Int64)).toInt32).toInt64) - (2 : Int64))))]) (rm3 l Z a0 hw [] i ((((p1 &&& (127 : Int64)).toInt32).toInt64) - (2 : Int64)) h0 Ex0) (W := 1) (by decide) (by decide) e3 (g := (mkF m 61 #[.val (.int p0), .val (.long p1), .second, .val (.int i), .val (.int (0 : Int32)), .val (.long ((((p1 &&& (127 : Int64)).toInt32).toInt64) - (2 : Int64))), .second, .val (.ref (own_pick i w))] [(.long ((((p1 &&& (127 : Int64)).toInt32).toInt64) - (2 : Int64))), (.int i), (.int (own_adm (own_mn i) (own_mx i) ((((p1 &&& (127 : Int64)).toInt32).toInt64) - (2 : Int64))))])) rfl (by rw [hml]; rfl) (lenOf own_pd2 rfl) rfl (by show 2 * 0 + _ ≤ _; exact Nat.le_of_eq rfl) (hb hby at_61) (by decide) (by decide)
    have N4 := Fr.app N3 Nq4
    refine own_step (S' := T4.setTop (mkF m 64 #[.val (.int p0), .val (.long p1), .second, .val (.int i), .val (.int (0 : Int32)), .val (.long ((((p1 &&& (127 : Int64)).toInt32).toInt64) - (2 : Int64))), .second, .val (.ref (own_pick i w))] [(.int (own_exp i ((((p1 &&& (127 : Int64)).toInt32).toInt64) - (2 : Int64)))), (.int (own_adm (own_mn i) (own_mx i) ((((p1 &&& (127 : Int64)).toInt32).toInt64) - (2 : Int64))))])) (fun t k => st4 t k) ?_
    refine own_step (S' := T4.setTop (mkF m 67 #[.val (.int p0), .val (.long p1), .second, .val (.int i), .val (.int (0 : Int32)), .val (.long ((((p1 &&& (127 : Int64)).toInt32).toInt64) - (2 : Int64))), .second, .val (.ref (own_pick i w))] [])) (fun t k => XS.icmpNo X4.here hx rfl (hb hby at_64) rfl (teq ((hf _) : (own_adm (own_mn i) (own_mx i) ((((p1 &&& (127 : Int64)).toInt32).toInt64) - (2 : Int64))) = (own_exp i ((((p1 &&& (127 : Int64)).toInt32).toInt64) - (2 : Int64))))).2 k) ?_
    refine own_step (S' := T4.setTop (mkF m 68 #[.val (.int p0), .val (.long p1), .second, .val (.int i), .val (.int (0 : Int32)), .val (.long ((((p1 &&& (127 : Int64)).toInt32).toInt64) - (2 : Int64))), .second, .val (.ref (own_pick i w))] [(.int (1 : Int32))])) (fun t k => XS.iconst X4.here hx rfl (hb hby at_67) k) ?_
    refine own_step (S' := T4.setTop (mkF m 72 #[.val (.int p0), .val (.long p1), .second, .val (.int i), .val (.int (0 : Int32)), .val (.long ((((p1 &&& (127 : Int64)).toInt32).toInt64) - (2 : Int64))), .second, .val (.ref (own_pick i w))] [(.int (1 : Int32))])) (fun t k => XS.goto X4.here hx rfl (pc0 := 68) (pc' := 72) rfl (hb hby at_68) (by decide) (by decide) k) ?_
    exact own_retI (t := .boolean) X4 hx hlk hret (Or.inr (Or.inl rfl)) rfl (hb hby at_72) (⟨rfl, N4⟩) (by decide) (by decide)
  ·
    refine own_step (S' := T0.setTop (mkF m 16 #[.val (.int p0), .val (.long p1), .second, .val (.int i), .unset, .unset, .unset, .unset] [])) (fun t k => XS.ifNo X0.here hx rfl (hb hby at_13) rfl ((if0 _ _).trans (feq (q1 : ¬ (((XT.ushr p0 (8 : Int32)) &&& (1 : Int32)) = (0 : Int32)))).1) k) ?_
    refine own_step (S' := T0.setTop (mkF m 17 #[.val (.int p0), .val (.long p1), .second, .val (.int i), .unset, .unset, .unset, .unset] [(.int (1 : Int32))])) (fun t k => XS.iconst X0.here hx rfl (hb hby at_16) k) ?_
    refine own_step (S' := T0.setTop (mkF m 21 #[.val (.int p0), .val (.long p1), .second, .val (.int i), .unset, .unset, .unset, .unset] [(.int (1 : Int32))])) (fun t k => XS.goto X0.here hx rfl (pc0 := 17) (pc' := 21) rfl (hb hby at_17) (by decide) (by decide) k) ?_
    refine own_step (S' := T0.setTop (mkF m 23 #[.val (.int p0), .val (.long p1), .second, .val (.int i), .val (.int (1 : Int32)), .unset, .unset, .unset] [])) (fun t k => XS.istore X0.here hx rfl (hb hby at_21) rfl (l' := #[.val (.int p0), .val (.long p1), .second, .val (.int i), .val (.int (1 : Int32)), .unset, .unset, .unset]) rfl k) ?_
    refine own_step (S' := T0.setTop (mkF m 25 #[.val (.int p0), .val (.long p1), .second, .val (.int i), .val (.int (1 : Int32)), .unset, .unset, .unset] [(.int (1 : Int32))])) (fun t k => XS.iload X0.here hx rfl (hb hby at_23) rfl k) ?_
    refine own_step (S' := T0.setTop (mkF m 28 #[.val (.int p0), .val (.long p1), .second, .val (.int i), .val (.int (1 : Int32)), .unset, .unset, .unset] [])) (fun t k => XS.ifNo X0.here hx rfl (hb hby at_25) rfl ((if0 _ _).trans (feq ((by decide) : ¬ ((1 : Int32) = (0 : Int32)))).1) k) ?_
    refine own_step (S' := T0.setTop (mkF m 29 #[.val (.int p0), .val (.long p1), .second, .val (.int i), .val (.int (1 : Int32)), .unset, .unset, .unset] [(.long p1)])) (fun t k => XT.lloadN X0.here hx rfl (hb hby at_28) rfl k) ?_
    refine own_step (S' := T0.setTop (mkF m 43 #[.val (.int p0), .val (.long p1), .second, .val (.int i), .val (.int (1 : Int32)), .unset, .unset, .unset] [(.long p1)])) (fun t k => XS.goto X0.here hx rfl (pc0 := 29) (pc' := 43) rfl (hb hby at_29) (by decide) (by decide) k) ?_
    refine own_step (S' := T0.setTop (mkF m 45 #[.val (.int p0), .val (.long p1), .second, .val (.int i), .val (.int (1 : Int32)), .val (.long p1), .second, .unset] [])) (fun t k => XT.lstore X0.here hx rfl (hb hby at_43) rfl (l' := #[.val (.int p0), .val (.long p1), .second, .val (.int i), .val (.int (1 : Int32)), .val (.long p1), .second, .unset]) rfl k) ?_
    refine own_step (S' := T0.setTop (mkF m 46 #[.val (.int p0), .val (.long p1), .second, .val (.int i), .val (.int (1 : Int32)), .val (.long p1), .second, .unset] [(.int i)])) (fun t k => XS.iloadN X0.here hx rfl (hb hby at_45) rfl k) ?_
    obtain ⟨_, T5, Lq5, X5, ⟨rfl, Nq5, e5⟩, st5⟩ := own_callS X0 hx hZ hown (hw _ (List.mem_of_getElem? (i := 3) rfl)) (hw _ (List.mem_of_getElem? (i := 4) rfl)) (hw _ (List.mem_of_getElem? (i := 6) rfl)) (hw _ (List.mem_of_getElem? (i := 5) rfl)) (by decide) (argsL := [(.int i)]) (rest := []) (rm1 l Z a0 hw [] w H i h0 Ex0) (W := 0) (by decide) (by decide) e0 (g := (mkF m 46 #[.val (.int p0), .val (.long p1), .second, .val (.int i), .val (.int (1 : Int32)), .val (.long p1), .second, .unset] [(.int i)])) rfl (by rw [hml]; rfl) (lenOf own_pd0 rfl) rfl (by show 2 * 0 + _ ≤ _; exact Nat.le_of_eq rfl) (hb hby at_46) (by decide) (by decide)
    have N5 := Fr.app N0 Nq5
    refine own_step (S' := T5.setTop (mkF m 49 #[.val (.int p0), .val (.long p1), .second, .val (.int i), .val (.int (1 : Int32)), .val (.long p1), .second, .unset] [(.ref (own_pick i w))])) (fun t k => st5 t k) ?_
    refine own_step (S' := T5.setTop (mkF m 51 #[.val (.int p0), .val (.long p1), .second, .val (.int i), .val (.int (1 : Int32)), .val (.long p1), .second, .val (.ref (own_pick i w))] [])) (fun t k => XS.astore X5.here hx rfl (hb hby at_49) rfl rfl (l' := #[.val (.int p0), .val (.long p1), .second, .val (.int i), .val (.int (1 : Int32)), .val (.long p1), .second, .val (.ref (own_pick i w))]) rfl k) ?_
    refine own_step (S' := T5.setTop (mkF m 53 #[.val (.int p0), .val (.long p1), .second, .val (.int i), .val (.int (1 : Int32)), .val (.long p1), .second, .val (.ref (own_pick i w))] [(.ref (own_pick i w))])) (fun t k => XS.aload X5.here hx rfl (hb hby at_51) rfl rfl k) ?_
    refine own_step (S' := T5.setTop (mkF m 55 #[.val (.int p0), .val (.long p1), .second, .val (.int i), .val (.int (1 : Int32)), .val (.long p1), .second, .val (.ref (own_pick i w))] [(.long p1), (.ref (own_pick i w))])) (fun t k => XT.lload X5.here hx rfl (hb hby at_53) rfl k) ?_
    obtain ⟨_, T6, Lq6, X6, ⟨rfl, Nq6, e6⟩, st6⟩ := own_callV X5 hx hZ hown (hw _ (List.mem_of_getElem? (i := 10) rfl)) (hw _ (List.mem_of_getElem? (i := 11) rfl)) (hw _ (List.mem_of_getElem? (i := 13) rfl)) (hw _ (List.mem_of_getElem? (i := 12) rfl)) (hw _ (List.mem_of_getElem? (i := 14) rfl)) (hw _ (List.mem_of_getElem? (i := 8) rfl)) (by decide) (argsL := [(.long p1)]) (rest := []) (rm2 l Z a0 hw [] (own_pick i w) (own_mn i) (own_mx i) p1 h0 Ex0 Fmn Fmx) (W := 0) (by decide) (by decide) e5 (Ea.ext Ex0) (g := (mkF m 55 #[.val (.int p0), .val (.long p1), .second, .val (.int i), .val (.int (1 : Int32)), .val (.long p1), .second, .val (.ref (own_pick i w))] [(.long p1), (.ref (own_pick i w))])) rfl (by rw [hml]; rfl) (lenOf own_pd1 rfl) rfl (by show 2 * 0 + _ ≤ _; exact Nat.le_of_eq rfl) (hb hby at_55) (by decide) (by decide)
    have N6 := Fr.app N5 Nq6
    refine own_step (S' := T6.setTop (mkF m 58 #[.val (.int p0), .val (.long p1), .second, .val (.int i), .val (.int (1 : Int32)), .val (.long p1), .second, .val (.ref (own_pick i w))] [(.int (own_adm (own_mn i) (own_mx i) p1))])) (fun t k => st6 t k) ?_
    refine own_step (S' := T6.setTop (mkF m 59 #[.val (.int p0), .val (.long p1), .second, .val (.int i), .val (.int (1 : Int32)), .val (.long p1), .second, .val (.ref (own_pick i w))] [(.int i), (.int (own_adm (own_mn i) (own_mx i) p1))])) (fun t k => XS.iloadN X6.here hx rfl (hb hby at_58) rfl k) ?_
    refine own_step (S' := T6.setTop (mkF m 61 #[.val (.int p0), .val (.long p1), .second, .val (.int i), .val (.int (1 : Int32)), .val (.long p1), .second, .val (.ref (own_pick i w))] [(.long p1), (.int i), (.int (own_adm (own_mn i) (own_mx i) p1))])) (fun t k => XT.lload X6.here hx rfl (hb hby at_59) rfl k) ?_
    obtain ⟨_, T7, Lq7, X7, ⟨rfl, Nq7, e7⟩, st7⟩ := own_callS X6 hx hZ hown (hw _ (List.mem_of_getElem? (i := 17) rfl)) (hw _ (List.mem_of_getElem? (i := 18) rfl)) (hw _ (List.mem_of_getElem? (i := 19) rfl)) (hw _ (List.mem_of_getElem? (i := 5) rfl)) (by decide) (argsL := [(.int i), (.long p1)]) (rest := [(.int (own_adm (own_mn i) (own_mx i) p1))]) (rm3 l Z a0 hw [] i p1 h0 Ex0) (W := 1) (by decide) (by decide) e6 (g := (mkF m 61 #[.val (.int p0), .val (.long p1), .second, .val (.int i), .val (.int (1 : Int32)), .val (.long p1), .second, .val (.ref (own_pick i w))] [(.long p1), (.int i), (.int (own_adm (own_mn i) (own_mx i) p1))])) rfl (by rw [hml]; rfl) (lenOf own_pd2 rfl) rfl (by show 2 * 0 + _ ≤ _; exact Nat.le_of_eq rfl) (hb hby at_61) (by decide) (by decide)
    have N7 := Fr.app N6 Nq7
    refine own_step (S' := T7.setTop (mkF m 64 #[.val (.int p0), .val (.long p1), .second, .val (.int i), .val (.int (1 : Int32)), .val (.long p1), .second, .val (.ref (own_pick i w))] [(.int (own_exp i p1)), (.int (own_adm (own_mn i) (own_mx i) p1))])) (fun t k => st7 t k) ?_
    refine own_step (S' := T7.setTop (mkF m 67 #[.val (.int p0), .val (.long p1), .second, .val (.int i), .val (.int (1 : Int32)), .val (.long p1), .second, .val (.ref (own_pick i w))] [])) (fun t k => XS.icmpNo X7.here hx rfl (hb hby at_64) rfl (teq ((hf _) : (own_adm (own_mn i) (own_mx i) p1) = (own_exp i p1))).2 k) ?_
    refine own_step (S' := T7.setTop (mkF m 68 #[.val (.int p0), .val (.long p1), .second, .val (.int i), .val (.int (1 : Int32)), .val (.long p1), .second, .val (.ref (own_pick i w))] [(.int (1 : Int32))])) (fun t k => XS.iconst X7.here hx rfl (hb hby at_67) k) ?_
    refine own_step (S' := T7.setTop (mkF m 72 #[.val (.int p0), .val (.long p1), .second, .val (.int i), .val (.int (1 : Int32)), .val (.long p1), .second, .val (.ref (own_pick i w))] [(.int (1 : Int32))])) (fun t k => XS.goto X7.here hx rfl (pc0 := 68) (pc' := 72) rfl (hb hby at_68) (by decide) (by decide) k) ?_
    exact own_retI (t := .boolean) X7 hx hlk hret (Or.inr (Or.inl rfl)) rfl (hb hby at_72) (⟨rfl, N7⟩) (by decide) (by decide)
set_option maxRecDepth 65536 in
set_option maxHeartbeats 4000000 in
theorem comes_1 {Post : Tables → Env → Array Value → State → Outcome → State → Prop} (hpost : ∀ tb e args s v u, (limb_1_1.after args s (.returned v) u = true ∧ limb_1_2.after args s (.returned v) u = true ∧ True) → FrameEnd s (.returned v) u (Jvm.fieldLocs frame_1_writes args s ++ Jvm.arrayLocs frame_1_arrays args s ++ Jvm.staticLocs frame_1_statics s) 0 0 → Post tb e args s (.returned v) u) :
    ArmFor flags0 classFile x code maxLocals ret World_1 tables_1 room_1 Calls_1 rest_1 Pre_1 Post := by
  intro l hfl _ _ p e ha hc hk s m args below hf hA hF happ hP
  obtain ⟨hcalls, hrest, hpre⟩ := hP
  obtain ⟨-, -, -, hnamed, -, -, -, hat⟩ := (Spec.applies_iff hf).mp happ
  obtain ⟨hg, hn⟩ := and_e (Cond.before_iff.mp (show (Jvm.Cond.and given_1 narrow_1).before args s = true from hpre))
  obtain ⟨g0, hg⟩ := and_e hg
  obtain ⟨g1, hg⟩ := and_e hg
  have g2 := hg
  obtain ⟨w0, w1, rfl⟩ : ∃ w0 w1 : Value, args = #[w0, w1] := by
    have hs : args.size = 2 := by simpa [Cond.value, given_1] using g0
    obtain ⟨Lx⟩ := args
    match Lx, hs with
    | [w0, w1], _ => exact ⟨w0, w1, rfl⟩
  have hw := fun d (hd : d ∈ tables_1) => atoms_spec (ws := Jvm.Cond.code x code maxLocals ret :: tables_1) hat d (List.mem_cons_of_mem _ hd)
  obtain ⟨i0, ei0⟩ := is_v g1
  obtain rfl : w0 = (.int i0) := Option.some.inj ei0
  obtain ⟨i1, ei1⟩ := isL_v g2
  obtain rfl : w1 = (.long i1) := Option.some.inj ei1
  obtain ⟨n0, hn⟩ := and_e hn
  obtain ⟨n1, hn⟩ := and_e hn
  obtain ⟨n2, hn⟩ := and_e hn
  obtain ⟨n3, hn⟩ := and_e hn
  obtain ⟨n4, hn⟩ := and_e hn
  obtain ⟨n5, hn⟩ := and_e hn
  obtain ⟨n6, hn⟩ := and_e hn
  obtain ⟨n7, hn⟩ := and_e hn
  obtain ⟨n8, hn⟩ := and_e hn
  obtain ⟨n9, hn⟩ := and_e hn
  obtain ⟨n10, hn⟩ := and_e hn
  obtain ⟨n11, hn⟩ := and_e hn
  obtain ⟨n12, hn⟩ := and_e hn
  obtain ⟨n13, hn⟩ := and_e hn
  have n14 := hn
  obtain ⟨x0, v0, sS0, sE0⟩ := own_exa n0 (hw _ (List.mem_of_getElem? (i := 8) rfl)) (hw _ (List.mem_of_getElem? (i := 9) rfl))
  obtain ⟨x1, v1, sS1, sE1⟩ := own_exa n2 (hw _ (List.mem_of_getElem? (i := 8) rfl)) (hw _ (List.mem_of_getElem? (i := 21) rfl))
  obtain ⟨x4, v4, sS4, sE4⟩ := own_exa n5 (hw _ (List.mem_of_getElem? (i := 8) rfl)) (hw _ (List.mem_of_getElem? (i := 26) rfl))
  obtain ⟨x3, v3, sS3, sE3⟩ := own_exa n8 (hw _ (List.mem_of_getElem? (i := 8) rfl)) (hw _ (List.mem_of_getElem? (i := 28) rfl))
  obtain ⟨x2, v2, sS2, sE2⟩ := own_exa n12 (hw _ (List.mem_of_getElem? (i := 8) rfl)) (hw _ (List.mem_of_getElem? (i := 30) rfl))
  have sF0_minPortions := own_fldJ v0 n1
  have sF1_minPortions := own_fldJ v1 n3
  have sF1_maxPortions := own_fldJ v1 n4
  have sF4_minPortions := own_fldJ v4 n6
  have sF4_maxPortions := own_fldJ v4 n7
  have sF3_minPortions := own_fldJ v3 n9
  have sF3_maxPortions := own_fldJ v3 n10
  have sF0_maxPortions := own_fldJ v0 n11
  have sF2_minPortions := own_fldJ v2 n13
  have sF2_maxPortions := own_fldJ v2 n14
  have H : Hyp s (fun j => [x0, x1, x2, x3, x4].getD j 0) := ⟨sS0, sE0, sF0_maxPortions, sF0_minPortions, sS1, sE1, sF1_maxPortions, sF1_minPortions, sS2, sE2, sF2_maxPortions, sF2_minPortions, sS3, sE3, sF3_maxPortions, sF3_minPortions, sS4, sE4, sF4_maxPortions, sF4_minPortions⟩
  obtain ⟨n, o, h1, h2, h3, _, L, rfl, ⟨rfl, N⟩, hq⟩ := rm0 l s _ hw tables_1 _ H i0 i1 s.heap ⟨Nat.le_refl _, fun _ _ q => q⟩  p e ha hc hk s m _ below hf ((Spec.applies_iff_loose hf).mp happ).1 ⟨rfl, State.Warmed39.refl s, rfl⟩ trivial
  refine ⟨n, _, h1, h2, h3, hpost _ _ _ _ _ _ ⟨Cond.after_iff.mpr rfl, Cond.after_iff.mpr (eq_i res_at (Term.int_eval (1)) rfl), trivial⟩ ⟨hq.1, hq.2.1, (hq.2.2.sift fun y hy => Or.inr (N y hy)).mono (by decide) (by decide)⟩⟩
theorem main_1_1 : Claimed_1_1 := comes_1 fun _ _ _ _ _ _ h hF => ⟨h.1, hF⟩
theorem main_1_2 : Claimed_1_2 := comes_1 fun _ _ _ _ _ _ h hF => ⟨h.2.1, hF⟩
end Jvm.Pilot.@@N@@
namespace Jvm.Pilot.@@N@@
open Jvm Jvm.ClassFile Sem Op Lib Jvm.Free Jvm.Stand Jvm.Pilot.@@N@@.Jvm.D
/-! MADE BY PROGRAM (witnessworld.py) out of the Statement's table words and the real class files: 12 classes; the members and pool entries that the words name. The judged class is class 1, her method 3. -/
namespace start1
open Jvm.ClassFile
def u (s : String) : CpInfo := .utf8 (stringToUtf16 s)
/-- a pool by its gaps: so many unusable entries, then the entry; so many at the end -/
def gap : Nat → List CpInfo → List CpInfo
  | 0, r => r
  | n + 1, r => .unusable :: gap n r
def poolList (es : List (Nat × CpInfo)) (last : Nat) : List CpInfo := es.foldr (fun e r => gap e.1 (e.2 :: r)) (gap last [])
def pool (es : List (Nat × CpInfo)) (last : Nat) : Array CpInfo := ⟨poolList es last⟩
def fileOf (pool : Array CpInfo) (this : Nat) (attrs : Array Attribute := #[]) (ms : Array MethodInfo := #[]) (fl : Nat := 33) (sup : Nat := 0) (ifs : Array Nat := #[]) (fds : Array FieldInfo := #[]) : ClassFile where
  minorVersion := 0
  majorVersion := 65
  constantPool := pool
  accessFlags := fl
  thisClass := this
  superClass := sup
  interfaces := ifs
  fields := fds
  methods := ms
  attributes := attrs
def plain (name : String) (sup : Option ClassId) : Class where
  name := name
  kind := .ordinary
  loader := none
  accessFlags := 33
  super := sup
  interfaces := #[]
  cf := none
  fields := #[]
  methods := #[]
  instanceTypes := #[]
  staticTypes := #[]
  resolved := #[]
  callSites := []
  init := .initialized
  statics := none
  mirror := none

def pool0 : Array CpInfo := pool [(5, u "<init>"), (0, u "()V"), (1, .class_ 10), (1, u "java/lang/Object")] 113

def k0m0 : Method := { name := "<init>", desc := "()V", sig := { parameters := [], returnType := none }, accessFlags := 1, code := none }
/-- java/lang/Object -/
def k0 : Class := { plain "java/lang/Object" none with
  accessFlags := 33
  interfaces := #[]
  cf := some (fileOf pool0 8 #[] #[{ accessFlags := 1, nameIndex := 5, descriptorIndex := 6, attributes := #[] }] 33 0 #[] #[])
  fields := #[]
  methods := #[k0m0]
  instanceTypes := #[]
  staticTypes := #[]
  resolved := Array.replicate 124 none
  statics := none }

def pool1 : Array CpInfo := pool [(2, .class_ 4), (1, u "java/lang/Object"), (0, u "<init>"), (0, u "()V"), (0, .fieldref 8 9), (0, .class_ 10), (0, .nameAndType 11 12), (0, u "com/example/creditd/creditd/core/GiftType"), (0, u "SIMPLE"), (0, u "Lcom/example/creditd/creditd/core/GiftType;"), (0, .fieldref 8 14), (0, .nameAndType 15 12), (0, u "SPLIT"), (0, .fieldref 8 17), (0, .nameAndType 18 12), (0, u "FIRST_COME"), (0, .fieldref 8 20), (0, .nameAndType 21 12), (0, u "PERSONALIZED"), (0, .fieldref 8 23), (0, .nameAndType 24 12), (0, u "RIDDLE"), (0, .long 2), (1, .long 100), (1, .integer 2147483647), (0, .long 127), (1, .methodref 33 34), (0, .class_ 35), (0, .nameAndType 36 37), (0, u "com/example/creditd/creditd/core/GiftTypeAdmitsPinLaw"), (0, u "pick"), (0, u "(I)Lcom/example/creditd/creditd/core/GiftType;"), (0, .methodref 8 39), (0, .nameAndType 40 41), (0, u "admits"), (0, u "(J)Z"), (0, .methodref 33 43), (0, .nameAndType 44 45), (0, u "expected"), (0, u "(IJ)Z"), (3, u "law")] 2

def k1m0 : Method := { name := "<init>", desc := "()V", sig := { parameters := [], returnType := none }, accessFlags := 2, code := none }
def k1c1 : Code := { maxStack := 2, maxLocals := 1, code := method_2_code, exceptionTable := #[], attributes := #[] }
def k1m1 : Method := { name := "pick", desc := "(I)Lcom/example/creditd/creditd/core/GiftType;", sig := { parameters := [.int], returnType := some (.object "com/example/creditd/creditd/core/GiftType") }, accessFlags := 10, code := some k1c1 }
def k1c2 : Code := { maxStack := 4, maxLocals := 3, code := method_3_code, exceptionTable := #[], attributes := #[] }
def k1m2 : Method := { name := "expected", desc := "(IJ)Z", sig := { parameters := [.int, .long], returnType := some .boolean }, accessFlags := 10, code := some k1c2 }
def k1c3 : Code := { maxStack := 4, maxLocals := 8, code := code, exceptionTable := #[], attributes := #[] }
def k1m3 : Method := { name := "law", desc := "(IJ)Z", sig := { parameters := [.int, .long], returnType := some .boolean }, accessFlags := 9, code := some k1c3 }
/-- com/example/creditd/creditd/core/GiftTypeAdmitsPinLaw -/
def k1 : Class := { plain "com/example/creditd/creditd/core/GiftTypeAdmitsPinLaw" (some 0) with
  accessFlags := 49
  interfaces := #[]
  cf := some (fileOf pool1 33 #[] #[{ accessFlags := 2, nameIndex := 5, descriptorIndex := 6, attributes := #[] }, { accessFlags := 10, nameIndex := 36, descriptorIndex := 37, attributes := #[] }, { accessFlags := 10, nameIndex := 44, descriptorIndex := 45, attributes := #[] }, { accessFlags := 9, nameIndex := 49, descriptorIndex := 45, attributes := #[] }] 49 2 #[] #[])
  fields := #[]
  methods := #[k1m0, k1m1, k1m2, k1m3]
  instanceTypes := #[]
  staticTypes := #[]
  resolved := Array.replicate 52 none
  statics := none }

def pool2 : Array CpInfo := pool [(1, .class_ 2), (0, u "java/lang/constant/Constable"), (0, .class_ 4), (0, u "java/lang/Object")] 6

/-- java/lang/constant/Constable -/
def k2 : Class := { plain "java/lang/constant/Constable" (some 0) with
  accessFlags := 1537
  interfaces := #[]
  cf := some (fileOf pool2 1 #[] #[] 1537 3 #[] #[])
  fields := #[]
  methods := #[]
  instanceTypes := #[]
  staticTypes := #[]
  resolved := Array.replicate 11 none
  statics := none }

def pool3 : Array CpInfo := pool [(1, .class_ 2), (0, u "java/lang/Comparable"), (0, .class_ 4), (0, u "java/lang/Object")] 7

/-- java/lang/Comparable -/
def k3 : Class := { plain "java/lang/Comparable" (some 0) with
  accessFlags := 1537
  interfaces := #[]
  cf := some (fileOf pool3 1 #[] #[] 1537 3 #[] #[])
  fields := #[]
  methods := #[]
  instanceTypes := #[]
  staticTypes := #[]
  resolved := Array.replicate 12 none
  statics := none }

def pool4 : Array CpInfo := pool [(1, .class_ 2), (0, u "java/io/Serializable"), (0, .class_ 4), (0, u "java/lang/Object")] 2

/-- java/io/Serializable -/
def k4 : Class := { plain "java/io/Serializable" (some 0) with
  accessFlags := 1537
  interfaces := #[]
  cf := some (fileOf pool4 1 #[] #[] 1537 3 #[] #[])
  fields := #[]
  methods := #[]
  instanceTypes := #[]
  staticTypes := #[]
  resolved := Array.replicate 7 none
  statics := none }

def pool5 : Array CpInfo := pool [(2, .class_ 4), (1, u "java/lang/Enum"), (0, u "name"), (0, u "Ljava/lang/String;"), (2, u "ordinal"), (0, u "I"), (1, .class_ 14), (1, u "java/lang/Object"), (4, u "hash"), (86, .class_ 108), (1, u "java/lang/Enum$EnumDesc"), (2, .class_ 112), (0, u "java/lang/constant/Constable"), (0, .class_ 114), (0, u "java/lang/Comparable"), (0, .class_ 116), (0, u "java/io/Serializable")] 87

/-- java/lang/Enum -/
def k5 : Class := { plain "java/lang/Enum" (some 0) with
  accessFlags := 1057
  interfaces := #[2, 3, 4]
  cf := some (fileOf pool5 2 #[.nestMembers #[106]] #[] 1057 12 #[111, 113, 115] #[{ accessFlags := 18, nameIndex := 5, descriptorIndex := 6, attributes := #[] }, { accessFlags := 18, nameIndex := 9, descriptorIndex := 10, attributes := #[] }, { accessFlags := 2, nameIndex := 19, descriptorIndex := 10, attributes := #[] }])
  fields := #[{ name := "name", type := (.object "java/lang/String"), accessFlags := 18, slot := 0, constantValue := 0 }, { name := "ordinal", type := .int, accessFlags := 18, slot := 1, constantValue := 0 }, { name := "hash", type := .int, accessFlags := 2, slot := 2, constantValue := 0 }]
  methods := #[]
  instanceTypes := #[(.object "java/lang/String"), .int, .int]
  staticTypes := #[]
  resolved := Array.replicate 204 none
  statics := none }

def pool6 : Array CpInfo := pool [(1, .class_ 2), (0, u "com/example/creditd/creditd/core/GiftType"), (2, u "SIMPLE"), (0, u "Lcom/example/creditd/creditd/core/GiftType;"), (2, u "SPLIT"), (2, u "FIRST_COME"), (2, u "PERSONALIZED"), (2, u "RIDDLE"), (2, u "$VALUES"), (0, u "[Lcom/example/creditd/creditd/core/GiftType;"), (6, .class_ 31), (1, u "java/lang/Enum"), (6, .fieldref 1 39), (0, .nameAndType 40 41), (0, u "minPortions"), (0, u "J"), (0, .fieldref 1 43), (0, .nameAndType 44 41), (0, u "maxPortions"), (61, u "admits"), (0, u "(J)Z")] 36

def k6c0 : Code := { maxStack := 4, maxLocals := 3, code := prog_12_method_6_code, exceptionTable := #[], attributes := #[] }
def k6m0 : Method := { name := "admits", desc := "(J)Z", sig := { parameters := [.long], returnType := some .boolean }, accessFlags := 1, code := some k6c0 }
/-- com/example/creditd/creditd/core/GiftType -/
def k6 : Class := { plain "com/example/creditd/creditd/core/GiftType" (some 5) with
  accessFlags := 16433
  interfaces := #[]
  cf := some (fileOf pool6 1 #[] #[{ accessFlags := 1, nameIndex := 106, descriptorIndex := 107, attributes := #[] }] 16433 29 #[] #[{ accessFlags := 16409, nameIndex := 5, descriptorIndex := 6, attributes := #[] }, { accessFlags := 16409, nameIndex := 9, descriptorIndex := 6, attributes := #[] }, { accessFlags := 16409, nameIndex := 12, descriptorIndex := 6, attributes := #[] }, { accessFlags := 16409, nameIndex := 15, descriptorIndex := 6, attributes := #[] }, { accessFlags := 16409, nameIndex := 18, descriptorIndex := 6, attributes := #[] }, { accessFlags := 18, nameIndex := 40, descriptorIndex := 41, attributes := #[] }, { accessFlags := 18, nameIndex := 44, descriptorIndex := 41, attributes := #[] }, { accessFlags := 4122, nameIndex := 21, descriptorIndex := 22, attributes := #[] }])
  fields := #[{ name := "SIMPLE", type := (.object "com/example/creditd/creditd/core/GiftType"), accessFlags := 16409, slot := 0, constantValue := 0 }, { name := "SPLIT", type := (.object "com/example/creditd/creditd/core/GiftType"), accessFlags := 16409, slot := 1, constantValue := 0 }, { name := "FIRST_COME", type := (.object "com/example/creditd/creditd/core/GiftType"), accessFlags := 16409, slot := 2, constantValue := 0 }, { name := "PERSONALIZED", type := (.object "com/example/creditd/creditd/core/GiftType"), accessFlags := 16409, slot := 3, constantValue := 0 }, { name := "RIDDLE", type := (.object "com/example/creditd/creditd/core/GiftType"), accessFlags := 16409, slot := 4, constantValue := 0 }, { name := "minPortions", type := .long, accessFlags := 18, slot := 3, constantValue := 0 }, { name := "maxPortions", type := .long, accessFlags := 18, slot := 4, constantValue := 0 }, { name := "$VALUES", type := (.array (.object "com/example/creditd/creditd/core/GiftType")), accessFlags := 4122, slot := 5, constantValue := 0 }]
  methods := #[k6m0]
  instanceTypes := #[(.object "java/lang/String"), .int, .int, .long, .long]
  staticTypes := #[(.object "com/example/creditd/creditd/core/GiftType"), (.object "com/example/creditd/creditd/core/GiftType"), (.object "com/example/creditd/creditd/core/GiftType"), (.object "com/example/creditd/creditd/core/GiftType"), (.object "com/example/creditd/creditd/core/GiftType"), (.array (.object "com/example/creditd/creditd/core/GiftType"))]
  resolved := Array.replicate 144 none
  statics := some 0 }

def pool7 : Array CpInfo := pool [(1, u "java/lang/Cloneable"), (0, .class_ 1), (0, u "java/lang/Object"), (0, .class_ 3)] 3

/-- java/lang/Cloneable -/
def k7 : Class := { plain "java/lang/Cloneable" (some 0) with
  accessFlags := 1537
  interfaces := #[]
  cf := some (fileOf pool7 2 #[] #[] 1537 4 #[] #[])
  fields := #[]
  methods := #[]
  instanceTypes := #[]
  staticTypes := #[]
  resolved := Array.replicate 8 none
  statics := none }

/-- the primitive byte -/
def k8 : Class := { plain "byte" none with kind := .primitive 'B', accessFlags := 0x411 }
/-- [B -/
def k9 : Class := { plain "[B" (some 0) with kind := .array 8 .byte, interfaces := #[7, 4], accessFlags := 1041 }

/-- the primitive int -/
def k10 : Class := { plain "int" none with kind := .primitive 'I', accessFlags := 0x411 }
/-- [I -/
def k11 : Class := { plain "[I" (some 0) with kind := .array 10 .int, interfaces := #[7, 4], accessFlags := 1041 }

def heap : Heap := #[{ cls := 6, slots := #[.ref 1, .ref 2, .ref 3, .ref 4, .ref 5, .null], vm := .statics 6 },
  { cls := 6, slots := #[.null, .int 0, .int 0, .long 1, .long 1], vm := .none },
  { cls := 6, slots := #[.null, .int 0, .int 0, .long 2, .long 100], vm := .none },
  { cls := 6, slots := #[.null, .int 0, .int 0, .long 1, .long 100], vm := .none },
  { cls := 6, slots := #[.null, .int 0, .int 0, .long 1, .long 1], vm := .none },
  { cls := 6, slots := #[.null, .int 0, .int 0, .long 1, .long 1], vm := .none }]
def classes : Array Class := #[k0, k1, k2, k3, k4, k5, k6, k7, k8, k9, k10, k11]
def interned : List (Array UInt16 × Addr) := []
def slotsUsed : Nat := 31
def theMethod : MethodId := ⟨1, 3⟩
def args0 : Array Value := #[.int 5, .long 7]
def aboutOver (below : List Frame) : State where
  vm := { classes := classes, interned := interned.toArray }
  heap := heap
  slotsUsed := slotsUsed
  threads := #[{ frames := .invoking theMethod args0 :: below }]
def below0 : List Frame := [.native { method := ⟨0, 0⟩, args := #[] }]
def about1 : State := aboutOver below0
def p0 : Program := .bare "" "" ""
def e0 : Env := launch0.env 0 0 0
theorem w_frames : about1.frames = Frame.invoking theMethod args0 :: below0 := rfl
set_option maxRecDepth 65536 in
theorem w_args : argsFit about1.vm theMethod args0 = true := by decide +kernel
set_option maxRecDepth 65536 in
theorem w_heap : heapFits about1 = true := by decide +kernel
set_option maxRecDepth 65536 in
theorem w_runnable : about1.curStatus? = some .runnable := by decide +kernel
set_option maxRecDepth 65536 in
theorem w_alone : about1.alone = true := by decide +kernel
set_option maxRecDepth 65536 in
theorem w_named : about1.methodNamed? x = some theMethod := by decide +kernel
set_option maxRecDepth 65536 in
theorem w_hears : about1.hears theMethod below0 = true := by decide +kernel
set_option maxRecDepth 65536 in
theorem w_ripe : about1.ripe theMethod args0 below0 = true := by decide +kernel
theorem w_running : about1.status = .running := rfl
set_option maxRecDepth 65536 in
theorem w_room : about1.hasRoom e0.platform room_1 = true :=
  launch0.hasRoom_least _ room_1 (by decide +kernel) (by decide +kernel) (by decide +kernel) (by decide +kernel) (by decide +kernel) (by decide +kernel)
theorem allAtoms_all (ts : List Jvm.Cond) (a : Array Jvm.Value) (st : Jvm.State) : (allAtoms ts).before a st = ts.all (fun c => c.before a st) := by
  induction ts with
  | nil => rfl
  | cons c t ih =>
    show (Jvm.Cond.and c (allAtoms t)).before a st = _
    rw [Jvm.Cond.before_and, ih, List.all_cons]
def words1 : List Jvm.Cond := Jvm.Cond.code x code maxLocals ret :: tables_1
/-- a 'code' word, met by the world's own term for the bytes: nothing is compared byte by byte -/
theorem code_word {y : MethodName} {bytes : ByteArray} {mx : Nat} {rt : Option FieldType} {a : Array Value} {s : State} {m : MethodId} {meth : Method} {c : Code} (h1 : s.methodNamed? y = some m) (h2 : s.vm.method? m = some meth) (h3 : meth.code = some c) (h4 : c.code = bytes)
    (h5 : (c.maxLocals == mx && c.exceptionTable.isEmpty && decide (c.maxStack ≤ mostOperands) && decide (meth.sig.returnType = rt) && !meth.locks && decide (parseMethodDescriptor y.desc = some meth.sig)) = true) : (Jvm.Cond.code y bytes mx rt).before a s = true := by
  simp only [Bool.and_eq_true, beq_iff_eq, Bool.not_eq_true', decide_eq_true_eq] at h5
  obtain ⟨⟨⟨⟨⟨g1, g2⟩, g3⟩, g4⟩, g5⟩, g6⟩ := h5
  simp [Cond.before, Cond.holds, Cond.value, h1, h2, h3, h4, g1, g2, g3, g4, g5, g6]
def isCode : Jvm.Cond → Bool
  | .code _ _ _ _ => true
  | _ => false
theorem all_split {L : List Jvm.Cond} {P : Jvm.Cond → Bool} (h1 : L.all (fun c => isCode c || P c) = true) (h2 : ∀ c ∈ L.filter isCode, P c = true) : L.all P = true := by
  refine List.all_eq_true.mpr fun c hc => ?_
  have h := List.all_eq_true.mp h1 c hc
  rcases Bool.eq_false_or_eq_true (isCode c) with hi | hi
  · exact h2 c (List.mem_filter.mpr ⟨hc, hi⟩)
  · simpa [hi] using h
set_option maxRecDepth 65536 in
theorem w_c0 : (Jvm.Cond.code x code maxLocals ret).before args0 about1 = true := code_word (m := ⟨1, 3⟩) (meth := k1m3) (c := k1c3) (by decide +kernel) rfl rfl rfl (by decide +kernel)
set_option maxRecDepth 65536 in
theorem w_c1 : (Jvm.Cond.code ({ cls := "com/example/creditd/creditd/core/GiftTypeAdmitsPinLaw", name := "pick", desc := "(I)Lcom/example/creditd/creditd/core/GiftType;" } : Jvm.MethodName) method_2_code (1 : Nat) (Option.some (Jvm.ClassFile.FieldType.object "com/example/creditd/creditd/core/GiftType"))).before args0 about1 = true := code_word (m := ⟨1, 1⟩) (meth := k1m1) (c := k1c1) (by decide +kernel) rfl rfl rfl (by decide +kernel)
set_option maxRecDepth 65536 in
theorem w_c2 : (Jvm.Cond.code ({ cls := "com/example/creditd/creditd/core/GiftType", name := "admits", desc := "(J)Z" } : Jvm.MethodName) prog_12_method_6_code (3 : Nat) (Option.some Jvm.ClassFile.FieldType.boolean)).before args0 about1 = true := code_word (m := ⟨6, 0⟩) (meth := k6m0) (c := k6c0) (by decide +kernel) rfl rfl rfl (by decide +kernel)
set_option maxRecDepth 65536 in
theorem w_c3 : (Jvm.Cond.code ({ cls := "com/example/creditd/creditd/core/GiftTypeAdmitsPinLaw", name := "expected", desc := "(IJ)Z" } : Jvm.MethodName) method_3_code (3 : Nat) (Option.some Jvm.ClassFile.FieldType.boolean)).before args0 about1 = true := code_word (m := ⟨1, 2⟩) (meth := k1m2) (c := k1c2) (by decide +kernel) rfl rfl rfl (by decide +kernel)
def codes1 : List Jvm.Cond := [Jvm.Cond.code x code maxLocals ret, Jvm.Cond.code ({ cls := "com/example/creditd/creditd/core/GiftTypeAdmitsPinLaw", name := "pick", desc := "(I)Lcom/example/creditd/creditd/core/GiftType;" } : Jvm.MethodName) method_2_code (1 : Nat) (Option.some (Jvm.ClassFile.FieldType.object "com/example/creditd/creditd/core/GiftType")), Jvm.Cond.code ({ cls := "com/example/creditd/creditd/core/GiftType", name := "admits", desc := "(J)Z" } : Jvm.MethodName) prog_12_method_6_code (3 : Nat) (Option.some Jvm.ClassFile.FieldType.boolean), Jvm.Cond.code ({ cls := "com/example/creditd/creditd/core/GiftTypeAdmitsPinLaw", name := "expected", desc := "(IJ)Z" } : Jvm.MethodName) method_3_code (3 : Nat) (Option.some Jvm.ClassFile.FieldType.boolean)]
set_option maxRecDepth 65536 in
theorem codes_eq : words1.filter isCode = codes1 := rfl
theorem w_codes : ∀ c ∈ words1.filter isCode, c.before args0 about1 = true := by
  rw [codes_eq]
  intro c hc
  simp only [codes1, List.mem_cons, List.not_mem_nil, or_false] at hc
  rcases hc with rfl | rfl | rfl | rfl
  · exact w_c0
  · exact w_c1
  · exact w_c2
  · exact w_c3
set_option maxRecDepth 65536 in
theorem w_t1 : (words1.take 24).all (fun c => isCode c || c.before args0 about1) = true := by decide +kernel
set_option maxRecDepth 65536 in
theorem w_t2 : (words1.drop 24).all (fun c => isCode c || c.before args0 about1) = true := by decide +kernel
theorem w_tables : (allAtoms (Jvm.Cond.code x code maxLocals ret :: tables_1)).before args0 about1 = true := by
  rw [allAtoms_all]
  show words1.all (fun c => c.before args0 about1) = true
  refine all_split ?_ w_codes
  rw [← List.take_append_drop 24 words1, List.all_append, w_t1, w_t2]
  rfl
set_option maxRecDepth 65536 in
theorem w_case : (Jvm.Cond.and given_1 narrow_1).before args0 about1 = true := by decide +kernel
theorem w_applies : (headSpec (Jvm.Cond.code x code maxLocals ret :: tables_1) room_1).applies x e0.platform about1 = true :=
  (Spec.applies_iff w_frames).mpr ⟨w_running, w_runnable, w_alone, w_named, w_hears, w_ripe, w_room, w_tables⟩
theorem atStart : AtStart classFile x code maxLocals ret World_1 tables_1 room_1 Calls_1 rest_1 Pre_1 launch0 p0 e0 about1 theMethod args0 below0 :=
  ⟨lists_1, trivial, launch0.admits_env _ _ _, launch0.least_env, fairChoices_fair.cas, fairChoices_fair.clock, w_frames, w_args, w_heap, w_applies, trivial, trivial, w_case⟩
end start1
theorem witness_1 : WitnessClaimed_1 := ⟨start1.p0, start1.e0, start1.about1, start1.theMethod, start1.args0, start1.below0, start1.atStart⟩
end Jvm.Pilot.@@N@@
