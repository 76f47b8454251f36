import JvmDerived
import JvmDerived.Pilot.@@N@@Statement
import JvmDerived.Pilot.@@N@@Code
set_option linter.unusedVariables false
set_option linter.unusedSimpArgs false
namespace Jvm.Pilot.@@N@@
open Jvm Jvm.ClassFile Sem Op Lib Jvm.Free Jvm.Stand Jvm.LawKit Jvm.RoadKit Bundle Jvm.Pilot.@@N@@.Jvm.D
section Own
variable {p : Program} {l : Launch} {e : Env} {R : Room} {s : State} {m : MethodId} {args : Array Value} {below : List Frame} {meth : Method} {c : Code} {T : State} {locs : List Loc} {cells slots : Nat} {Z : State} {a0 : Array Value} {h h' : Heap} {Q : Option Value → Heap → List Loc → Prop} {k n : Nat} {S S' : State}
/-- from S the walk comes to its end, and Q holds there -/
def own_Go (p : Program) (e : Env) (below : List Frame) (s : State) (Q : Option Value → Heap → List Loc → Prop) (k n : Nat) (S : State) : Prop :=
  ∃ s₂ o, Steps p.tables e below S s₂ ∧ s₂.status = .running ∧ Ended s₂ below o ∧ ∃ v L, o = .returned v ∧ Q v s₂.heap L ∧ FrameEnd s o s₂ L k n
theorem own_step (f : ∀ t, Steps p.tables e below S' t → Steps p.tables e below S t) (g : own_Go p e below s Q k n S') : own_Go p e below s Q k n S := by
  obtain ⟨s₂, o, h1, r⟩ := g
  exact ⟨s₂, o, f _ h1, r⟩
theorem own_ret (X : Stand p l e R s m args below meth c T locs cells slots) (hx : p.tables.exec = Jvm.exec) (hlk : meth.locks = false) {pc : Nat} {Ls : Array Slot} {w : Value} {t : FieldType} {i : Instr} {rest : List Value} (hret : meth.sig.returnType = some t) (hn : narrow t w = w)
    (hi : (i = .ireturn ∧ (t = .int ∨ t = .boolean ∨ t = .byte ∨ t = .char ∨ t = .short) ∧ ∃ z, w = .int z) ∨ (i = .lreturn ∧ t = .long ∧ ∃ z, w = .long z) ∨ (i = .dreturn ∧ t = .double ∧ ∃ z, w = .double z) ∨ (i = .freturn ∧ t = .float ∧ ∃ z, w = .float z) ∨ (i = .areturn ∧ t.isReference = true ∧ w.isRef = true))
    (hd : decode c.code pc = .ok (i, 1)) (hQ : Q (some w) T.heap locs) (hk : cells ≤ k) (hs : slots ≤ n) : own_Go p e below s Q k n (T.setTop (mkF m pc Ls (w :: rest))) := by
  obtain ⟨fs, hr, hrun, hended, hW, hsame⟩ := X.leave (v := some w) (fun h => by rw [hret] at h; cases h) hlk
  exact ⟨_, _, retOut X hx hret hn hi hd hr, hrun, hended, _, _, rfl, hQ, ⟨_, rfl⟩, hW, hsame.mono hk hs⟩
theorem own_retI (X : Stand p l e R s m args below meth c T locs cells slots) (hx : p.tables.exec = Jvm.exec) (hlk : meth.locks = false) {pc : Nat} {Ls : Array Slot} {z : Int32} {t : FieldType} {rest : List Value} (hret : meth.sig.returnType = some t) (ht : t = .int ∨ t = .boolean ∨ t = .byte ∨ t = .char ∨ t = .short) (hn : narrow t (.int z) = .int z)
    (hd : decode c.code pc = .ok (.ireturn, 1)) (hQ : Q (some (.int z)) T.heap locs) (hk : cells ≤ k) (hs : slots ≤ n) : own_Go p e below s Q k n (T.setTop (mkF m pc Ls (.int z :: rest))) :=
  own_ret X hx hlk hret hn (Or.inl ⟨rfl, ht, z, rfl⟩) hd hQ hk hs
theorem own_retJ (X : Stand p l e R s m args below meth c T locs cells slots) (hx : p.tables.exec = Jvm.exec) (hlk : meth.locks = false) {pc : Nat} {Ls : Array Slot} {z : Int64} {rest : List Value} (hret : meth.sig.returnType = some .long)
    (hd : decode c.code pc = .ok (.lreturn, 1)) (hQ : Q (some (.long z)) T.heap locs) (hk : cells ≤ k) (hs : slots ≤ n) : own_Go p e below s Q k n (T.setTop (mkF m pc Ls (.long z :: rest))) :=
  own_ret X hx hlk hret rfl (Or.inr (Or.inl ⟨rfl, rfl, z, rfl⟩)) hd hQ hk hs
theorem own_narrow_ref {t : FieldType} {w : Value} (ht : t.isReference = true) (hw : w.isRef = true) : narrow t w = w := by
  rcases ref_cases hw with rfl | ⟨z, rfl⟩ <;> cases t <;> first | rfl | (simp [FieldType.isReference] at ht)
theorem own_retA (X : Stand p l e R s m args below meth c T locs cells slots) (hx : p.tables.exec = Jvm.exec) (hlk : meth.locks = false) {pc : Nat} {Ls : Array Slot} {w : Value} {t : FieldType} {rest : List Value} (hret : meth.sig.returnType = some t) (ht : t.isReference = true) (hw : w.isRef = true)
    (hd : decode c.code pc = .ok (.areturn, 1)) (hQ : Q (some w) T.heap locs) (hk : cells ≤ k) (hs : slots ≤ n) : own_Go p e below s Q k n (T.setTop (mkF m pc Ls (w :: rest))) :=
  own_ret X hx hlk hret (own_narrow_ref ht hw) (Or.inr (Or.inr (Or.inr (Or.inr ⟨rfl, ht, hw⟩)))) hd hQ hk hs
theorem own_retV (X : Stand p l e R s m args below meth c T locs cells slots) (hx : p.tables.exec = Jvm.exec) (hlk : meth.locks = false) {pc : Nat} {Ls : Array Slot} (hret : meth.sig.returnType = none)
    (hd : decode c.code pc = .ok (.return_, 1)) (hQ : Q none T.heap locs) (hk : cells ≤ k) (hs : slots ≤ n) : own_Go p e below s Q k n (T.setTop (mkF m pc Ls [])) := by
  obtain ⟨fs, hr, hrun, hended, hW, hsame⟩ := X.leave (v := none) (fun _ => rfl) hlk
  exact ⟨_, _, X.returnOut hx hret hd hr, hrun, hended, _, _, rfl, hQ, ⟨_, rfl⟩, hW, hsame.mono hk hs⟩
theorem own_cat {v : Value} (q : v.isRef = true) : v.category = 1 := by
  rcases ref_cases q with rfl | ⟨z, rfl⟩ <;> rfl
/-- what a body is asked for: it is called with the arguments as', over the heap h0 -/
abbrev own_Met (l : Launch) (Z : State) (y : MethodName) (bytes : ByteArray) (maxL : Nat) (ret : Option FieldType) (ws : List Jvm.Cond) (rm : Room) (as' : Array Value) (h0 : Heap) (Q : Option Value → Heap → List Loc → Prop) : Prop :=
  MetFree l y (head1 (Jvm.Cond.code y bytes maxL ret :: ws) rm) (fun a U => a = as' ∧ Z.Warmed39 U.vm ∧ U.heap = h0) (fun _ _ _ _ _ => True) (fun _ U o U' => ∃ v L, o = .returned v ∧ Q v U'.heap L ∧ FrameEnd U o U' L rm.cells rm.slots)
/-- a body that leaves the heap as it was, and returns V -/
def own_P (Z : State) (h0 : Heap) (V : Value) (v : Option Value) (h : Heap) (L : List Loc) : Prop := v = some V ∧ Fr Z.heap.size L ∧ h = h0
theorem own_body {y : MethodName} {bytes : ByteArray} {maxL : Nat} {ret : Option FieldType} {ws : List Jvm.Cond} {rm : Room} {as' : Array Value} {h0 : Heap} {ls : Array Slot} (hn : plainFor y = true) (hf : ∀ m : MethodId, entryFrame m as' maxL = mkF m 0 ls [])
    (H : ∀ (p : Program) (e : Env) (s : State) (m : MethodId) (below : List Frame) (meth : Method) (c : Code) (T : State), Z.Warmed39 s.vm → p.tables.exec = Jvm.exec → c.code = bytes → c.maxLocals = maxL → s.vm.findClass y.cls = some m.cls → meth.name = y.name → meth.sig.returnType = ret → meth.locks = false →
      Stand p l e rm s m as' below meth c T [] 0 0 → T.heap = h0 → own_Go p e below s Q rm.cells rm.slots (T.setTop (mkF m 0 ls []))) : own_Met l Z y bytes maxL ret ws rm as' h0 Q := by
  refine MetFree.of_bodySF hn hisR ?_
  intro p e s m args below meth c s₁ Bd hml0 hP hK
  obtain ⟨rfl, hZ, hh⟩ := hP
  obtain ⟨s₂, o, h1, h2, h3, r⟩ := H p e s m below meth c s₁ hZ Bd.exec Bd.bytes hml0 (findClass_of_methodNamed Bd.named) (name_of_methodNamed Bd.named Bd.method).1 Bd.returns (BodyLoose.notSynchronized Bd) (Stand.of_body Bd) (by rw [← hh, Bd.state]; rfl)
  exact ⟨s₂, o, castTop (hf m) h1, h2, h3, r⟩
theorem own_callV (X : Stand p l e R s m args below meth c T locs cells slots) (hx : p.tables.exec = Jvm.exec) (hZ : Z.Warmed39 s.vm) {own C : String} {index : Nat} {y : MethodName} (hown : s.vm.findClass own = some m.cls)
    (w1 : (Jvm.Cond.methodLink own index y).before a0 Z = true) (w2 : (Jvm.Cond.declares y).before a0 Z = true) (w3 : (Jvm.Cond.selects C y y).before a0 Z = true) (w4 : (Jvm.Cond.instanceMethod y).before a0 Z = true) {bytes : ByteArray} {maxL : Nat} {ret : Option FieldType} (wc : (Jvm.Cond.code y bytes maxL ret).before a0 Z = true) (wz : (Jvm.Cond.initialized y.cls).before a0 Z = true)
    (hy : y.cls ≠ "java/lang/invoke/MethodHandle" ∧ y.cls ≠ "java/lang/invoke/VarHandle") {rm : Room} {b : Addr} {argsL rest : List Value} (hM : own_Met l Z y bytes maxL ret [] rm (.ref b :: argsL).toArray h Q) {W : Nat} (hf : rm.frames + 1 ≤ R.frames) (hl : W + (maxL + 11) + rm.locals ≤ R.locals)
    (eT : T.heap = h) (E : Exa Z h b C) {g : JFrame} (hg : g.method = m) (hsize : g.locals.size = c.maxLocals) (hlen : ∀ sig, parseMethodDescriptor y.desc = some sig → argsL.length = sig.parameters.length) (hstack : g.stack = argsL.reverse ++ .ref b :: rest)
    (hW : 2 * g.monitorRoom + (rest.map fun v => v.category).sum ≤ W) (hdg : decode c.code g.pc = .ok (.invokevirtual index, 3)) (hc : cells + rm.cells ≤ R.cells) (hs : slots + rm.slots ≤ R.slots) :
    ∃ v T' L', Stand p l e R s m args below meth c T' (locs ++ L') (cells + rm.cells) (slots + rm.slots) ∧ Q v T'.heap L' ∧ ∀ target, Steps p.tables e below (T'.setTop { g with pc := g.pc + 3, stack := v.toList ++ rest }) target → Steps p.tables e below (T.setTop g) target := by
  obtain ⟨cq, kq, qa, qb, qc⟩ := isOf hZ eT E
  obtain ⟨v, _, ⟨T8, L8, k8, n8⟩, -, X8, ⟨Lc8, hQ8, l8, y8, z8⟩, st8⟩ := X.virtualBack hx hown (mvT hZ w1) (mvT hZ w2) (notFace_of_selects (args := #[]) (mvT hZ w3)) (mvT hZ w3) (mvT hZ w4) hy (backOf (W := W) hM hZ wc wz hf hl) qa qc hg hsize (Steps.refl _) hlen hstack hW hdg (fun _ _ => ⟨rfl, eT, hc, hs⟩)
  dsimp only [Pt.U, Pt.locs, Pt.cells, Pt.slots] at X8 l8 y8 z8 st8 hQ8
  subst l8 y8 z8
  exact ⟨v, T8, Lc8, X8, hQ8, fun t q => st8.trans q⟩
theorem own_callS (X : Stand p l e R s m args below meth c T locs cells slots) (hx : p.tables.exec = Jvm.exec) (hZ : Z.Warmed39 s.vm) {own : String} {index : Nat} {y : MethodName} (hown : s.vm.findClass own = some m.cls)
    (w1 : (Jvm.Cond.methodLink own index y).before a0 Z = true) (w2 : (Jvm.Cond.static y).before a0 Z = true) {bytes : ByteArray} {maxL : Nat} {ret : Option FieldType} (wc : (Jvm.Cond.code y bytes maxL ret).before a0 Z = true) (wz : (Jvm.Cond.initialized y.cls).before a0 Z = true)
    (hy : y.cls ≠ "java/lang/invoke/MethodHandle" ∧ y.cls ≠ "java/lang/invoke/VarHandle") {rm : Room} {argsL rest : List Value} (hM : own_Met l Z y bytes maxL ret [] rm argsL.toArray h Q) {W : Nat} (hf : rm.frames + 1 ≤ R.frames) (hl : W + (maxL + 11) + rm.locals ≤ R.locals)
    (eT : T.heap = h) {g : JFrame} (hg : g.method = m) (hsize : g.locals.size = c.maxLocals) (hlen : ∀ sig, parseMethodDescriptor y.desc = some sig → argsL.length = sig.parameters.length) (hstack : g.stack = argsL.reverse ++ rest)
    (hW : 2 * g.monitorRoom + (rest.map fun v => v.category).sum ≤ W) (hdg : decode c.code g.pc = .ok (.invokestatic index, 3)) (hc : cells + rm.cells ≤ R.cells) (hs : slots + rm.slots ≤ R.slots) :
    ∃ v T' L', Stand p l e R s m args below meth c T' (locs ++ L') (cells + rm.cells) (slots + rm.slots) ∧ Q v T'.heap L' ∧ ∀ target, Steps p.tables e below (T'.setTop { g with pc := g.pc + 3, stack := v.toList ++ rest }) target → Steps p.tables e below (T.setTop g) target := by
  obtain ⟨v, _, ⟨T8, L8, k8, n8⟩, -, X8, ⟨Lc8, hQ8, l8, y8, z8⟩, st8⟩ := Jvm.LawKit.callS X hx hown (mvT hZ w1) (mvT hZ w2) (mvT hZ wz) (mvT hZ wc) hy (backOf (W := W) hM hZ wc wz hf hl) hg hsize hlen hstack hW hdg (fun _ _ => ⟨rfl, eT, hc, hs⟩)
  dsimp only [Pt.U, Pt.locs, Pt.cells, Pt.slots] at X8 l8 y8 z8 st8 hQ8
  subst l8 y8 z8
  exact ⟨v, T8, Lc8, X8, hQ8, st8⟩
theorem own_callI (X : Stand p l e R s m args below meth c T locs cells slots) (hx : p.tables.exec = Jvm.exec) (hZ : Z.Warmed39 s.vm) {own : String} {index : Nat} {y : MethodName} (hy1 : y.name = "<init>") (hown : s.vm.findClass own = some m.cls)
    (w1 : (Jvm.Cond.methodLink own index y).before a0 Z = true) (w2 : (Jvm.Cond.instanceMethod y).before a0 Z = true) {bytes : ByteArray} {maxL : Nat} (wc : (Jvm.Cond.code y bytes maxL none).before a0 Z = true) (wz : (Jvm.Cond.initialized y.cls).before a0 Z = true)
    (hy : y.cls ≠ "java/lang/invoke/MethodHandle" ∧ y.cls ≠ "java/lang/invoke/VarHandle") {rm : Room} {b : Addr} {argsL rest : List Value} (hM : own_Met l Z y bytes maxL none [] rm (.ref b :: argsL).toArray h Q) {W : Nat} (hf : rm.frames + 1 ≤ R.frames) (hl : W + (maxL + 11) + rm.locals ≤ R.locals)
    (eT : T.heap = h) {g : JFrame} (hg : g.method = m) (hsize : g.locals.size = c.maxLocals) (hlen : ∀ sig, parseMethodDescriptor y.desc = some sig → argsL.length = sig.parameters.length) (hstack : g.stack = argsL.reverse ++ .ref b :: rest)
    (hW : 2 * g.monitorRoom + (rest.map fun v => v.category).sum ≤ W) (hdg : decode c.code g.pc = .ok (.invokespecial index, 3)) (hc : cells + rm.cells ≤ R.cells) (hs : slots + rm.slots ≤ R.slots) :
    ∃ v T' L', Stand p l e R s m args below meth c T' (locs ++ L') (cells + rm.cells) (slots + rm.slots) ∧ Q v T'.heap L' ∧ ∀ target, Steps p.tables e below (T'.setTop { g with pc := g.pc + 3, stack := v.toList ++ rest }) target → Steps p.tables e below (T.setTop g) target := by
  obtain ⟨v, _, ⟨T8, L8, k8, n8⟩, -, X8, ⟨Lc8, hQ8, l8, y8, z8⟩, st8⟩ := X.specialBack hx hy1 hown (mvT hZ w1) (mvT hZ w2) (mvT hZ wc) hy (backOf (W := W) hM hZ wc wz hf hl) hg hsize (Steps.refl _) hlen hstack hW hdg (fun _ _ => ⟨rfl, eT, hc, hs⟩)
  dsimp only [Pt.U, Pt.locs, Pt.cells, Pt.slots] at X8 l8 y8 z8 st8 hQ8
  subst l8 y8 z8
  exact ⟨v, T8, Lc8, X8, hQ8, fun t q => st8.trans q⟩
theorem own_ldcI (X : Stand p l e R s m args below meth c T locs cells slots) (hx : p.tables.exec = Jvm.exec) (hZ : Z.Warmed39 s.vm) {own : String} {index : Nat} {v : Int32} (hown : s.vm.findClass own = some m.cls) (w : (Jvm.Cond.constant own index v).before a0 Z = true)
    {g : JFrame} (hg : g.method = m) (hd : decode c.code g.pc = .ok (.ldc index, 2)) : ∀ target, Steps p.tables e below (T.setTop { g with pc := g.pc + 2, stack := .int v :: g.stack }) target → Steps p.tables e below (T.setTop g) target := X.ldcInt hx hown (mvT hZ w) hg hd
theorem own_ldcJ (X : Stand p l e R s m args below meth c T locs cells slots) (hx : p.tables.exec = Jvm.exec) (hZ : Z.Warmed39 s.vm) {own : String} {index : Nat} {v : Int64} (hown : s.vm.findClass own = some m.cls) (w : (Jvm.Cond.constantLong own index v).before a0 Z = true)
    {g : JFrame} (hg : g.method = m) (hd : decode c.code g.pc = .ok (.ldc2_w index, 3)) : ∀ target, Steps p.tables e below (T.setTop { g with pc := g.pc + 3, stack := .long v :: g.stack }) target → Steps p.tables e below (T.setTop g) target := X.ldc2Long hx hown (mvT hZ w) hg hd
/-! arrays: what stands in them, as a list -/
def own_Ar (Z : State) (h : Heap) (a : Addr) (kc : ClassId) (ty : FieldType) (vs : List Value) : Prop := ∃ c : Cell, Arr Z h a c ty ∧ c.cls = kc ∧ c.slots.toList = vs
variable {a b : Addr} {kc : ClassId} {ty : FieldType} {vs vs' : List Value} {v : Value} {i : Nat}
theorem own_Ar.new {z : Int32} (A : Arr Z h a (newA kc ty z) ty) (hz : List.replicate z.toNatClampNeg (defaultValue ty) = vs) : own_Ar Z h a kc ty vs := ⟨_, A, rfl, by rw [← hz]; simp [newA]⟩
theorem own_Ar.set (W : Wr h h' a i v) (F : own_Ar Z h a kc ty vs) (hv : vs.set i v = vs') : own_Ar Z h' a kc ty vs' := by
  obtain ⟨c, A, q, r⟩ := F
  exact ⟨_, A.same W, q, by rw [← hv, ← r]; simp [Cell.setSlot]⟩
theorem own_Ar.other (W : Wr h h' b i v) (F : own_Ar Z h a kc ty vs) (q : a ≠ b) : own_Ar Z h' a kc ty vs := by
  obtain ⟨c, A, r⟩ := F
  exact ⟨c, A.other W q, r⟩
theorem own_Ar.ext (E : Ext h h') (F : own_Ar Z h a kc ty vs) : own_Ar Z h' a kc ty vs := by
  obtain ⟨c, A, r⟩ := F
  exact ⟨c, A.ext E, r⟩
theorem own_Ar.lt (F : own_Ar Z h a kc ty vs) : a < h.size := by
  obtain ⟨c, A, r⟩ := F
  exact A.lt
theorem own_ext_trans {h'' : Heap} (E : Ext h h') (E' : Ext h' h'') : Ext h h'' := ⟨Nat.le_trans E.1 E'.1, fun a c q => E'.2 a c (E.2 a c q)⟩
theorem own_ext_wr {h0 : Heap} (E : Ext h0 h) (W : Wr h h' a i v) (q : h0.size ≤ a) : Ext h0 h' := by
  refine ⟨Nat.le_trans E.1 (Nat.le_of_eq W.size.symm), fun x cx hc => ?_⟩
  obtain ⟨c', e1, -, -, -, e5, -⟩ := wr_at W (E.2 x cx hc)
  have ne : x ≠ a := fun z => by
    have := (Array.getElem?_eq_some_iff.mp hc).1
    subst z
    exact absurd this (Nat.not_lt.mpr q)
  rw [← e5 ne]; exact e1
theorem own_inb {c : Cell} {j : Int32} (r : c.slots.toList = vs) (hj : ¬ j < 0) (hv : vs[j.toNatClampNeg]? = some v) : ¬ (j < 0 ∨ c.slots.size ≤ j.toNatClampNeg) ∧ c.slots[j.toNatClampNeg]? = some v := by
  have q : c.slots[j.toNatClampNeg]? = some v := by rw [← hv, ← r, Array.getElem?_toList]
  refine ⟨fun z => ?_, q⟩
  rcases z with z | z
  · exact hj z
  · exact absurd (Array.getElem?_eq_some_iff.mp q).1 (Nat.not_lt.mpr z)
theorem own_aaload (X : Stand p l e R s m args below meth c T locs cells slots) (hx : p.tables.exec = Jvm.exec) (hZ : Z.Warmed39 s.vm) (eT : T.heap = h) (F : own_Ar Z h a kc ty vs) (hty : ty.isReference = true) {j : Int32} (hj : ¬ j < 0) (hv : vs[j.toNatClampNeg]? = some v)
    {g : JFrame} (hg : g.method = m) {rest : List Value} (hs : g.stack = .int j :: .ref a :: rest) (hd : decode c.code g.pc = .ok (.aaload, 1)) : ∀ target, Steps p.tables e below (T.setTop { g with pc := g.pc + 1, stack := v :: rest }) target → Steps p.tables e below (T.setTop g) target := by
  obtain ⟨cl, A, -, r⟩ := F
  obtain ⟨q1, q2⟩ := own_inb r hj hv
  exact X.aaload hx (by rw [eT]; exact A.1) (State.isArrayOf_alike hZ.alike A.2.1) hty A.2.2 q1 q2 hg hs hd
theorem own_iaload (X : Stand p l e R s m args below meth c T locs cells slots) (hx : p.tables.exec = Jvm.exec) (hZ : Z.Warmed39 s.vm) (eT : T.heap = h) (F : own_Ar Z h a kc .int vs) {j : Int32} (hj : ¬ j < 0) (hv : vs[j.toNatClampNeg]? = some v)
    {g : JFrame} (hg : g.method = m) {rest : List Value} (hs : g.stack = .int j :: .ref a :: rest) (hd : decode c.code g.pc = .ok (.iaload, 1)) : ∀ target, Steps p.tables e below (T.setTop { g with pc := g.pc + 1, stack := v :: rest }) target → Steps p.tables e below (T.setTop g) target := by
  obtain ⟨cl, A, -, r⟩ := F
  obtain ⟨q1, q2⟩ := own_inb r hj hv
  exact fun t k => X.iaload hx (by rw [eT]; exact A.1) (State.isArrayOf_alike hZ.alike A.2.1) A.2.2 q1 q2 hg hs hd t k
theorem own_zaload (X : Stand p l e R s m args below meth c T locs cells slots) (hx : p.tables.exec = Jvm.exec) (hZ : Z.Warmed39 s.vm) (eT : T.heap = h) (F : own_Ar Z h a kc .boolean vs) {j : Int32} (hj : ¬ j < 0) (hv : vs[j.toNatClampNeg]? = some v)
    {g : JFrame} (hg : g.method = m) {rest : List Value} (hs : g.stack = .int j :: .ref a :: rest) (hd : decode c.code g.pc = .ok (.baload, 1)) : ∀ target, Steps p.tables e below (T.setTop { g with pc := g.pc + 1, stack := v :: rest }) target → Steps p.tables e below (T.setTop g) target := by
  obtain ⟨cl, A, -, r⟩ := F
  obtain ⟨q1, q2⟩ := own_inb r hj hv
  exact fun t k => X.baloadBooleans hx (by rw [eT]; exact A.1) (State.isArrayOf_alike hZ.alike A.2.1) A.2.2 q1 q2 hg hs hd t k
theorem own_alen (X : Stand p l e R s m args below meth c T locs cells slots) (hx : p.tables.exec = Jvm.exec) (hZ : Z.Warmed39 s.vm) (eT : T.heap = h) (F : own_Ar Z h a kc ty vs) {z : Int32} (hz : vs.length.toInt32 = z)
    {g : JFrame} (hg : g.method = m) {rest : List Value} (hs : g.stack = .ref a :: rest) (hd : decode c.code g.pc = .ok (.arraylength, 1)) : ∀ target, Steps p.tables e below (T.setTop { g with pc := g.pc + 1, stack := .int z :: rest }) target → Steps p.tables e below (T.setTop g) target := by
  obtain ⟨cl, A, -, r⟩ := F
  have q : cl.slots.size.toInt32 = z := by rw [← hz, ← r]; simp
  subst q
  exact fun t k => X.arraylength hx (by rw [eT]; exact A.1) (State.isArrayOf_alike hZ.alike A.2.1) hg hs hd t k
theorem own_stin {c : Cell} {j : Int32} (r : c.slots.toList = vs) (hj : ¬ j < 0) (hi : j.toNatClampNeg = i) (hlt : i < vs.length) : ¬ (j < 0 ∨ c.slots.size ≤ j.toNatClampNeg) := by
  have q : c.slots.size = vs.length := by rw [← r]; simp
  rintro (z | z)
  · exact hj z
  · omega
theorem own_stR (X : Stand p l e R s m args below meth c T locs cells slots) (hx : p.tables.exec = Jvm.exec) (hZ : Z.Warmed39 s.vm) (eT : T.heap = h) {C : String} (F : own_Ar Z h a kc (.object C) vs) (O : Ovr Z kc C) {y : Addr} (I : Exa Z h y C) {j : Int32} (i : Nat) (vs' : List Value) (hj : ¬ j < 0) (hi : j.toNatClampNeg = i) (hlt : i < vs.length) (hv : vs.set i (.ref y) = vs')
    (Ex : Ext Z.heap h) (ha : Z.heap.size ≤ a) (N : Fr Z.heap.size locs) {g : JFrame} (hg : g.method = m) {rest : List Value} (hs : g.stack = .ref y :: .int j :: .ref a :: rest) (hd : decode c.code g.pc = .ok (.aastore, 1)) :
    ∃ T' h' locs', Stand p l e R s m args below meth c T' locs' cells slots ∧ T'.heap = h' ∧ own_Ar Z h' a kc (.object C) vs' ∧ Ext Z.heap h' ∧ Fr Z.heap.size locs' ∧ Wr h h' a i (.ref y) ∧ ∀ target, Steps p.tables e below (T'.setTop { g with pc := g.pc + 1, stack := rest }) target → Steps p.tables e below (T.setTop g) target := by
  obtain ⟨cl, A, q, r⟩ := F
  obtain ⟨T', h', X', e', W', st⟩ := stR X hx hZ eT A (own_stin r hj hi hlt) rfl (Sto.of A (q ▸ O) (Ins.self I)) hg hs hd
  rw [hi] at W'
  exact ⟨T', h', _, X', e', own_Ar.set W' ⟨cl, A, q, r⟩ hv, own_ext_wr Ex W' ha, Fr.snoc X' N ha, W', st⟩
theorem own_stI (X : Stand p l e R s m args below meth c T locs cells slots) (hx : p.tables.exec = Jvm.exec) (hZ : Z.Warmed39 s.vm) (eT : T.heap = h) (F : own_Ar Z h a kc .int vs) {x j : Int32} (i : Nat) (vs' : List Value) (hj : ¬ j < 0) (hi : j.toNatClampNeg = i) (hlt : i < vs.length) (hv : vs.set i (.int x) = vs')
    (Ex : Ext Z.heap h) (ha : Z.heap.size ≤ a) (N : Fr Z.heap.size locs) {g : JFrame} (hg : g.method = m) {rest : List Value} (hs : g.stack = .int x :: .int j :: .ref a :: rest) (hd : decode c.code g.pc = .ok (.iastore, 1)) :
    ∃ T' h' locs', Stand p l e R s m args below meth c T' locs' cells slots ∧ T'.heap = h' ∧ own_Ar Z h' a kc .int vs' ∧ Ext Z.heap h' ∧ Fr Z.heap.size locs' ∧ Wr h h' a i (.int x) ∧ ∀ target, Steps p.tables e below (T'.setTop { g with pc := g.pc + 1, stack := rest }) target → Steps p.tables e below (T.setTop g) target := by
  obtain ⟨cl, A, q, r⟩ := F
  obtain ⟨T', h', X', e', W', st⟩ := stI X hx hZ eT A (own_stin r hj hi hlt) hg hs hd
  rw [hi] at W'
  exact ⟨T', h', _, X', e', own_Ar.set W' ⟨cl, A, q, r⟩ hv, own_ext_wr Ex W' ha, Fr.snoc X' N ha, W', st⟩
theorem own_stZ (X : Stand p l e R s m args below meth c T locs cells slots) (hx : p.tables.exec = Jvm.exec) (hZ : Z.Warmed39 s.vm) (eT : T.heap = h) (F : own_Ar Z h a kc .boolean vs) {x j : Int32} (i : Nat) (vs' : List Value) (hj : ¬ j < 0) (hi : j.toNatClampNeg = i) (hlt : i < vs.length) (hn : nar .boolean x = x) (hv : vs.set i (.int x) = vs')
    (Ex : Ext Z.heap h) (ha : Z.heap.size ≤ a) (N : Fr Z.heap.size locs) {g : JFrame} (hg : g.method = m) {rest : List Value} (hs : g.stack = .int x :: .int j :: .ref a :: rest) (hd : decode c.code g.pc = .ok (.bastore, 1)) :
    ∃ T' h' locs', Stand p l e R s m args below meth c T' locs' cells slots ∧ T'.heap = h' ∧ own_Ar Z h' a kc .boolean vs' ∧ Ext Z.heap h' ∧ Fr Z.heap.size locs' ∧ Wr h h' a i (.int x) ∧ ∀ target, Steps p.tables e below (T'.setTop { g with pc := g.pc + 1, stack := rest }) target → Steps p.tables e below (T.setTop g) target := by
  obtain ⟨cl, A, q, r⟩ := F
  obtain ⟨T', h', X', e', W', st⟩ := stZ X hx hZ eT A (own_stin r hj hi hlt) hg hs hd
  rw [hi, hn] at W'
  exact ⟨T', h', _, X', e', own_Ar.set W' ⟨cl, A, q, r⟩ hv, own_ext_wr Ex W' ha, Fr.snoc X' N ha, W', st⟩
theorem own_newR (X : Stand p l e R s m args below meth c T locs cells slots) (hx : p.tables.exec = Jvm.exec) (hZ : Z.Warmed39 s.vm) {own C : String} {index : Nat} (hown : s.vm.findClass own = some m.cls) (w1 : (Jvm.Cond.classLink own index C).before a0 Z = true) (w2 : (Jvm.Cond.arrayOver (.object C)).before a0 Z = true)
    (eT : T.heap = h) (Ex : Ext Z.heap h) {g : JFrame} (hg : g.method = m) (hd : decode c.code g.pc = .ok (.anewarray index, 3)) {z : Int32} {rest : List Value} (hs : g.stack = .int z :: rest) (hn : ¬ z < 0) (vs : List Value) (hz : List.replicate z.toNatClampNeg (.null : Value) = vs) {cap : Nat} (hcap : z.toNatClampNeg ≤ cap) (hb : cap * 8 ≤ 536870912) (hc : cells + 1 ≤ R.cells) (hl : slots + cap ≤ R.slots) :
    ∃ T' h' kc a, Stand p l e R s m args below meth c T' locs (cells + 1) (slots + cap) ∧ T'.heap = h' ∧ Ext h h' ∧ Ext Z.heap h' ∧ own_Ar Z h' a kc (.object C) vs ∧ Ovr Z kc C ∧ Z.heap.size ≤ a ∧ h.size = a ∧
      ∀ target, Steps p.tables e below (T'.setTop { g with pc := g.pc + 3, stack := .ref a :: rest }) target → Steps p.tables e below (T.setTop g) target := by
  obtain ⟨T', h', kc, X', e', E', A', O', st⟩ := newR X hx hZ hown w1 w2 eT hg hd hs hn hcap hb hc hl
  exact ⟨T', h', kc, h.size, X', e', E', own_ext_trans Ex E', own_Ar.new A' hz, O', Ex.1, rfl, st⟩
theorem own_newP (X : Stand p l e R s m args below meth c T locs cells slots) (hx : p.tables.exec = Jvm.exec) (hZ : Z.Warmed39 s.vm) {aty : ArrayType} (ty : FieldType) (hty : newarray.typeOf aty = ty) (w : (Jvm.Cond.arrayClass ty).before a0 Z = true)
    (eT : T.heap = h) (Ex : Ext Z.heap h) {g : JFrame} (hg : g.method = m) (hd : decode c.code g.pc = .ok (.newarray aty, 2)) {z : Int32} {rest : List Value} (hs : g.stack = .int z :: rest) (hn : ¬ z < 0) (vs : List Value) (hz : List.replicate z.toNatClampNeg (defaultValue ty) = vs) {cap : Nat} (hcap : z.toNatClampNeg ≤ cap) (hb : cap * 8 ≤ 536870912) (hc : cells + 1 ≤ R.cells) (hl : slots + cap ≤ R.slots) :
    ∃ T' h' kc a, Stand p l e R s m args below meth c T' locs (cells + 1) (slots + cap) ∧ T'.heap = h' ∧ Ext h h' ∧ Ext Z.heap h' ∧ own_Ar Z h' a kc ty vs ∧ Z.heap.size ≤ a ∧ h.size = a ∧
      ∀ target, Steps p.tables e below (T'.setTop { g with pc := g.pc + 2, stack := .ref a :: rest }) target → Steps p.tables e below (T.setTop g) target := by
  subst hty
  obtain ⟨T', h', kc, X', e', E', A', st⟩ := newP X hx hZ w eT hg hd hs hn hcap hb hc hl
  exact ⟨T', h', kc, h.size, X', e', E', own_ext_trans Ex E', own_Ar.new A' hz, Ex.1, rfl, st⟩
theorem own_Ar.keep {ws : List Addr} (K : Keep h h' ws) (F : own_Ar Z h a kc ty vs) (q : a ∉ ws) : own_Ar Z h' a kc ty vs := by
  obtain ⟨c, A, r⟩ := F
  exact ⟨c, ⟨K.2.1 a c A.1 q, A.2⟩, r⟩
/-! objects -/
theorem own_new (X : Stand p l e R s m args below meth c T locs cells slots) (hx : p.tables.exec = Jvm.exec) (hZ : Z.Warmed39 s.vm) {own C : String} {index n : Nat} (hown : s.vm.findClass own = some m.cls) (w : (Jvm.Cond.classLink own index C).before a0 Z = true) (wi : (Jvm.Cond.instantiable C n).before a0 Z = true) (wz : (Jvm.Cond.initialized C).before a0 Z = true) (eT : T.heap = h) (Ex : Ext Z.heap h)
    {g : JFrame} (hg : g.method = m) (hd : decode c.code g.pc = .ok (.new index, 3)) (hc : cells + 1 ≤ R.cells) (hl : slots + n ≤ R.slots) :
    ∃ T' h' a, Stand p l e R s m args below meth c T' locs (cells + 1) (slots + n) ∧ T'.heap = h' ∧ Ext h h' ∧ Ext Z.heap h' ∧ Exa Z h' a C ∧ (∀ {O nm d : String} {ty : FieldType}, Laid Z a0 C O nm d → parseFieldDescriptor d = some ty → Fld Z h' a O nm d (defaultValue ty)) ∧ Z.heap.size ≤ a ∧ h.size = a ∧
      ∀ target, Steps p.tables e below (T'.setTop { g with pc := g.pc + 3, stack := .ref a :: g.stack }) target → Steps p.tables e below (T.setTop g) target := by
  obtain ⟨T', h', X', e', E', A', D', -, st⟩ := newO X hx hZ hown w wi wz eT hg hd hc hl
  exact ⟨T', h', h.size, X', e', E', own_ext_trans Ex E', A', D', Ex.1, rfl, st⟩
theorem own_putF (X : Stand p l e R s m args below meth c T locs cells slots) (hx : p.tables.exec = Jvm.exec) (hZ : Z.Warmed39 s.vm) {own R0 O nm d C : String} {index kk : Nat} {ty : FieldType} (hown : s.vm.findClass own = some m.cls) (w : (Jvm.Cond.fieldLink own index R0 nm d).before a0 Z = true) (via : Via Z R0 O nm d)
    (eT : T.heap = h) {v old : Value} (F : Fld Z h a O nm d old) (E : Exa Z h a C) (L : (Jvm.Cond.lays C O nm d).before a0 Z = true ∨ ((Jvm.Cond.laysFinal C O nm d).before a0 Z = true ∧ own = O ∧ meth.name = "<init>")) (wi : (Jvm.Cond.instantiable C kk).before a0 Z = true)
    (hty : parseFieldDescriptor d = some ty) (hn : narrow ty v = v) (hf : fits ty v = true) (Ex : Ext Z.heap h) (ha : Z.heap.size ≤ a) (N : Fr Z.heap.size locs) {g : JFrame} (hg : g.method = m) {rest : List Value} (hs : g.stack = v :: .ref a :: rest) (hd : decode c.code g.pc = .ok (.putfield index, 3)) :
    ∃ T' h' locs', Stand p l e R s m args below meth c T' locs' cells slots ∧ T'.heap = h' ∧ Fld Z h' a O nm d v ∧ Exa Z h' a C ∧ Ext Z.heap h' ∧ Fr Z.heap.size locs' ∧ Wr h h' a (Jvm.RoadKit.slotOf Z O nm d) v ∧ ∀ target, Steps p.tables e below (T'.setTop { g with pc := g.pc + 3, stack := rest }) target → Steps p.tables e below (T.setTop g) target := by
  obtain ⟨T', h', X', e', W', st⟩ := putF X hx hZ hown (host := "") (Or.inl w) via eT F E L wi hty hn hf hg hs hd
  exact ⟨T', h', _, X', e', Fld.same W' F, Exa.wr W' E, own_ext_wr Ex W' ha, Fr.snoc X' N ha, W', st⟩
/-! from the case's words to facts on the heap -/
theorem own_exa {C nm d K : String} (hn : (Jvm.Cond.exactly (.static C nm d) K).value args s none s [] = some true) (w1 : (Jvm.Cond.initialized C).before args s = true) (w2 : (Jvm.Cond.laysStatic C nm d).before args s = true) :
    ∃ w, (Term.static C nm d).eval args s none [] s = some (.ref w) ∧ Sta s s.heap C nm d (.ref w) ∧ Exa s s.heap w K := by
  obtain ⟨w, ev⟩ := exa_v hn
  exact ⟨w, ev, Sta.start ev (Or.inr ⟨w1, w2⟩), Exa.start ev hn⟩
theorem own_fldI {t : Term} {O f d : String} {w : Addr} {z : Int32} (ev : t.eval args s none [] s = some (.ref w)) (hn : (Jvm.Cond.eq (.field t O f d) (.int z)).value args s none s [] = some true) : Fld s s.heap w O f d (.int z) := by
  obtain ⟨x, y, h1, h2, k1, k2⟩ := cmp_v (Or.inl hn)
  cases (Term.int_eval z).symm.trans h2
  obtain ⟨z', rfl⟩ := k2
  simp only [Cond.value, h1, h2] at hn
  have e1 : z' = z := by simpa using hn
  subst e1
  refine Fld.start ?_
  rw [← fld_at (C := O) (n := f) (dd := d) ev]
  exact h1
theorem own_fldJ {t : Term} {O f d : String} {w : Addr} {z : Int64} (ev : t.eval args s none [] s = some (.ref w)) (hn : (Jvm.Cond.eq (.field t O f d) (.long z)).value args s none s [] = some true) : Fld s s.heap w O f d (.long z) := by
  obtain ⟨x, y, h1, h2, k1, k2⟩ := cmp_v (Or.inl hn)
  cases (show (Term.long z).eval args s none [] s = some (.long z) from rfl).symm.trans h2
  obtain ⟨z', rfl⟩ := k2
  simp only [Cond.value, h1, h2] at hn
  have e1 : z' = z := by simpa using hn
  subst e1
  refine Fld.start ?_
  rw [← fld_at (C := O) (n := f) (dd := d) ev]
  exact h1
theorem own_fld_inj {C nm d : String} {w w' : Value} (F : Fld Z h a C nm d w) (G : Fld Z h a C nm d w') : w = w' := by
  by_cases q : w = w'
  · exact q
  · exact absurd rfl (Fld.ne F G q)
theorem own_idx (x d : Int32) (hd : 0 < d.toInt) : 0 ≤ ((x &&& 2147483647) % d).toInt ∧ ((x &&& 2147483647) % d).toInt < d.toInt := by
  have h := c_mask x 2147483647 31 (by decide) (by decide)
  have h0 : 0 ≤ (x &&& 2147483647).toInt := by omega
  have q := (c_iremV (x &&& 2147483647) d).1 h0 hd
  exact ⟨q.1, q.2.1⟩
theorem own_bm32 {x : Int} (h0 : -2147483648 ≤ x) (h1 : x < 2147483648) : x.bmod (2 ^ 32) = x := Int.bmod_eq_of_le (by omega) (by omega)
theorem own_bm64 {x : Int} (h0 : -9223372036854775808 ≤ x) (h1 : x < 9223372036854775808) : x.bmod (2 ^ 64) = x := Int.bmod_eq_of_le (by omega) (by omega)
theorem own_iadd {x y : Int32} (h0 : -2147483648 ≤ x.toInt + y.toInt) (h1 : x.toInt + y.toInt < 2147483648) : (x + y).toInt = x.toInt + y.toInt := by rw [Int32.toInt_add, own_bm32 h0 h1]
theorem own_isub {x y : Int32} (h0 : -2147483648 ≤ x.toInt - y.toInt) (h1 : x.toInt - y.toInt < 2147483648) : (x - y).toInt = x.toInt - y.toInt := by rw [Int32.toInt_sub, own_bm32 h0 h1]
theorem own_lneg {x : Int64} (h0 : -9223372036854775808 ≤ -x.toInt) (h1 : -x.toInt < 9223372036854775808) : (-x).toInt = -x.toInt := by rw [Int64.toInt_neg, own_bm64 h0 h1]
theorem own_lmul {x y : Int64} (h0 : -9223372036854775808 ≤ x.toInt * y.toInt) (h1 : x.toInt * y.toInt < 9223372036854775808) : (x * y).toInt = x.toInt * y.toInt := by rw [Int64.toInt_mul, own_bm64 h0 h1]
theorem own_cl {x y : Int64} : XT.cmpL x y < 0 ↔ x < y := by
  have h : XT.cmpL x y = lcmpV x y := by simp [XT.cmpL, lcmpV]
  rw [h]; exact lc_lt x y
theorem own_cg {x y : Int64} : 0 < XT.cmpL x y ↔ y < x := by
  have h : XT.cmpL x y = lcmpV x y := by simp [XT.cmpL, lcmpV]
  rw [h]; exact lc_gt x y
theorem own_ce {x y : Int64} : XT.cmpL x y = 0 ↔ x = y := by
  have h : XT.cmpL x y = lcmpV x y := by simp [XT.cmpL, lcmpV]
  rw [h]; exact lc_eq x y
theorem own_short {x : Int32} (h0 : -32768 ≤ x.toInt) (h1 : x.toInt < 32768) : x.toInt16.toInt32 = x := by
  have h := c_i2s x
  exact Int32.toInt_inj.mp (by omega)
theorem own_nn {i : Int32} (q : 0 ≤ i.toInt) : ¬ i < 0 := by
  rw [Int32.lt_iff_toInt_lt]
  have h : (0 : Int32).toInt = 0 := by decide
  omega
theorem own_len {t : Term} {cl : Cell} {z : Int32} (ev : t.eval args s none [] s = some (.ref a)) (A : Arr s s.heap a cl ty) (hn : (Jvm.Cond.eq (.length t) (.int z)).value args s none s [] = some true) : cl.slots.size = z.toNatClampNeg := by
  have ha : s.arrayAt? a = some cl := Arr.fin (Vm.Alike.refl _) A
  by_cases hlt : cl.slots.size < 2147483648
  · have h3 := len_f ev ha hlt
    have e1 : cl.slots.size.toInt32 = z := by
      have h4 := Term.int_eval (args := args) (first := s) (o := none) (idx := []) (s := s) z
      simp only [Cond.value, h3, h4] at hn
      simpa using hn
    have h5 := len_toInt hlt
    have h6 := nat_of (own_nn (i := cl.slots.size.toInt32) (by omega))
    rw [← e1]
    omega
  · exfalso
    simp [Cond.value, Term.eval, ev, ha, hlt] at hn
theorem own_elem {t u : Term} {cl : Cell} {j : Int32} {x : Value} (ev : t.eval args s none [] s = some (.ref a)) (A : Arr s s.heap a cl ty) (hu : u.eval args s none [] s = some x) (hx : x.isRef = true) (hn : (Jvm.Cond.eq (.elem t (.int j)) u).value args s none s [] = some true) : cl.slots[j.toNatClampNeg]? = some x := by
  obtain ⟨v, y, h1, h2, k1, k2⟩ := cmp_v (Or.inl hn)
  cases hu.symm.trans h2
  have hv : v.isRef = true := by
    rcases ref_cases hx with rfl | ⟨q, rfl⟩ <;> cases v <;> simp [Kin, Value.isRef] at k1 k2 ⊢
  have e1 := gotT (eq_R h1 hu hv hx) hn
  subst e1
  exact (elem_in h1 ev (Term.int_eval j) A.1).2
theorem own_toList {cl : Cell} (hs : cl.slots.size = vs.length) (H : HasL cl 0 vs) : cl.slots.toList = vs := by
  refine List.ext_getElem? fun j => ?_
  rw [Array.getElem?_toList]
  by_cases q : j < vs.length
  · have := HasL.at (dv := .null) vs 0 H j q
    rw [Nat.zero_add] at this
    rw [this, List.getElem?_eq_getElem q]
    simp [List.getD, q]
  · rw [List.getElem?_eq_none (by omega), Array.getElem?_eq_none (by omega)]
theorem own_arr {C nm d : String} (hn : (Jvm.Cond.arrayOf (.static C nm d) ty).value args s none s [] = some true) (w1 : (Jvm.Cond.initialized C).before args s = true) (w2 : (Jvm.Cond.laysStatic C nm d).before args s = true) :
    ∃ w cl, (Term.static C nm d).eval args s none [] s = some (.ref w) ∧ Sta s s.heap C nm d (.ref w) ∧ Arr s s.heap w cl ty := by
  obtain ⟨w, ev⟩ := arr_v hn
  obtain ⟨cl, A⟩ := Arr.start ev hn
  exact ⟨w, cl, ev, Sta.start ev (Or.inr ⟨w1, w2⟩), A⟩
theorem own_and3 (x : Int32) : 0 ≤ (x &&& 3).toInt ∧ (x &&& 3).toInt < 4 := by
  have h := c_mask x 3 2 (by decide) (by decide)
  omega
end Own
end Jvm.Pilot.@@N@@
namespace Jvm.Pilot.@@N@@
open Jvm Jvm.ClassFile Sem Op Lib Jvm.Free Jvm.Stand Jvm.LawKit Jvm.RoadKit Bundle Jvm.Pilot.@@N@@.Jvm.D
theorem own_pd0 : parseMethodDescriptor "(I)Lcom/example/vinculum/vinculum/ConstantTag;" = some ⟨[.int], some (.object "com/example/vinculum/vinculum/ConstantTag")⟩ := by decide +kernel
theorem own_pd1 : parseMethodDescriptor "()Z" = some ⟨[], some .boolean⟩ := by decide +kernel
theorem own_ite_ref {p : Prop} [Decidable p] {a b : Value} (ha : a.isRef = true) (hb : b.isRef = true) : (if p then a else b).isRef = true := by
  split
  · exact ha
  · exact hb
theorem own_null {args : Array Value} {s : State} : (Term.null).eval args s none [] s = some Value.null := rfl
theorem own_arB {s : State} {a : Addr} {cl : Cell} {ty : FieldType} {vs : List Value} {z : Int32} (A : Arr s s.heap a cl ty) (hl : cl.slots.size = z.toNatClampNeg) (hv : vs.length = z.toNatClampNeg) (H : HasL cl 0 vs) : ∃ kc, own_Ar s s.heap a kc ty vs := ⟨_, cl, A, rfl, own_toList (hl.trans hv.symm) H⟩
theorem d1_0 : decode prog_28_method_4_code 0 = .ok (.iload_n 0, 1) := by decide +kernel
theorem d1_1 : decode prog_28_method_4_code 1 = .ok (.ifCond .lt 19, 3) := by decide +kernel
theorem d1_4 : decode prog_28_method_4_code 4 = .ok (.iload_n 0, 1) := by decide +kernel
theorem d1_5 : decode prog_28_method_4_code 5 = .ok (.getstatic 88, 3) := by decide +kernel
theorem d1_8 : decode prog_28_method_4_code 8 = .ok (.arraylength, 1) := by decide +kernel
theorem d1_9 : decode prog_28_method_4_code 9 = .ok (.if_icmp .ge 11, 3) := by decide +kernel
theorem d1_12 : decode prog_28_method_4_code 12 = .ok (.getstatic 88, 3) := by decide +kernel
theorem d1_15 : decode prog_28_method_4_code 15 = .ok (.iload_n 0, 1) := by decide +kernel
theorem d1_16 : decode prog_28_method_4_code 16 = .ok (.aaload, 1) := by decide +kernel
theorem d1_17 : decode prog_28_method_4_code 17 = .ok (.goto 4, 3) := by decide +kernel
theorem d1_20 : decode prog_28_method_4_code 20 = .ok (.aconst_null, 1) := by decide +kernel
theorem d1_21 : decode prog_28_method_4_code 21 = .ok (.areturn, 1) := by decide +kernel
theorem d2_0 : decode prog_28_method_10_code 0 = .ok (.aload_n 0, 1) := by decide +kernel
theorem d2_1 : decode prog_28_method_10_code 1 = .ok (.getstatic 25, 3) := by decide +kernel
theorem d2_4 : decode prog_28_method_10_code 4 = .ok (.if_acmp .eq 17, 3) := by decide +kernel
theorem d2_7 : decode prog_28_method_10_code 7 = .ok (.aload_n 0, 1) := by decide +kernel
theorem d2_8 : decode prog_28_method_10_code 8 = .ok (.getstatic 28, 3) := by decide +kernel
theorem d2_11 : decode prog_28_method_10_code 11 = .ok (.if_acmp .eq 10, 3) := by decide +kernel
theorem d2_14 : decode prog_28_method_10_code 14 = .ok (.aload_n 0, 1) := by decide +kernel
theorem d2_15 : decode prog_28_method_10_code 15 = .ok (.getstatic 31, 3) := by decide +kernel
theorem d2_18 : decode prog_28_method_10_code 18 = .ok (.if_acmp .ne 7, 3) := by decide +kernel
theorem d2_21 : decode prog_28_method_10_code 21 = .ok (.iconst 1, 1) := by decide +kernel
theorem d2_22 : decode prog_28_method_10_code 22 = .ok (.goto 4, 3) := by decide +kernel
theorem d2_25 : decode prog_28_method_10_code 25 = .ok (.iconst 0, 1) := by decide +kernel
theorem d2_26 : decode prog_28_method_10_code 26 = .ok (.ireturn, 1) := by decide +kernel
theorem own_pn0 : plainFor x = true := by first | exact plainFor_of_name (by first | (simp [plainName, overriddenIn]; done) | decide +kernel) | decide +kernel
theorem own_pn1 : plainFor (⟨"com/example/vinculum/vinculum/ConstantTag", "of", "(I)Lcom/example/vinculum/vinculum/ConstantTag;"⟩ : MethodName) = true := by first | exact plainFor_of_name (by first | (simp [plainName, overriddenIn]; done) | decide +kernel) | decide +kernel
theorem own_pn2 : plainFor (⟨"com/example/vinculum/vinculum/ConstantTag", "isMemberRef", "()Z"⟩ : MethodName) = true := by first | exact plainFor_of_name (by first | (simp [plainName, overriddenIn]; done) | decide +kernel) | decide +kernel
def Hyp (Z : State) (w : Nat → Addr) : Prop :=
  Sta Z Z.heap "com/example/vinculum/vinculum/ConstantTag" "UTF8" "Lcom/example/vinculum/vinculum/ConstantTag;" (.ref (w 0)) ∧
  Exa Z Z.heap (w 0) "com/example/vinculum/vinculum/ConstantTag" ∧
  Fld Z Z.heap (w 0) "java/lang/Enum" "ordinal" "I" (.int (0 : Int32)) ∧
  Sta Z Z.heap "com/example/vinculum/vinculum/ConstantTag" "INTEGER" "Lcom/example/vinculum/vinculum/ConstantTag;" (.ref (w 1)) ∧
  Exa Z Z.heap (w 1) "com/example/vinculum/vinculum/ConstantTag" ∧
  Fld Z Z.heap (w 1) "java/lang/Enum" "ordinal" "I" (.int (1 : Int32)) ∧
  Sta Z Z.heap "com/example/vinculum/vinculum/ConstantTag" "FLOAT" "Lcom/example/vinculum/vinculum/ConstantTag;" (.ref (w 2)) ∧
  Exa Z Z.heap (w 2) "com/example/vinculum/vinculum/ConstantTag" ∧
  Fld Z Z.heap (w 2) "java/lang/Enum" "ordinal" "I" (.int (2 : Int32)) ∧
  Sta Z Z.heap "com/example/vinculum/vinculum/ConstantTag" "LONG" "Lcom/example/vinculum/vinculum/ConstantTag;" (.ref (w 3)) ∧
  Exa Z Z.heap (w 3) "com/example/vinculum/vinculum/ConstantTag" ∧
  Fld Z Z.heap (w 3) "java/lang/Enum" "ordinal" "I" (.int (3 : Int32)) ∧
  Sta Z Z.heap "com/example/vinculum/vinculum/ConstantTag" "DOUBLE" "Lcom/example/vinculum/vinculum/ConstantTag;" (.ref (w 4)) ∧
  Exa Z Z.heap (w 4) "com/example/vinculum/vinculum/ConstantTag" ∧
  Fld Z Z.heap (w 4) "java/lang/Enum" "ordinal" "I" (.int (4 : Int32)) ∧
  Sta Z Z.heap "com/example/vinculum/vinculum/ConstantTag" "CLASS" "Lcom/example/vinculum/vinculum/ConstantTag;" (.ref (w 5)) ∧
  Exa Z Z.heap (w 5) "com/example/vinculum/vinculum/ConstantTag" ∧
  Fld Z Z.heap (w 5) "java/lang/Enum" "ordinal" "I" (.int (5 : Int32)) ∧
  Sta Z Z.heap "com/example/vinculum/vinculum/ConstantTag" "STRING" "Lcom/example/vinculum/vinculum/ConstantTag;" (.ref (w 6)) ∧
  Exa Z Z.heap (w 6) "com/example/vinculum/vinculum/ConstantTag" ∧
  Fld Z Z.heap (w 6) "java/lang/Enum" "ordinal" "I" (.int (6 : Int32)) ∧
  Sta Z Z.heap "com/example/vinculum/vinculum/ConstantTag" "FIELDREF" "Lcom/example/vinculum/vinculum/ConstantTag;" (.ref (w 7)) ∧
  Exa Z Z.heap (w 7) "com/example/vinculum/vinculum/ConstantTag" ∧
  Fld Z Z.heap (w 7) "java/lang/Enum" "ordinal" "I" (.int (7 : Int32)) ∧
  Sta Z Z.heap "com/example/vinculum/vinculum/ConstantTag" "METHODREF" "Lcom/example/vinculum/vinculum/ConstantTag;" (.ref (w 8)) ∧
  Exa Z Z.heap (w 8) "com/example/vinculum/vinculum/ConstantTag" ∧
  Fld Z Z.heap (w 8) "java/lang/Enum" "ordinal" "I" (.int (8 : Int32)) ∧
  Sta Z Z.heap "com/example/vinculum/vinculum/ConstantTag" "INTERFACE_METHODREF" "Lcom/example/vinculum/vinculum/ConstantTag;" (.ref (w 9)) ∧
  Exa Z Z.heap (w 9) "com/example/vinculum/vinculum/ConstantTag" ∧
  Fld Z Z.heap (w 9) "java/lang/Enum" "ordinal" "I" (.int (9 : Int32)) ∧
  Sta Z Z.heap "com/example/vinculum/vinculum/ConstantTag" "NAME_AND_TYPE" "Lcom/example/vinculum/vinculum/ConstantTag;" (.ref (w 10)) ∧
  Exa Z Z.heap (w 10) "com/example/vinculum/vinculum/ConstantTag" ∧
  Fld Z Z.heap (w 10) "java/lang/Enum" "ordinal" "I" (.int (10 : Int32)) ∧
  Sta Z Z.heap "com/example/vinculum/vinculum/ConstantTag" "METHOD_HANDLE" "Lcom/example/vinculum/vinculum/ConstantTag;" (.ref (w 11)) ∧
  Exa Z Z.heap (w 11) "com/example/vinculum/vinculum/ConstantTag" ∧
  Fld Z Z.heap (w 11) "java/lang/Enum" "ordinal" "I" (.int (11 : Int32)) ∧
  Sta Z Z.heap "com/example/vinculum/vinculum/ConstantTag" "METHOD_TYPE" "Lcom/example/vinculum/vinculum/ConstantTag;" (.ref (w 12)) ∧
  Exa Z Z.heap (w 12) "com/example/vinculum/vinculum/ConstantTag" ∧
  Fld Z Z.heap (w 12) "java/lang/Enum" "ordinal" "I" (.int (12 : Int32)) ∧
  Sta Z Z.heap "com/example/vinculum/vinculum/ConstantTag" "DYNAMIC" "Lcom/example/vinculum/vinculum/ConstantTag;" (.ref (w 13)) ∧
  Exa Z Z.heap (w 13) "com/example/vinculum/vinculum/ConstantTag" ∧
  Fld Z Z.heap (w 13) "java/lang/Enum" "ordinal" "I" (.int (13 : Int32)) ∧
  Sta Z Z.heap "com/example/vinculum/vinculum/ConstantTag" "INVOKE_DYNAMIC" "Lcom/example/vinculum/vinculum/ConstantTag;" (.ref (w 14)) ∧
  Exa Z Z.heap (w 14) "com/example/vinculum/vinculum/ConstantTag" ∧
  Fld Z Z.heap (w 14) "java/lang/Enum" "ordinal" "I" (.int (14 : Int32)) ∧
  Sta Z Z.heap "com/example/vinculum/vinculum/ConstantTag" "MODULE" "Lcom/example/vinculum/vinculum/ConstantTag;" (.ref (w 15)) ∧
  Exa Z Z.heap (w 15) "com/example/vinculum/vinculum/ConstantTag" ∧
  Fld Z Z.heap (w 15) "java/lang/Enum" "ordinal" "I" (.int (15 : Int32)) ∧
  Sta Z Z.heap "com/example/vinculum/vinculum/ConstantTag" "PACKAGE" "Lcom/example/vinculum/vinculum/ConstantTag;" (.ref (w 16)) ∧
  Exa Z Z.heap (w 16) "com/example/vinculum/vinculum/ConstantTag" ∧
  Fld Z Z.heap (w 16) "java/lang/Enum" "ordinal" "I" (.int (16 : Int32)) ∧
  Sta Z Z.heap "com/example/vinculum/vinculum/ConstantTag" "BY_CODE" "[Lcom/example/vinculum/vinculum/ConstantTag;" (.ref (w 17)) ∧
  (∃ kc, own_Ar Z Z.heap (w 17) kc (.object "com/example/vinculum/vinculum/ConstantTag") ([.null, .ref (w 0), .null, .ref (w 1), .ref (w 2), .ref (w 3), .ref (w 4), .ref (w 5), .ref (w 6), .ref (w 7), .ref (w 8), .ref (w 9), .ref (w 10), .null, .null, .ref (w 11), .ref (w 12), .ref (w 13), .ref (w 14), .ref (w 15), .ref (w 16)]))
theorem own_cases21 {i : Int32} (h0 : 0 ≤ i.toInt) (h1 : i.toInt < 21) : i = 0 ∨ i = 1 ∨ i = 2 ∨ i = 3 ∨ i = 4 ∨ i = 5 ∨ i = 6 ∨ i = 7 ∨ i = 8 ∨ i = 9 ∨ i = 10 ∨ i = 11 ∨ i = 12 ∨ i = 13 ∨ i = 14 ∨ i = 15 ∨ i = 16 ∨ i = 17 ∨ i = 18 ∨ i = 19 ∨ i = 20 := by
  have h : i.toInt = 0 ∨ i.toInt = 1 ∨ i.toInt = 2 ∨ i.toInt = 3 ∨ i.toInt = 4 ∨ i.toInt = 5 ∨ i.toInt = 6 ∨ i.toInt = 7 ∨ i.toInt = 8 ∨ i.toInt = 9 ∨ i.toInt = 10 ∨ i.toInt = 11 ∨ i.toInt = 12 ∨ i.toInt = 13 ∨ i.toInt = 14 ∨ i.toInt = 15 ∨ i.toInt = 16 ∨ i.toInt = 17 ∨ i.toInt = 18 ∨ i.toInt = 19 ∨ i.toInt = 20 := by omega
  rcases h with h | h | h | h | h | h | h | h | h | h | h | h | h | h | h | h | h | h | h | h | h <;> simp [← Int32.toInt_inj, h]
def own_of (i : Int32) (w : Nat → Addr) : Value := if i < 0 then .null else if i < 21 then ([.null, .ref (w 0), .null, .ref (w 1), .ref (w 2), .ref (w 3), .ref (w 4), .ref (w 5), .ref (w 6), .ref (w 7), .ref (w 8), .ref (w 9), .ref (w 10), .null, .null, .ref (w 11), .ref (w 12), .ref (w 13), .ref (w 14), .ref (w 15), .ref (w 16)] : List Value).getD i.toNatClampNeg .null else .null
theorem own_of_ref (i : Int32) (w : Nat → Addr) : (own_of i w).isRef = true := by
  unfold own_of
  split
  · rfl
  · split
    · rename_i z1 z2
      rw [Int32.lt_iff_toInt_lt] at z1 z2
      have y1 : (0 : Int32).toInt = 0 := by decide
      have y2 : (21 : Int32).toInt = 21 := by decide
      have hc := own_cases21 (i := i) (by omega) (by omega)
      rcases hc with rfl | rfl | rfl | rfl | rfl | rfl | rfl | rfl | rfl | rfl | rfl | rfl | rfl | rfl | rfl | rfl | rfl | rfl | rfl | rfl | rfl <;> rfl
    · rfl
def own_pk (i : Int32) (w : Nat → Addr) : Addr := if i = 1 then w 0 else if i = 3 then w 1 else if i = 4 then w 2 else if i = 5 then w 3 else if i = 6 then w 4 else if i = 7 then w 5 else if i = 8 then w 6 else if i = 9 then w 7 else if i = 10 then w 8 else if i = 11 then w 9 else if i = 12 then w 10 else if i = 15 then w 11 else if i = 16 then w 12 else if i = 17 then w 13 else if i = 18 then w 14 else if i = 19 then w 15 else if i = 20 then w 16 else w 0
set_option maxRecDepth 65536 in
set_option maxHeartbeats 4000000 in
theorem rm1 (l : Launch) (Z : State) (a0 : Array Value) (hw : ∀ d ∈ tables_1, d.before a0 Z = true) (ws : List Jvm.Cond) (w : Nat → Addr) (H : Hyp Z w) (i : Int32) (h0 : Heap) (Ex0 : Ext Z.heap h0)  :
    own_Met l Z (⟨"com/example/vinculum/vinculum/ConstantTag", "of", "(I)Lcom/example/vinculum/vinculum/ConstantTag;"⟩ : MethodName) prog_28_method_4_code 1 (some (.object "com/example/vinculum/vinculum/ConstantTag")) ws ({ frames := 0, cells := 0, slots := 0, locals := 0 } : Room) #[(.int i)] h0 (own_P Z h0 (own_of i w)) := by
  obtain ⟨sS0, sE0, sF0_ordinal, sS1, sE1, sF1_ordinal, sS2, sE2, sF2_ordinal, sS3, sE3, sF3_ordinal, sS4, sE4, sF4_ordinal, sS5, sE5, sF5_ordinal, sS6, sE6, sF6_ordinal, sS7, sE7, sF7_ordinal, sS8, sE8, sF8_ordinal, sS9, sE9, sF9_ordinal, sS10, sE10, sF10_ordinal, sS11, sE11, sF11_ordinal, sS12, sE12, sF12_ordinal, sS13, sE13, sF13_ordinal, sS14, sE14, sF14_ordinal, sS15, sE15, sF15_ordinal, sS16, sE16, sF16_ordinal, SB, HB⟩ := H
  obtain ⟨kcB, AB⟩ := HB
  refine own_body (ls := #[.val (.int i)]) own_pn1 (fun m => by first | (simp [entryFrame, mkF, argsToLocals, Value.category]; done) | rfl) ?_
  intro p e s m below meth c T0 hZ hx hby hml' hown' hnm hret' hlk X0 e0
  have hml : c.maxLocals = 1 := hml'
  have hown : s.vm.findClass "com/example/vinculum/vinculum/ConstantTag" = some m.cls := hown'
  have hret : meth.sig.returnType = (some (.object "com/example/vinculum/vinculum/ConstantTag")) := hret'
  have N0 := Fr.nil Z.heap.size
  refine own_step (S' := T0.setTop (mkF m 1 #[.val (.int i)] [(.int i)])) (fun t k => XS.iloadN X0.here hx rfl (hb hby d1_0) rfl k) ?_
  by_cases q1 : i < (0 : Int32)
  ·
    refine own_step (S' := T0.setTop (mkF m 20 #[.val (.int i)] [])) (fun t k => XS.ifYes X0.here hx rfl (pc0 := 1) (pc' := 20) rfl (hb hby d1_1) rfl ((if0 _ _).trans (tlt (q1 : i < (0 : Int32))).1) (by decide) (by decide) k) ?_
    refine own_step (S' := T0.setTop (mkF m 21 #[.val (.int i)] [.null])) (fun t k => XS.aconstNull X0.here hx rfl (hb hby d1_20) k) ?_
    exact own_retA X0 hx hlk hret rfl rfl (hb hby d1_21) (⟨by simp only [own_of]; simp [q1], N0, e0⟩) (by decide) (by decide)
  ·
    refine own_step (S' := T0.setTop (mkF m 4 #[.val (.int i)] [])) (fun t k => XS.ifNo X0.here hx rfl (hb hby d1_1) rfl ((if0 _ _).trans (flt (q1 : ¬ (i < (0 : Int32)))).1) k) ?_
    refine own_step (S' := T0.setTop (mkF m 5 #[.val (.int i)] [(.int i)])) (fun t k => XS.iloadN X0.here hx rfl (hb hby d1_4) rfl k) ?_
    obtain ⟨T2, X2, e2, st2⟩ := getS2 X0 hx hZ hown (host := "") (Or.inl (hw _ (List.mem_of_getElem? (i := 5) rfl))) Via.refl e0 (SB.ext Ex0) (g := (mkF m 5 #[.val (.int i)] [(.int i)])) rfl (hb hby d1_5)
    refine own_step (S' := T2.setTop (mkF m 8 #[.val (.int i)] [(.ref (w 17)), (.int i)])) (fun t k => st2 t k) ?_
    refine own_step (S' := T2.setTop (mkF m 9 #[.val (.int i)] [(.int (21 : Int32)), (.int i)])) (fun t k => own_alen X2 hx hZ e2 (own_Ar.ext Ex0 AB) (z := (21 : Int32)) rfl (g := (mkF m 8 #[.val (.int i)] [(.ref (w 17)), (.int i)])) rfl rfl (hb hby d1_8) t k) ?_
    by_cases q3 : i < (21 : Int32)
    ·
      refine own_step (S' := T2.setTop (mkF m 12 #[.val (.int i)] [])) (fun t k => XS.icmpNo X2.here hx rfl (hb hby d1_9) rfl (tlt (q3 : i < (21 : Int32))).2.1 k) ?_
      obtain ⟨T4, X4, e4, st4⟩ := getS2 X2 hx hZ hown (host := "") (Or.inl (hw _ (List.mem_of_getElem? (i := 5) rfl))) Via.refl e2 (SB.ext Ex0) (g := (mkF m 12 #[.val (.int i)] [])) rfl (hb hby d1_12)
      refine own_step (S' := T4.setTop (mkF m 15 #[.val (.int i)] [(.ref (w 17))])) (fun t k => st4 t k) ?_
      refine own_step (S' := T4.setTop (mkF m 16 #[.val (.int i)] [(.int i), (.ref (w 17))])) (fun t k => XS.iloadN X4.here hx rfl (hb hby d1_15) rfl k) ?_
      have hr : 0 ≤ i.toInt ∧ i.toInt < 21 := by
        have z1 := q1
        have z2 := q3
        rw [Int32.lt_iff_toInt_lt] at z1 z2
        have y1 : (0 : Int32).toInt = 0 := by decide
        have y2 : (21 : Int32).toInt = 21 := by decide
        omega
      have hc := own_cases21 hr.1 hr.2
      have hat : ([.null, .ref (w 0), .null, .ref (w 1), .ref (w 2), .ref (w 3), .ref (w 4), .ref (w 5), .ref (w 6), .ref (w 7), .ref (w 8), .ref (w 9), .ref (w 10), .null, .null, .ref (w 11), .ref (w 12), .ref (w 13), .ref (w 14), .ref (w 15), .ref (w 16)] : List Value)[i.toNatClampNeg]? = some (([.null, .ref (w 0), .null, .ref (w 1), .ref (w 2), .ref (w 3), .ref (w 4), .ref (w 5), .ref (w 6), .ref (w 7), .ref (w 8), .ref (w 9), .ref (w 10), .null, .null, .ref (w 11), .ref (w 12), .ref (w 13), .ref (w 14), .ref (w 15), .ref (w 16)] : List Value).getD i.toNatClampNeg .null) := by
        rcases hc with rfl | rfl | rfl | rfl | rfl | rfl | rfl | rfl | rfl | rfl | rfl | rfl | rfl | rfl | rfl | rfl | rfl | rfl | rfl | rfl | rfl <;> rfl
      have hir : (([.null, .ref (w 0), .null, .ref (w 1), .ref (w 2), .ref (w 3), .ref (w 4), .ref (w 5), .ref (w 6), .ref (w 7), .ref (w 8), .ref (w 9), .ref (w 10), .null, .null, .ref (w 11), .ref (w 12), .ref (w 13), .ref (w 14), .ref (w 15), .ref (w 16)] : List Value).getD i.toNatClampNeg .null).isRef = true := by
        rcases hc with rfl | rfl | rfl | rfl | rfl | rfl | rfl | rfl | rfl | rfl | rfl | rfl | rfl | rfl | rfl | rfl | rfl | rfl | rfl | rfl | rfl <;> rfl
      refine own_step (S' := T4.setTop (mkF m 17 #[.val (.int i)] [(([.null, .ref (w 0), .null, .ref (w 1), .ref (w 2), .ref (w 3), .ref (w 4), .ref (w 5), .ref (w 6), .ref (w 7), .ref (w 8), .ref (w 9), .ref (w 10), .null, .null, .ref (w 11), .ref (w 12), .ref (w 13), .ref (w 14), .ref (w 15), .ref (w 16)] : List Value).getD i.toNatClampNeg .null)])) (fun t k => own_aaload X4 hx hZ e4 (own_Ar.ext Ex0 AB) rfl (j := i) q1 hat (g := (mkF m 16 #[.val (.int i)] [(.int i), (.ref (w 17))])) rfl rfl (hb hby d1_16) t k) ?_
      refine own_step (S' := T4.setTop (mkF m 21 #[.val (.int i)] [(([.null, .ref (w 0), .null, .ref (w 1), .ref (w 2), .ref (w 3), .ref (w 4), .ref (w 5), .ref (w 6), .ref (w 7), .ref (w 8), .ref (w 9), .ref (w 10), .null, .null, .ref (w 11), .ref (w 12), .ref (w 13), .ref (w 14), .ref (w 15), .ref (w 16)] : List Value).getD i.toNatClampNeg .null)])) (fun t k => XS.goto X4.here hx rfl (pc0 := 17) (pc' := 21) rfl (hb hby d1_17) (by decide) (by decide) k) ?_
      exact own_retA X4 hx hlk hret rfl hir (hb hby d1_21) (⟨by simp only [own_of, q1, q3, if_true, if_false], N0, e4⟩) (by decide) (by decide)
    ·
      refine own_step (S' := T2.setTop (mkF m 20 #[.val (.int i)] [])) (fun t k => XS.icmpYes X2.here hx rfl (pc0 := 9) (pc' := 20) rfl (hb hby d1_9) rfl (flt (q3 : ¬ (i < (21 : Int32)))).2.1 (by decide) (by decide) k) ?_
      refine own_step (S' := T2.setTop (mkF m 21 #[.val (.int i)] [.null])) (fun t k => XS.aconstNull X2.here hx rfl (hb hby d1_20) k) ?_
      exact own_retA X2 hx hlk hret rfl rfl (hb hby d1_21) (⟨by simp only [own_of]; simp [q1, q3], N0, e2⟩) (by decide) (by decide)
def own_f (w : Nat → Addr) (a : Addr) : Int32 := if a = w 7 then 1 else if a = w 8 then 1 else if a = w 9 then 1 else 0
set_option maxRecDepth 65536 in
set_option maxHeartbeats 4000000 in
theorem rm2 (l : Launch) (Z : State) (a0 : Array Value) (hw : ∀ d ∈ tables_1, d.before a0 Z = true) (ws : List Jvm.Cond) (w : Nat → Addr) (H : Hyp Z w) (a : Addr) (h0 : Heap) (Ex0 : Ext Z.heap h0)  :
    own_Met l Z (⟨"com/example/vinculum/vinculum/ConstantTag", "isMemberRef", "()Z"⟩ : MethodName) prog_28_method_10_code 1 (some .boolean) ws ({ frames := 0, cells := 0, slots := 0, locals := 0 } : Room) #[(.ref a)] h0 (own_P Z h0 (.int (own_f w a))) := by
  obtain ⟨sS0, sE0, sF0_ordinal, sS1, sE1, sF1_ordinal, sS2, sE2, sF2_ordinal, sS3, sE3, sF3_ordinal, sS4, sE4, sF4_ordinal, sS5, sE5, sF5_ordinal, sS6, sE6, sF6_ordinal, sS7, sE7, sF7_ordinal, sS8, sE8, sF8_ordinal, sS9, sE9, sF9_ordinal, sS10, sE10, sF10_ordinal, sS11, sE11, sF11_ordinal, sS12, sE12, sF12_ordinal, sS13, sE13, sF13_ordinal, sS14, sE14, sF14_ordinal, sS15, sE15, sF15_ordinal, sS16, sE16, sF16_ordinal, SB, HB⟩ := H
  refine own_body (ls := #[.val (.ref a)]) own_pn2 (fun m => by first | (simp [entryFrame, mkF, argsToLocals, Value.category]; done) | rfl) ?_
  intro p e s m below meth c T0 hZ hx hby hml' hown' hnm hret' hlk X0 e0
  have hml : c.maxLocals = 1 := hml'
  have hown : s.vm.findClass "com/example/vinculum/vinculum/ConstantTag" = some m.cls := hown'
  have hret : meth.sig.returnType = (some .boolean) := hret'
  have N0 := Fr.nil Z.heap.size
  refine own_step (S' := T0.setTop (mkF m 1 #[.val (.ref a)] [(.ref a)])) (fun t k => XS.aloadN X0.here hx rfl (hb hby d2_0) rfl rfl k) ?_
  obtain ⟨T1, X1, e1, st1⟩ := getS2 X0 hx hZ hown (host := "") (Or.inl (hw _ (List.mem_of_getElem? (i := 13) rfl))) Via.refl e0 (sS7.ext Ex0) (g := (mkF m 1 #[.val (.ref a)] [(.ref a)])) rfl (hb hby d2_1)
  refine own_step (S' := T1.setTop (mkF m 4 #[.val (.ref a)] [(.ref (w 7)), (.ref a)])) (fun t k => st1 t k) ?_
  by_cases q2 : a = (w 7)
  ·
    refine own_step (S' := T1.setTop (mkF m 21 #[.val (.ref a)] [])) (fun t k => Jvm.RoadKit.acmp (g := (mkF m 4 #[.val (.ref a)] [(.ref (w 7)), (.ref a)])) X1 hx rfl rfl rfl (pc0 := 4) (pc' := 21) (same := true) rfl (hb hby d2_4) rfl (decide_eq_true (congrArg Value.ref (q2 : a = (w 7)))) (by decide) (by decide) k) ?_
    refine own_step (S' := T1.setTop (mkF m 22 #[.val (.ref a)] [(.int (1 : Int32))])) (fun t k => XS.iconst X1.here hx rfl (hb hby d2_21) k) ?_
    refine own_step (S' := T1.setTop (mkF m 26 #[.val (.ref a)] [(.int (1 : Int32))])) (fun t k => XS.goto X1.here hx rfl (pc0 := 22) (pc' := 26) rfl (hb hby d2_22) (by decide) (by decide) k) ?_
    exact own_retI (t := .boolean) X1 hx hlk hret (Or.inr (Or.inl rfl)) rfl (hb hby d2_26) (⟨by unfold own_f; rw [if_pos q2], N0, e1⟩) (by decide) (by decide)
  ·
    refine own_step (S' := T1.setTop (mkF m 7 #[.val (.ref a)] [])) (fun t k => Jvm.RoadKit.acmp (g := (mkF m 4 #[.val (.ref a)] [(.ref (w 7)), (.ref a)])) X1 hx rfl rfl rfl (pc0 := 4) (pc' := 7) (same := false) rfl (hb hby d2_4) rfl (decide_eq_false fun z => absurd (Value.ref.inj z) (q2 : ¬ (a = (w 7)))) (by decide) (by decide) k) ?_
    refine own_step (S' := T1.setTop (mkF m 8 #[.val (.ref a)] [(.ref a)])) (fun t k => XS.aloadN X1.here hx rfl (hb hby d2_7) rfl rfl k) ?_
    obtain ⟨T3, X3, e3, st3⟩ := getS2 X1 hx hZ hown (host := "") (Or.inl (hw _ (List.mem_of_getElem? (i := 15) rfl))) Via.refl e1 (sS8.ext Ex0) (g := (mkF m 8 #[.val (.ref a)] [(.ref a)])) rfl (hb hby d2_8)
    refine own_step (S' := T3.setTop (mkF m 11 #[.val (.ref a)] [(.ref (w 8)), (.ref a)])) (fun t k => st3 t k) ?_
    by_cases q4 : a = (w 8)
    ·
      refine own_step (S' := T3.setTop (mkF m 21 #[.val (.ref a)] [])) (fun t k => Jvm.RoadKit.acmp (g := (mkF m 11 #[.val (.ref a)] [(.ref (w 8)), (.ref a)])) X3 hx rfl rfl rfl (pc0 := 11) (pc' := 21) (same := true) rfl (hb hby d2_11) rfl (decide_eq_true (congrArg Value.ref (q4 : a = (w 8)))) (by decide) (by decide) k) ?_
      refine own_step (S' := T3.setTop (mkF m 22 #[.val (.ref a)] [(.int (1 : Int32))])) (fun t k => XS.iconst X3.here hx rfl (hb hby d2_21) k) ?_
      refine own_step (S' := T3.setTop (mkF m 26 #[.val (.ref a)] [(.int (1 : Int32))])) (fun t k => XS.goto X3.here hx rfl (pc0 := 22) (pc' := 26) rfl (hb hby d2_22) (by decide) (by decide) k) ?_
      exact own_retI (t := .boolean) X3 hx hlk hret (Or.inr (Or.inl rfl)) rfl (hb hby d2_26) (⟨by unfold own_f; rw [if_neg q2, if_pos q4], N0, e3⟩) (by decide) (by decide)
    ·
      refine own_step (S' := T3.setTop (mkF m 14 #[.val (.ref a)] [])) (fun t k => Jvm.RoadKit.acmp (g := (mkF m 11 #[.val (.ref a)] [(.ref (w 8)), (.ref a)])) X3 hx rfl rfl rfl (pc0 := 11) (pc' := 14) (same := false) rfl (hb hby d2_11) rfl (decide_eq_false fun z => absurd (Value.ref.inj z) (q4 : ¬ (a = (w 8)))) (by decide) (by decide) k) ?_
      refine own_step (S' := T3.setTop (mkF m 15 #[.val (.ref a)] [(.ref a)])) (fun t k => XS.aloadN X3.here hx rfl (hb hby d2_14) rfl rfl k) ?_
      obtain ⟨T5, X5, e5, st5⟩ := getS2 X3 hx hZ hown (host := "") (Or.inl (hw _ (List.mem_of_getElem? (i := 17) rfl))) Via.refl e3 (sS9.ext Ex0) (g := (mkF m 15 #[.val (.ref a)] [(.ref a)])) rfl (hb hby d2_15)
      refine own_step (S' := T5.setTop (mkF m 18 #[.val (.ref a)] [(.ref (w 9)), (.ref a)])) (fun t k => st5 t k) ?_
      by_cases q6 : a = (w 9)
      ·
        refine own_step (S' := T5.setTop (mkF m 21 #[.val (.ref a)] [])) (fun t k => Jvm.RoadKit.acmp (g := (mkF m 18 #[.val (.ref a)] [(.ref (w 9)), (.ref a)])) X5 hx rfl rfl rfl (pc0 := 18) (pc' := 21) (same := true) rfl (hb hby d2_18) rfl (decide_eq_true (congrArg Value.ref (q6 : a = (w 9)))) (by decide) (by decide) k) ?_
        refine own_step (S' := T5.setTop (mkF m 22 #[.val (.ref a)] [(.int (1 : Int32))])) (fun t k => XS.iconst X5.here hx rfl (hb hby d2_21) k) ?_
        refine own_step (S' := T5.setTop (mkF m 26 #[.val (.ref a)] [(.int (1 : Int32))])) (fun t k => XS.goto X5.here hx rfl (pc0 := 22) (pc' := 26) rfl (hb hby d2_22) (by decide) (by decide) k) ?_
        exact own_retI (t := .boolean) X5 hx hlk hret (Or.inr (Or.inl rfl)) rfl (hb hby d2_26) (⟨by unfold own_f; rw [if_neg q2, if_neg q4, if_pos q6], N0, e5⟩) (by decide) (by decide)
      ·
        refine own_step (S' := T5.setTop (mkF m 25 #[.val (.ref a)] [])) (fun t k => Jvm.RoadKit.acmp (g := (mkF m 18 #[.val (.ref a)] [(.ref (w 9)), (.ref a)])) X5 hx rfl rfl rfl (pc0 := 18) (pc' := 25) (same := false) rfl (hb hby d2_18) rfl (decide_eq_false fun z => absurd (Value.ref.inj z) (q6 : ¬ (a = (w 9)))) (by decide) (by decide) k) ?_
        refine own_step (S' := T5.setTop (mkF m 26 #[.val (.ref a)] [(.int (0 : Int32))])) (fun t k => XS.iconst X5.here hx rfl (hb hby d2_25) k) ?_
        exact own_retI (t := .boolean) X5 hx hlk hret (Or.inr (Or.inl rfl)) rfl (hb hby d2_26) (⟨by unfold own_f; rw [if_neg q2, if_neg q4, if_neg q6], N0, e5⟩) (by decide) (by decide)
set_option maxRecDepth 65536 in
set_option maxHeartbeats 4000000 in
theorem rm0 (l : Launch) (Z : State) (a0 : Array Value) (hw : ∀ d ∈ tables_1, d.before a0 Z = true) (ws : List Jvm.Cond) (w : Nat → Addr) (H : Hyp Z w) (p0 : Int32) (h0 : Heap) (Ex0 : Ext Z.heap h0)  :
    own_Met l Z x code maxLocals ret ws room_1 #[(.int p0)] h0 (fun v _ L => v = some (.int 1) ∧ Fr Z.heap.size L) := by
  have H0 := H
  obtain ⟨sS0, sE0, sF0_ordinal, sS1, sE1, sF1_ordinal, sS2, sE2, sF2_ordinal, sS3, sE3, sF3_ordinal, sS4, sE4, sF4_ordinal, sS5, sE5, sF5_ordinal, sS6, sE6, sF6_ordinal, sS7, sE7, sF7_ordinal, sS8, sE8, sF8_ordinal, sS9, sE9, sF9_ordinal, sS10, sE10, sF10_ordinal, sS11, sE11, sF11_ordinal, sS12, sE12, sF12_ordinal, sS13, sE13, sF13_ordinal, sS14, sE14, sF14_ordinal, sS15, sE15, sF15_ordinal, sS16, sE16, sF16_ordinal, SB, HB⟩ := H0
  refine own_body (ls := #[.val (.int p0), .unset, .unset, .unset]) own_pn0 (fun m => by first | (simp [entryFrame, mkF, argsToLocals, Value.category, maxLocals]; done) | rfl) ?_
  intro p e s m below meth c T0 hZ hx hby hml' hown' hnm hret' hlk X0 e0
  have hml : c.maxLocals = 4 := hml'
  have hown : s.vm.findClass "com/example/vinculum/vinculum/ConstantTagIsMemberRefPinLaw" = some m.cls := hown'
  have hret : meth.sig.returnType = (some .boolean) := hret'
  have N0 := Fr.nil Z.heap.size
  have ne_0_7 : ¬ (w 0 = w 7) := Fld.ne sF0_ordinal sF7_ordinal (by decide)
  have ne_0_8 : ¬ (w 0 = w 8) := Fld.ne sF0_ordinal sF8_ordinal (by decide)
  have ne_0_9 : ¬ (w 0 = w 9) := Fld.ne sF0_ordinal sF9_ordinal (by decide)
  have ne_1_7 : ¬ (w 1 = w 7) := Fld.ne sF1_ordinal sF7_ordinal (by decide)
  have ne_1_8 : ¬ (w 1 = w 8) := Fld.ne sF1_ordinal sF8_ordinal (by decide)
  have ne_1_9 : ¬ (w 1 = w 9) := Fld.ne sF1_ordinal sF9_ordinal (by decide)
  have ne_2_7 : ¬ (w 2 = w 7) := Fld.ne sF2_ordinal sF7_ordinal (by decide)
  have ne_2_8 : ¬ (w 2 = w 8) := Fld.ne sF2_ordinal sF8_ordinal (by decide)
  have ne_2_9 : ¬ (w 2 = w 9) := Fld.ne sF2_ordinal sF9_ordinal (by decide)
  have ne_3_7 : ¬ (w 3 = w 7) := Fld.ne sF3_ordinal sF7_ordinal (by decide)
  have ne_3_8 : ¬ (w 3 = w 8) := Fld.ne sF3_ordinal sF8_ordinal (by decide)
  have ne_3_9 : ¬ (w 3 = w 9) := Fld.ne sF3_ordinal sF9_ordinal (by decide)
  have ne_4_7 : ¬ (w 4 = w 7) := Fld.ne sF4_ordinal sF7_ordinal (by decide)
  have ne_4_8 : ¬ (w 4 = w 8) := Fld.ne sF4_ordinal sF8_ordinal (by decide)
  have ne_4_9 : ¬ (w 4 = w 9) := Fld.ne sF4_ordinal sF9_ordinal (by decide)
  have ne_5_7 : ¬ (w 5 = w 7) := Fld.ne sF5_ordinal sF7_ordinal (by decide)
  have ne_5_8 : ¬ (w 5 = w 8) := Fld.ne sF5_ordinal sF8_ordinal (by decide)
  have ne_5_9 : ¬ (w 5 = w 9) := Fld.ne sF5_ordinal sF9_ordinal (by decide)
  have ne_6_7 : ¬ (w 6 = w 7) := Fld.ne sF6_ordinal sF7_ordinal (by decide)
  have ne_6_8 : ¬ (w 6 = w 8) := Fld.ne sF6_ordinal sF8_ordinal (by decide)
  have ne_6_9 : ¬ (w 6 = w 9) := Fld.ne sF6_ordinal sF9_ordinal (by decide)
  have ne_7_8 : ¬ (w 7 = w 8) := Fld.ne sF7_ordinal sF8_ordinal (by decide)
  have ne_7_9 : ¬ (w 7 = w 9) := Fld.ne sF7_ordinal sF9_ordinal (by decide)
  have ne_8_7 : ¬ (w 8 = w 7) := Fld.ne sF8_ordinal sF7_ordinal (by decide)
  have ne_8_9 : ¬ (w 8 = w 9) := Fld.ne sF8_ordinal sF9_ordinal (by decide)
  have ne_9_7 : ¬ (w 9 = w 7) := Fld.ne sF9_ordinal sF7_ordinal (by decide)
  have ne_9_8 : ¬ (w 9 = w 8) := Fld.ne sF9_ordinal sF8_ordinal (by decide)
  have ne_10_7 : ¬ (w 10 = w 7) := Fld.ne sF10_ordinal sF7_ordinal (by decide)
  have ne_10_8 : ¬ (w 10 = w 8) := Fld.ne sF10_ordinal sF8_ordinal (by decide)
  have ne_10_9 : ¬ (w 10 = w 9) := Fld.ne sF10_ordinal sF9_ordinal (by decide)
  have ne_11_7 : ¬ (w 11 = w 7) := Fld.ne sF11_ordinal sF7_ordinal (by decide)
  have ne_11_8 : ¬ (w 11 = w 8) := Fld.ne sF11_ordinal sF8_ordinal (by decide)
  have ne_11_9 : ¬ (w 11 = w 9) := Fld.ne sF11_ordinal sF9_ordinal (by decide)
  have ne_12_7 : ¬ (w 12 = w 7) := Fld.ne sF12_ordinal sF7_ordinal (by decide)
  have ne_12_8 : ¬ (w 12 = w 8) := Fld.ne sF12_ordinal sF8_ordinal (by decide)
  have ne_12_9 : ¬ (w 12 = w 9) := Fld.ne sF12_ordinal sF9_ordinal (by decide)
  have ne_13_7 : ¬ (w 13 = w 7) := Fld.ne sF13_ordinal sF7_ordinal (by decide)
  have ne_13_8 : ¬ (w 13 = w 8) := Fld.ne sF13_ordinal sF8_ordinal (by decide)
  have ne_13_9 : ¬ (w 13 = w 9) := Fld.ne sF13_ordinal sF9_ordinal (by decide)
  have ne_14_7 : ¬ (w 14 = w 7) := Fld.ne sF14_ordinal sF7_ordinal (by decide)
  have ne_14_8 : ¬ (w 14 = w 8) := Fld.ne sF14_ordinal sF8_ordinal (by decide)
  have ne_14_9 : ¬ (w 14 = w 9) := Fld.ne sF14_ordinal sF9_ordinal (by decide)
  have ne_15_7 : ¬ (w 15 = w 7) := Fld.ne sF15_ordinal sF7_ordinal (by decide)
  have ne_15_8 : ¬ (w 15 = w 8) := Fld.ne sF15_ordinal sF8_ordinal (by decide)
  have ne_15_9 : ¬ (w 15 = w 9) := Fld.ne sF15_ordinal sF9_ordinal (by decide)
  have ne_16_7 : ¬ (w 16 = w 7) := Fld.ne sF16_ordinal sF7_ordinal (by decide)
  have ne_16_8 : ¬ (w 16 = w 8) := Fld.ne sF16_ordinal sF8_ordinal (by decide)
  have ne_16_9 : ¬ (w 16 = w 9) := Fld.ne sF16_ordinal sF9_ordinal (by decide)
  refine own_step (S' := T0.setTop (mkF m 1 #[.val (.int p0), .unset, .unset, .unset] [(.int p0)])) (fun t k => XS.iloadN X0.here hx rfl (hb hby at_0) rfl k) ?_
  refine own_step (S' := T0.setTop (mkF m 3 #[.val (.int p0), .unset, .unset, .unset] [(.int (2147483647 : Int32)), (.int p0)])) (fun t k => own_ldcI (own := "com/example/vinculum/vinculum/ConstantTagIsMemberRefPinLaw") (index := 7) (v := (2147483647 : Int32)) X0 hx hZ hown (hw _ (List.mem_of_getElem? (i := 0) rfl)) (g := (mkF m 1 #[.val (.int p0), .unset, .unset, .unset] [(.int p0)])) rfl (hb hby at_1) t k) ?_
  refine own_step (S' := T0.setTop (mkF m 4 #[.val (.int p0), .unset, .unset, .unset] [(.int (p0 &&& (2147483647 : Int32)))])) (fun t k => XS.iand X0.here hx rfl (hb hby at_3) rfl k) ?_
  refine own_step (S' := T0.setTop (mkF m 6 #[.val (.int p0), .unset, .unset, .unset] [(.int (21 : Int32)), (.int (p0 &&& (2147483647 : Int32)))])) (fun t k => XS.bipush X0.here hx rfl (hb hby at_4) k) ?_
  refine own_step (S' := T0.setTop (mkF m 7 #[.val (.int p0), .unset, .unset, .unset] [(.int ((p0 &&& (2147483647 : Int32)) % (21 : Int32)))])) (fun t k => iremM X0 hx rfl (hb hby at_6) rfl (by decide) k) ?_
  refine own_step (S' := T0.setTop (mkF m 8 #[.val (.int p0), .val (.int ((p0 &&& (2147483647 : Int32)) % (21 : Int32))), .unset, .unset] [])) (fun t k => XS.istoreN X0.here hx rfl (hb hby at_7) rfl (l' := #[.val (.int p0), .val (.int ((p0 &&& (2147483647 : Int32)) % (21 : Int32))), .unset, .unset]) rfl k) ?_
  generalize hg_i : ((p0 &&& (2147483647 : Int32)) % (21 : Int32)) = i
  have hr := own_idx p0 21 (by decide)
  rw [hg_i] at hr
  have hc := own_cases21 hr.1 hr.2
  refine own_step (S' := T0.setTop (mkF m 9 #[.val (.int p0), .val (.int i), .unset, .unset] [(.int i)])) (fun t k => XS.iloadN X0.here hx rfl (hb hby at_8) rfl k) ?_
  obtain ⟨_, T1, Lq1, X1, ⟨rfl, Nq1, e1⟩, st1⟩ := own_callS X0 hx hZ hown (hw _ (List.mem_of_getElem? (i := 1) rfl)) (hw _ (List.mem_of_getElem? (i := 2) rfl)) (hw _ (List.mem_of_getElem? (i := 4) rfl)) (hw _ (List.mem_of_getElem? (i := 3) rfl)) (by decide) (argsL := [(.int i)]) (rest := []) (rm1 l Z a0 hw [] w H i h0 Ex0) (W := 0) (by decide) (by decide) e0 (g := (mkF m 9 #[.val (.int p0), .val (.int i), .unset, .unset] [(.int i)])) rfl (by rw [hml]; rfl) (lenOf own_pd0 rfl) rfl (by show 2 * 0 + _ ≤ _; exact Nat.le_of_eq rfl) (hb hby at_9) (by decide) (by decide)
  have N1 := Fr.app N0 Nq1
  refine own_step (S' := T1.setTop (mkF m 12 #[.val (.int p0), .val (.int i), .unset, .unset] [(own_of i w)])) (fun t k => st1 t k) ?_
  refine own_step (S' := T1.setTop (mkF m 13 #[.val (.int p0), .val (.int i), .val (own_of i w), .unset] [])) (fun t k => XS.astoreN X1.here hx rfl (hb hby at_12) rfl (own_of_ref i w) (l' := #[.val (.int p0), .val (.int i), .val (own_of i w), .unset]) (by rcases ref_cases (own_of_ref i w) with hh | ⟨_, hh⟩ <;> rw [hh] <;> rfl) k) ?_
  refine own_step (S' := T1.setTop (mkF m 14 #[.val (.int p0), .val (.int i), .val (own_of i w), .unset] [(own_of i w)])) (fun t k => XS.aloadN X1.here hx rfl (hb hby at_13) rfl (own_of_ref i w) k) ?_
  by_cases hz : i = 0 ∨ i = 2 ∨ i = 13 ∨ i = 14
  ·
    have hv : own_of i w = .null := by
      rcases hz with rfl | rfl | rfl | rfl <;> rfl
    rw [hv]
    refine own_step (S' := T1.setTop (mkF m 17 #[.val (.int p0), .val (.int i), .val .null, .unset] [])) (fun t k => XT.ifnonnullNo X1.here hx rfl (hb hby at_14) rfl k) ?_
    refine own_step (S' := T1.setTop (mkF m 18 #[.val (.int p0), .val (.int i), .val .null, .unset] [(.int i)])) (fun t k => XS.iloadN X1.here hx rfl (hb hby at_17) rfl k) ?_
    by_cases q2 : i = (0 : Int32)
    ·
      refine own_step (S' := T1.setTop (mkF m 38 #[.val (.int p0), .val (.int i), .val .null, .unset] [])) (fun t k => XS.ifYes X1.here hx rfl (pc0 := 18) (pc' := 38) rfl (hb hby at_18) rfl ((if0 _ _).trans (teq (q2 : i = (0 : Int32))).1) (by decide) (by decide) k) ?_
      refine own_step (S' := T1.setTop (mkF m 39 #[.val (.int p0), .val (.int i), .val .null, .unset] [(.int (1 : Int32))])) (fun t k => XS.iconst X1.here hx rfl (hb hby at_38) k) ?_
      refine own_step (S' := T1.setTop (mkF m 43 #[.val (.int p0), .val (.int i), .val .null, .unset] [(.int (1 : Int32))])) (fun t k => XS.goto X1.here hx rfl (pc0 := 39) (pc' := 43) rfl (hb hby at_39) (by decide) (by decide) k) ?_
      exact own_retI (t := .boolean) X1 hx hlk hret (Or.inr (Or.inl rfl)) rfl (hb hby at_43) (⟨rfl, N1⟩) (by decide) (by decide)
    ·
      refine own_step (S' := T1.setTop (mkF m 21 #[.val (.int p0), .val (.int i), .val .null, .unset] [])) (fun t k => XS.ifNo X1.here hx rfl (hb hby at_18) rfl ((if0 _ _).trans (feq (q2 : ¬ (i = (0 : Int32)))).1) k) ?_
      refine own_step (S' := T1.setTop (mkF m 22 #[.val (.int p0), .val (.int i), .val .null, .unset] [(.int i)])) (fun t k => XS.iloadN X1.here hx rfl (hb hby at_21) rfl k) ?_
      refine own_step (S' := T1.setTop (mkF m 23 #[.val (.int p0), .val (.int i), .val .null, .unset] [(.int (2 : Int32)), (.int i)])) (fun t k => XS.iconst X1.here hx rfl (hb hby at_22) k) ?_
      by_cases q3 : i = (2 : Int32)
      ·
        refine own_step (S' := T1.setTop (mkF m 38 #[.val (.int p0), .val (.int i), .val .null, .unset] [])) (fun t k => XS.icmpYes X1.here hx rfl (pc0 := 23) (pc' := 38) rfl (hb hby at_23) rfl (teq (q3 : i = (2 : Int32))).1 (by decide) (by decide) k) ?_
        refine own_step (S' := T1.setTop (mkF m 39 #[.val (.int p0), .val (.int i), .val .null, .unset] [(.int (1 : Int32))])) (fun t k => XS.iconst X1.here hx rfl (hb hby at_38) k) ?_
        refine own_step (S' := T1.setTop (mkF m 43 #[.val (.int p0), .val (.int i), .val .null, .unset] [(.int (1 : Int32))])) (fun t k => XS.goto X1.here hx rfl (pc0 := 39) (pc' := 43) rfl (hb hby at_39) (by decide) (by decide) k) ?_
        exact own_retI (t := .boolean) X1 hx hlk hret (Or.inr (Or.inl rfl)) rfl (hb hby at_43) (⟨rfl, N1⟩) (by decide) (by decide)
      ·
        refine own_step (S' := T1.setTop (mkF m 26 #[.val (.int p0), .val (.int i), .val .null, .unset] [])) (fun t k => XS.icmpNo X1.here hx rfl (hb hby at_23) rfl (feq (q3 : ¬ (i = (2 : Int32)))).1 k) ?_
        refine own_step (S' := T1.setTop (mkF m 27 #[.val (.int p0), .val (.int i), .val .null, .unset] [(.int i)])) (fun t k => XS.iloadN X1.here hx rfl (hb hby at_26) rfl k) ?_
        refine own_step (S' := T1.setTop (mkF m 29 #[.val (.int p0), .val (.int i), .val .null, .unset] [(.int (13 : Int32)), (.int i)])) (fun t k => XS.bipush X1.here hx rfl (hb hby at_27) k) ?_
        by_cases q4 : i = (13 : Int32)
        ·
          refine own_step (S' := T1.setTop (mkF m 38 #[.val (.int p0), .val (.int i), .val .null, .unset] [])) (fun t k => XS.icmpYes X1.here hx rfl (pc0 := 29) (pc' := 38) rfl (hb hby at_29) rfl (teq (q4 : i = (13 : Int32))).1 (by decide) (by decide) k) ?_
          refine own_step (S' := T1.setTop (mkF m 39 #[.val (.int p0), .val (.int i), .val .null, .unset] [(.int (1 : Int32))])) (fun t k => XS.iconst X1.here hx rfl (hb hby at_38) k) ?_
          refine own_step (S' := T1.setTop (mkF m 43 #[.val (.int p0), .val (.int i), .val .null, .unset] [(.int (1 : Int32))])) (fun t k => XS.goto X1.here hx rfl (pc0 := 39) (pc' := 43) rfl (hb hby at_39) (by decide) (by decide) k) ?_
          exact own_retI (t := .boolean) X1 hx hlk hret (Or.inr (Or.inl rfl)) rfl (hb hby at_43) (⟨rfl, N1⟩) (by decide) (by decide)
        ·
          refine own_step (S' := T1.setTop (mkF m 32 #[.val (.int p0), .val (.int i), .val .null, .unset] [])) (fun t k => XS.icmpNo X1.here hx rfl (hb hby at_29) rfl (feq (q4 : ¬ (i = (13 : Int32)))).1 k) ?_
          refine own_step (S' := T1.setTop (mkF m 33 #[.val (.int p0), .val (.int i), .val .null, .unset] [(.int i)])) (fun t k => XS.iloadN X1.here hx rfl (hb hby at_32) rfl k) ?_
          refine own_step (S' := T1.setTop (mkF m 35 #[.val (.int p0), .val (.int i), .val .null, .unset] [(.int (14 : Int32)), (.int i)])) (fun t k => XS.bipush X1.here hx rfl (hb hby at_33) k) ?_
          refine own_step (S' := T1.setTop (mkF m 38 #[.val (.int p0), .val (.int i), .val .null, .unset] [])) (fun t k => XS.icmpNo X1.here hx rfl (hb hby at_35) rfl (teq ((((hz.resolve_left q2).resolve_left q3).resolve_left q4) : i = (14 : Int32))).2 k) ?_
          refine own_step (S' := T1.setTop (mkF m 39 #[.val (.int p0), .val (.int i), .val .null, .unset] [(.int (1 : Int32))])) (fun t k => XS.iconst X1.here hx rfl (hb hby at_38) k) ?_
          refine own_step (S' := T1.setTop (mkF m 43 #[.val (.int p0), .val (.int i), .val .null, .unset] [(.int (1 : Int32))])) (fun t k => XS.goto X1.here hx rfl (pc0 := 39) (pc' := 43) rfl (hb hby at_39) (by decide) (by decide) k) ?_
          exact own_retI (t := .boolean) X1 hx hlk hret (Or.inr (Or.inl rfl)) rfl (hb hby at_43) (⟨rfl, N1⟩) (by decide) (by decide)
  ·
    have hv : own_of i w = .ref (own_pk i w) := by
      rcases hc with rfl | rfl | rfl | rfl | rfl | rfl | rfl | rfl | rfl | rfl | rfl | rfl | rfl | rfl | rfl | rfl | rfl | rfl | rfl | rfl | rfl <;> first | rfl | exact absurd (by decide) hz
    have Ea : Exa Z Z.heap (own_pk i w) "com/example/vinculum/vinculum/ConstantTag" := by
      rcases hc with rfl | rfl | rfl | rfl | rfl | rfl | rfl | rfl | rfl | rfl | rfl | rfl | rfl | rfl | rfl | rfl | rfl | rfl | rfl | rfl | rfl
      · exact sE0
      · exact sE0
      · exact sE0
      · exact sE1
      · exact sE2
      · exact sE3
      · exact sE4
      · exact sE5
      · exact sE6
      · exact sE7
      · exact sE8
      · exact sE9
      · exact sE10
      · exact sE0
      · exact sE0
      · exact sE11
      · exact sE12
      · exact sE13
      · exact sE14
      · exact sE15
      · exact sE16
    have hf : own_f w (own_pk i w) = if i = 9 then 1 else if i = 10 then 1 else if i = 11 then 1 else 0 := by
      rcases hc with rfl | rfl | rfl | rfl | rfl | rfl | rfl | rfl | rfl | rfl | rfl | rfl | rfl | rfl | rfl | rfl | rfl | rfl | rfl | rfl | rfl <;> simp [own_pk, own_f, ne_0_7, ne_0_8, ne_0_9, ne_1_7, ne_1_8, ne_1_9, ne_2_7, ne_2_8, ne_2_9, ne_3_7, ne_3_8, ne_3_9, ne_4_7, ne_4_8, ne_4_9, ne_5_7, ne_5_8, ne_5_9, ne_6_7, ne_6_8, ne_6_9, ne_7_8, ne_7_9, ne_8_7, ne_8_9, ne_9_7, ne_9_8, ne_10_7, ne_10_8, ne_10_9, ne_11_7, ne_11_8, ne_11_9, ne_12_7, ne_12_8, ne_12_9, ne_13_7, ne_13_8, ne_13_9, ne_14_7, ne_14_8, ne_14_9, ne_15_7, ne_15_8, ne_15_9, ne_16_7, ne_16_8, ne_16_9]
    rw [hv]
    refine own_step (S' := T1.setTop (mkF m 44 #[.val (.int p0), .val (.int i), .val (.ref (own_pk i w)), .unset] [])) (fun t k => XT.ifnonnullYes X1.here hx rfl (pc0 := 14) (pc' := 44) rfl (hb hby at_14) rfl (by decide) (by decide) k) ?_
    refine own_step (S' := T1.setTop (mkF m 45 #[.val (.int p0), .val (.int i), .val (.ref (own_pk i w)), .unset] [(.int i)])) (fun t k => XS.iloadN X1.here hx rfl (hb hby at_44) rfl k) ?_
    refine own_step (S' := T1.setTop (mkF m 47 #[.val (.int p0), .val (.int i), .val (.ref (own_pk i w)), .unset] [(.int (9 : Int32)), (.int i)])) (fun t k => XS.bipush X1.here hx rfl (hb hby at_45) k) ?_
    by_cases q5 : i = (9 : Int32)
    ·
      refine own_step (S' := T1.setTop (mkF m 62 #[.val (.int p0), .val (.int i), .val (.ref (own_pk i w)), .unset] [])) (fun t k => XS.icmpYes X1.here hx rfl (pc0 := 47) (pc' := 62) rfl (hb hby at_47) rfl (teq (q5 : i = (9 : Int32))).1 (by decide) (by decide) k) ?_
      refine own_step (S' := T1.setTop (mkF m 63 #[.val (.int p0), .val (.int i), .val (.ref (own_pk i w)), .unset] [(.int (1 : Int32))])) (fun t k => XS.iconst X1.here hx rfl (hb hby at_62) k) ?_
      refine own_step (S' := T1.setTop (mkF m 67 #[.val (.int p0), .val (.int i), .val (.ref (own_pk i w)), .unset] [(.int (1 : Int32))])) (fun t k => XS.goto X1.here hx rfl (pc0 := 63) (pc' := 67) rfl (hb hby at_63) (by decide) (by decide) k) ?_
      refine own_step (S' := T1.setTop (mkF m 68 #[.val (.int p0), .val (.int i), .val (.ref (own_pk i w)), .val (.int (1 : Int32))] [])) (fun t k => XS.istoreN X1.here hx rfl (hb hby at_67) rfl (l' := #[.val (.int p0), .val (.int i), .val (.ref (own_pk i w)), .val (.int (1 : Int32))]) rfl k) ?_
      refine own_step (S' := T1.setTop (mkF m 69 #[.val (.int p0), .val (.int i), .val (.ref (own_pk i w)), .val (.int (1 : Int32))] [(.ref (own_pk i w))])) (fun t k => XS.aloadN X1.here hx rfl (hb hby at_68) rfl rfl k) ?_
      obtain ⟨_, T6, Lq6, X6, ⟨rfl, Nq6, e6⟩, st6⟩ := own_callV X1 hx hZ hown (hw _ (List.mem_of_getElem? (i := 8) rfl)) (hw _ (List.mem_of_getElem? (i := 9) rfl)) (hw _ (List.mem_of_getElem? (i := 11) rfl)) (hw _ (List.mem_of_getElem? (i := 10) rfl)) (hw _ (List.mem_of_getElem? (i := 12) rfl)) (hw _ (List.mem_of_getElem? (i := 3) rfl)) (by decide) (argsL := []) (rest := []) (rm2 l Z a0 hw [] w H (own_pk i w) h0 Ex0) (W := 0) (by decide) (by decide) e1 (Ea.ext Ex0) (g := (mkF m 69 #[.val (.int p0), .val (.int i), .val (.ref (own_pk i w)), .val (.int (1 : Int32))] [(.ref (own_pk i w))])) rfl (by rw [hml]; rfl) (lenOf own_pd1 rfl) rfl (by show 2 * 0 + _ ≤ _; exact Nat.le_of_eq rfl) (hb hby at_69) (by decide) (by decide)
      have N6 := Fr.app N1 Nq6
      refine own_step (S' := T6.setTop (mkF m 72 #[.val (.int p0), .val (.int i), .val (.ref (own_pk i w)), .val (.int (1 : Int32))] [(.int (own_f w (own_pk i w)))])) (fun t k => st6 t k) ?_
      refine own_step (S' := T6.setTop (mkF m 73 #[.val (.int p0), .val (.int i), .val (.ref (own_pk i w)), .val (.int (1 : Int32))] [(.int (1 : Int32)), (.int (own_f w (own_pk i w)))])) (fun t k => XS.iloadN X6.here hx rfl (hb hby at_72) rfl k) ?_
      refine own_step (S' := T6.setTop (mkF m 76 #[.val (.int p0), .val (.int i), .val (.ref (own_pk i w)), .val (.int (1 : Int32))] [])) (fun t k => XS.icmpNo X6.here hx rfl (hb hby at_73) rfl (teq ((by rw [hf]; simp [q5]) : (own_f w (own_pk i w)) = (1 : Int32))).2 k) ?_
      refine own_step (S' := T6.setTop (mkF m 77 #[.val (.int p0), .val (.int i), .val (.ref (own_pk i w)), .val (.int (1 : Int32))] [(.int (1 : Int32))])) (fun t k => XS.iconst X6.here hx rfl (hb hby at_76) k) ?_
      refine own_step (S' := T6.setTop (mkF m 81 #[.val (.int p0), .val (.int i), .val (.ref (own_pk i w)), .val (.int (1 : Int32))] [(.int (1 : Int32))])) (fun t k => XS.goto X6.here hx rfl (pc0 := 77) (pc' := 81) rfl (hb hby at_77) (by decide) (by decide) k) ?_
      exact own_retI (t := .boolean) X6 hx hlk hret (Or.inr (Or.inl rfl)) rfl (hb hby at_81) (⟨rfl, N6⟩) (by decide) (by decide)
    ·
      refine own_step (S' := T1.setTop (mkF m 50 #[.val (.int p0), .val (.int i), .val (.ref (own_pk i w)), .unset] [])) (fun t k => XS.icmpNo X1.here hx rfl (hb hby at_47) rfl (feq (q5 : ¬ (i = (9 : Int32)))).1 k) ?_
      refine own_step (S' := T1.setTop (mkF m 51 #[.val (.int p0), .val (.int i), .val (.ref (own_pk i w)), .unset] [(.int i)])) (fun t k => XS.iloadN X1.here hx rfl (hb hby at_50) rfl k) ?_
      refine own_step (S' := T1.setTop (mkF m 53 #[.val (.int p0), .val (.int i), .val (.ref (own_pk i w)), .unset] [(.int (10 : Int32)), (.int i)])) (fun t k => XS.bipush X1.here hx rfl (hb hby at_51) k) ?_
      by_cases q7 : i = (10 : Int32)
      ·
        refine own_step (S' := T1.setTop (mkF m 62 #[.val (.int p0), .val (.int i), .val (.ref (own_pk i w)), .unset] [])) (fun t k => XS.icmpYes X1.here hx rfl (pc0 := 53) (pc' := 62) rfl (hb hby at_53) rfl (teq (q7 : i = (10 : Int32))).1 (by decide) (by decide) k) ?_
        refine own_step (S' := T1.setTop (mkF m 63 #[.val (.int p0), .val (.int i), .val (.ref (own_pk i w)), .unset] [(.int (1 : Int32))])) (fun t k => XS.iconst X1.here hx rfl (hb hby at_62) k) ?_
        refine own_step (S' := T1.setTop (mkF m 67 #[.val (.int p0), .val (.int i), .val (.ref (own_pk i w)), .unset] [(.int (1 : Int32))])) (fun t k => XS.goto X1.here hx rfl (pc0 := 63) (pc' := 67) rfl (hb hby at_63) (by decide) (by decide) k) ?_
        refine own_step (S' := T1.setTop (mkF m 68 #[.val (.int p0), .val (.int i), .val (.ref (own_pk i w)), .val (.int (1 : Int32))] [])) (fun t k => XS.istoreN X1.here hx rfl (hb hby at_67) rfl (l' := #[.val (.int p0), .val (.int i), .val (.ref (own_pk i w)), .val (.int (1 : Int32))]) rfl k) ?_
        refine own_step (S' := T1.setTop (mkF m 69 #[.val (.int p0), .val (.int i), .val (.ref (own_pk i w)), .val (.int (1 : Int32))] [(.ref (own_pk i w))])) (fun t k => XS.aloadN X1.here hx rfl (hb hby at_68) rfl rfl k) ?_
        obtain ⟨_, T8, Lq8, X8, ⟨rfl, Nq8, e8⟩, st8⟩ := own_callV X1 hx hZ hown (hw _ (List.mem_of_getElem? (i := 8) rfl)) (hw _ (List.mem_of_getElem? (i := 9) rfl)) (hw _ (List.mem_of_getElem? (i := 11) rfl)) (hw _ (List.mem_of_getElem? (i := 10) rfl)) (hw _ (List.mem_of_getElem? (i := 12) rfl)) (hw _ (List.mem_of_getElem? (i := 3) rfl)) (by decide) (argsL := []) (rest := []) (rm2 l Z a0 hw [] w H (own_pk i w) h0 Ex0) (W := 0) (by decide) (by decide) e1 (Ea.ext Ex0) (g := (mkF m 69 #[.val (.int p0), .val (.int i), .val (.ref (own_pk i w)), .val (.int (1 : Int32))] [(.ref (own_pk i w))])) rfl (by rw [hml]; rfl) (lenOf own_pd1 rfl) rfl (by show 2 * 0 + _ ≤ _; exact Nat.le_of_eq rfl) (hb hby at_69) (by decide) (by decide)
        have N8 := Fr.app N1 Nq8
        refine own_step (S' := T8.setTop (mkF m 72 #[.val (.int p0), .val (.int i), .val (.ref (own_pk i w)), .val (.int (1 : Int32))] [(.int (own_f w (own_pk i w)))])) (fun t k => st8 t k) ?_
        refine own_step (S' := T8.setTop (mkF m 73 #[.val (.int p0), .val (.int i), .val (.ref (own_pk i w)), .val (.int (1 : Int32))] [(.int (1 : Int32)), (.int (own_f w (own_pk i w)))])) (fun t k => XS.iloadN X8.here hx rfl (hb hby at_72) rfl k) ?_
        refine own_step (S' := T8.setTop (mkF m 76 #[.val (.int p0), .val (.int i), .val (.ref (own_pk i w)), .val (.int (1 : Int32))] [])) (fun t k => XS.icmpNo X8.here hx rfl (hb hby at_73) rfl (teq ((by rw [hf]; simp [q5, q7]) : (own_f w (own_pk i w)) = (1 : Int32))).2 k) ?_
        refine own_step (S' := T8.setTop (mkF m 77 #[.val (.int p0), .val (.int i), .val (.ref (own_pk i w)), .val (.int (1 : Int32))] [(.int (1 : Int32))])) (fun t k => XS.iconst X8.here hx rfl (hb hby at_76) k) ?_
        refine own_step (S' := T8.setTop (mkF m 81 #[.val (.int p0), .val (.int i), .val (.ref (own_pk i w)), .val (.int (1 : Int32))] [(.int (1 : Int32))])) (fun t k => XS.goto X8.here hx rfl (pc0 := 77) (pc' := 81) rfl (hb hby at_77) (by decide) (by decide) k) ?_
        exact own_retI (t := .boolean) X8 hx hlk hret (Or.inr (Or.inl rfl)) rfl (hb hby at_81) (⟨rfl, N8⟩) (by decide) (by decide)
      ·
        refine own_step (S' := T1.setTop (mkF m 56 #[.val (.int p0), .val (.int i), .val (.ref (own_pk i w)), .unset] [])) (fun t k => XS.icmpNo X1.here hx rfl (hb hby at_53) rfl (feq (q7 : ¬ (i = (10 : Int32)))).1 k) ?_
        refine own_step (S' := T1.setTop (mkF m 57 #[.val (.int p0), .val (.int i), .val (.ref (own_pk i w)), .unset] [(.int i)])) (fun t k => XS.iloadN X1.here hx rfl (hb hby at_56) rfl k) ?_
        refine own_step (S' := T1.setTop (mkF m 59 #[.val (.int p0), .val (.int i), .val (.ref (own_pk i w)), .unset] [(.int (11 : Int32)), (.int i)])) (fun t k => XS.bipush X1.here hx rfl (hb hby at_57) k) ?_
        by_cases q9 : i = (11 : Int32)
        ·
          refine own_step (S' := T1.setTop (mkF m 62 #[.val (.int p0), .val (.int i), .val (.ref (own_pk i w)), .unset] [])) (fun t k => XS.icmpNo X1.here hx rfl (hb hby at_59) rfl (teq (q9 : i = (11 : Int32))).2 k) ?_
          refine own_step (S' := T1.setTop (mkF m 63 #[.val (.int p0), .val (.int i), .val (.ref (own_pk i w)), .unset] [(.int (1 : Int32))])) (fun t k => XS.iconst X1.here hx rfl (hb hby at_62) k) ?_
          refine own_step (S' := T1.setTop (mkF m 67 #[.val (.int p0), .val (.int i), .val (.ref (own_pk i w)), .unset] [(.int (1 : Int32))])) (fun t k => XS.goto X1.here hx rfl (pc0 := 63) (pc' := 67) rfl (hb hby at_63) (by decide) (by decide) k) ?_
          refine own_step (S' := T1.setTop (mkF m 68 #[.val (.int p0), .val (.int i), .val (.ref (own_pk i w)), .val (.int (1 : Int32))] [])) (fun t k => XS.istoreN X1.here hx rfl (hb hby at_67) rfl (l' := #[.val (.int p0), .val (.int i), .val (.ref (own_pk i w)), .val (.int (1 : Int32))]) rfl k) ?_
          refine own_step (S' := T1.setTop (mkF m 69 #[.val (.int p0), .val (.int i), .val (.ref (own_pk i w)), .val (.int (1 : Int32))] [(.ref (own_pk i w))])) (fun t k => XS.aloadN X1.here hx rfl (hb hby at_68) rfl rfl k) ?_
          obtain ⟨_, T10, Lq10, X10, ⟨rfl, Nq10, e10⟩, st10⟩ := own_callV X1 hx hZ hown (hw _ (List.mem_of_getElem? (i := 8) rfl)) (hw _ (List.mem_of_getElem? (i := 9) rfl)) (hw _ (List.mem_of_getElem? (i := 11) rfl)) (hw _ (List.mem_of_getElem? (i := 10) rfl)) (hw _ (List.mem_of_getElem? (i := 12) rfl)) (hw _ (List.mem_of_getElem? (i := 3) rfl)) (by decide) (argsL := []) (rest := []) (rm2 l Z a0 hw [] w H (own_pk i w) h0 Ex0) (W := 0) (by decide) (by decide) e1 (Ea.ext Ex0) (g := (mkF m 69 #[.val (.int p0), .val (.int i), .val (.ref (own_pk i w)), .val (.int (1 : Int32))] [(.ref (own_pk i w))])) rfl (by rw [hml]; rfl) (lenOf own_pd1 rfl) rfl (by show 2 * 0 + _ ≤ _; exact Nat.le_of_eq rfl) (hb hby at_69) (by decide) (by decide)
          have N10 := Fr.app N1 Nq10
          refine own_step (S' := T10.setTop (mkF m 72 #[.val (.int p0), .val (.int i), .val (.ref (own_pk i w)), .val (.int (1 : Int32))] [(.int (own_f w (own_pk i w)))])) (fun t k => st10 t k) ?_
          refine own_step (S' := T10.setTop (mkF m 73 #[.val (.int p0), .val (.int i), .val (.ref (own_pk i w)), .val (.int (1 : Int32))] [(.int (1 : Int32)), (.int (own_f w (own_pk i w)))])) (fun t k => XS.iloadN X10.here hx rfl (hb hby at_72) rfl k) ?_
          refine own_step (S' := T10.setTop (mkF m 76 #[.val (.int p0), .val (.int i), .val (.ref (own_pk i w)), .val (.int (1 : Int32))] [])) (fun t k => XS.icmpNo X10.here hx rfl (hb hby at_73) rfl (teq ((by rw [hf]; simp [q5, q7, q9]) : (own_f w (own_pk i w)) = (1 : Int32))).2 k) ?_
          refine own_step (S' := T10.setTop (mkF m 77 #[.val (.int p0), .val (.int i), .val (.ref (own_pk i w)), .val (.int (1 : Int32))] [(.int (1 : Int32))])) (fun t k => XS.iconst X10.here hx rfl (hb hby at_76) k) ?_
          refine own_step (S' := T10.setTop (mkF m 81 #[.val (.int p0), .val (.int i), .val (.ref (own_pk i w)), .val (.int (1 : Int32))] [(.int (1 : Int32))])) (fun t k => XS.goto X10.here hx rfl (pc0 := 77) (pc' := 81) rfl (hb hby at_77) (by decide) (by decide) k) ?_
          exact own_retI (t := .boolean) X10 hx hlk hret (Or.inr (Or.inl rfl)) rfl (hb hby at_81) (⟨rfl, N10⟩) (by decide) (by decide)
        ·
          refine own_step (S' := T1.setTop (mkF m 66 #[.val (.int p0), .val (.int i), .val (.ref (own_pk i w)), .unset] [])) (fun t k => XS.icmpYes X1.here hx rfl (pc0 := 59) (pc' := 66) rfl (hb hby at_59) rfl (feq (q9 : ¬ (i = (11 : Int32)))).2 (by decide) (by decide) k) ?_
          refine own_step (S' := T1.setTop (mkF m 67 #[.val (.int p0), .val (.int i), .val (.ref (own_pk i w)), .unset] [(.int (0 : Int32))])) (fun t k => XS.iconst X1.here hx rfl (hb hby at_66) k) ?_
          refine own_step (S' := T1.setTop (mkF m 68 #[.val (.int p0), .val (.int i), .val (.ref (own_pk i w)), .val (.int (0 : Int32))] [])) (fun t k => XS.istoreN X1.here hx rfl (hb hby at_67) rfl (l' := #[.val (.int p0), .val (.int i), .val (.ref (own_pk i w)), .val (.int (0 : Int32))]) rfl k) ?_
          refine own_step (S' := T1.setTop (mkF m 69 #[.val (.int p0), .val (.int i), .val (.ref (own_pk i w)), .val (.int (0 : Int32))] [(.ref (own_pk i w))])) (fun t k => XS.aloadN X1.here hx rfl (hb hby at_68) rfl rfl k) ?_
          obtain ⟨_, T11, Lq11, X11, ⟨rfl, Nq11, e11⟩, st11⟩ := own_callV X1 hx hZ hown (hw _ (List.mem_of_getElem? (i := 8) rfl)) (hw _ (List.mem_of_getElem? (i := 9) rfl)) (hw _ (List.mem_of_getElem? (i := 11) rfl)) (hw _ (List.mem_of_getElem? (i := 10) rfl)) (hw _ (List.mem_of_getElem? (i := 12) rfl)) (hw _ (List.mem_of_getElem? (i := 3) rfl)) (by decide) (argsL := []) (rest := []) (rm2 l Z a0 hw [] w H (own_pk i w) h0 Ex0) (W := 0) (by decide) (by decide) e1 (Ea.ext Ex0) (g := (mkF m 69 #[.val (.int p0), .val (.int i), .val (.ref (own_pk i w)), .val (.int (0 : Int32))] [(.ref (own_pk i w))])) rfl (by rw [hml]; rfl) (lenOf own_pd1 rfl) rfl (by show 2 * 0 + _ ≤ _; exact Nat.le_of_eq rfl) (hb hby at_69) (by decide) (by decide)
          have N11 := Fr.app N1 Nq11
          refine own_step (S' := T11.setTop (mkF m 72 #[.val (.int p0), .val (.int i), .val (.ref (own_pk i w)), .val (.int (0 : Int32))] [(.int (own_f w (own_pk i w)))])) (fun t k => st11 t k) ?_
          refine own_step (S' := T11.setTop (mkF m 73 #[.val (.int p0), .val (.int i), .val (.ref (own_pk i w)), .val (.int (0 : Int32))] [(.int (0 : Int32)), (.int (own_f w (own_pk i w)))])) (fun t k => XS.iloadN X11.here hx rfl (hb hby at_72) rfl k) ?_
          refine own_step (S' := T11.setTop (mkF m 76 #[.val (.int p0), .val (.int i), .val (.ref (own_pk i w)), .val (.int (0 : Int32))] [])) (fun t k => XS.icmpNo X11.here hx rfl (hb hby at_73) rfl (teq ((by rw [hf]; simp [q5, q7, q9]) : (own_f w (own_pk i w)) = (0 : Int32))).2 k) ?_
          refine own_step (S' := T11.setTop (mkF m 77 #[.val (.int p0), .val (.int i), .val (.ref (own_pk i w)), .val (.int (0 : Int32))] [(.int (1 : Int32))])) (fun t k => XS.iconst X11.here hx rfl (hb hby at_76) k) ?_
          refine own_step (S' := T11.setTop (mkF m 81 #[.val (.int p0), .val (.int i), .val (.ref (own_pk i w)), .val (.int (0 : Int32))] [(.int (1 : Int32))])) (fun t k => XS.goto X11.here hx rfl (pc0 := 77) (pc' := 81) rfl (hb hby at_77) (by decide) (by decide) k) ?_
          exact own_retI (t := .boolean) X11 hx hlk hret (Or.inr (Or.inl rfl)) rfl (hb hby at_81) (⟨rfl, N11⟩) (by decide) (by decide)
set_option maxRecDepth 65536 in
set_option maxHeartbeats 4000000 in
theorem comes_1 {Post : Tables → Env → Array Value → State → Outcome → State → Prop} (hpost : ∀ tb e args s v u, (limb_1_1.after args s (.returned v) u = true ∧ limb_1_2.after args s (.returned v) u = true ∧ True) → FrameEnd s (.returned v) u (Jvm.fieldLocs frame_1_writes args s ++ Jvm.arrayLocs frame_1_arrays args s ++ Jvm.staticLocs frame_1_statics s) 0 0 → Post tb e args s (.returned v) u) :
    ArmFor flags0 classFile x code maxLocals ret World_1 tables_1 room_1 Calls_1 rest_1 Pre_1 Post := by
  intro l hfl _ _ p e ha hc hk s m args below hf hA hF happ hP
  obtain ⟨hcalls, hrest, hpre⟩ := hP
  obtain ⟨-, -, -, hnamed, -, -, -, hat⟩ := (Spec.applies_iff hf).mp happ
  obtain ⟨hg, hn⟩ := and_e (Cond.before_iff.mp (show (Jvm.Cond.and given_1 narrow_1).before args s = true from hpre))
  obtain ⟨g0, hg⟩ := and_e hg
  have g1 := hg
  obtain ⟨w0, rfl⟩ : ∃ w0 : Value, args = #[w0] := by
    have hs : args.size = 1 := by simpa [Cond.value, given_1] using g0
    obtain ⟨Lx⟩ := args
    match Lx, hs with
    | [w0], _ => exact ⟨w0, rfl⟩
  have hw := fun d (hd : d ∈ tables_1) => atoms_spec (ws := Jvm.Cond.code x code maxLocals ret :: tables_1) hat d (List.mem_cons_of_mem _ hd)
  obtain ⟨i0, ei0⟩ := is_v g1
  obtain rfl : w0 = (.int i0) := Option.some.inj ei0
  obtain ⟨n0, hn⟩ := and_e hn
  obtain ⟨n1, hn⟩ := and_e hn
  obtain ⟨n2, hn⟩ := and_e hn
  obtain ⟨n3, hn⟩ := and_e hn
  obtain ⟨n4, hn⟩ := and_e hn
  obtain ⟨n5, hn⟩ := and_e hn
  obtain ⟨n6, hn⟩ := and_e hn
  obtain ⟨n7, hn⟩ := and_e hn
  obtain ⟨n8, hn⟩ := and_e hn
  obtain ⟨n9, hn⟩ := and_e hn
  obtain ⟨n10, hn⟩ := and_e hn
  obtain ⟨n11, hn⟩ := and_e hn
  obtain ⟨n12, hn⟩ := and_e hn
  obtain ⟨n13, hn⟩ := and_e hn
  obtain ⟨n14, hn⟩ := and_e hn
  obtain ⟨n15, hn⟩ := and_e hn
  obtain ⟨n16, hn⟩ := and_e hn
  obtain ⟨n17, hn⟩ := and_e hn
  obtain ⟨n18, hn⟩ := and_e hn
  obtain ⟨n19, hn⟩ := and_e hn
  obtain ⟨n20, hn⟩ := and_e hn
  obtain ⟨n21, hn⟩ := and_e hn
  obtain ⟨n22, hn⟩ := and_e hn
  obtain ⟨n23, hn⟩ := and_e hn
  obtain ⟨n24, hn⟩ := and_e hn
  obtain ⟨n25, hn⟩ := and_e hn
  obtain ⟨n26, hn⟩ := and_e hn
  obtain ⟨n27, hn⟩ := and_e hn
  obtain ⟨n28, hn⟩ := and_e hn
  obtain ⟨n29, hn⟩ := and_e hn
  obtain ⟨n30, hn⟩ := and_e hn
  obtain ⟨n31, hn⟩ := and_e hn
  obtain ⟨n32, hn⟩ := and_e hn
  obtain ⟨n33, hn⟩ := and_e hn
  obtain ⟨n34, hn⟩ := and_e hn
  obtain ⟨n35, hn⟩ := and_e hn
  obtain ⟨n36, hn⟩ := and_e hn
  obtain ⟨n37, hn⟩ := and_e hn
  obtain ⟨n38, hn⟩ := and_e hn
  obtain ⟨n39, hn⟩ := and_e hn
  obtain ⟨n40, hn⟩ := and_e hn
  obtain ⟨n41, hn⟩ := and_e hn
  obtain ⟨n42, hn⟩ := and_e hn
  obtain ⟨n43, hn⟩ := and_e hn
  obtain ⟨n44, hn⟩ := and_e hn
  obtain ⟨n45, hn⟩ := and_e hn
  obtain ⟨n46, hn⟩ := and_e hn
  obtain ⟨n47, hn⟩ := and_e hn
  obtain ⟨n48, hn⟩ := and_e hn
  obtain ⟨n49, hn⟩ := and_e hn
  obtain ⟨n50, hn⟩ := and_e hn
  obtain ⟨n51, hn⟩ := and_e hn
  obtain ⟨n52, hn⟩ := and_e hn
  obtain ⟨n53, hn⟩ := and_e hn
  obtain ⟨n54, hn⟩ := and_e hn
  obtain ⟨n55, hn⟩ := and_e hn
  have n56 := hn
  obtain ⟨x1, v1, sS1, sE1⟩ := own_exa n3 (hw _ (List.mem_of_getElem? (i := 3) rfl)) (hw _ (List.mem_of_getElem? (i := 7) rfl))
  obtain ⟨x7, v7, sS7, sE7⟩ := own_exa n5 (hw _ (List.mem_of_getElem? (i := 3) rfl)) (hw _ (List.mem_of_getElem? (i := 14) rfl))
  obtain ⟨x8, v8, sS8, sE8⟩ := own_exa n8 (hw _ (List.mem_of_getElem? (i := 3) rfl)) (hw _ (List.mem_of_getElem? (i := 16) rfl))
  obtain ⟨x9, v9, sS9, sE9⟩ := own_exa n10 (hw _ (List.mem_of_getElem? (i := 3) rfl)) (hw _ (List.mem_of_getElem? (i := 18) rfl))
  obtain ⟨x3, v3, sS3, sE3⟩ := own_exa n12 (hw _ (List.mem_of_getElem? (i := 3) rfl)) (hw _ (List.mem_of_getElem? (i := 19) rfl))
  obtain ⟨x4, v4, sS4, sE4⟩ := own_exa n16 (hw _ (List.mem_of_getElem? (i := 3) rfl)) (hw _ (List.mem_of_getElem? (i := 20) rfl))
  obtain ⟨x5, v5, sS5, sE5⟩ := own_exa n20 (hw _ (List.mem_of_getElem? (i := 3) rfl)) (hw _ (List.mem_of_getElem? (i := 21) rfl))
  obtain ⟨x6, v6, sS6, sE6⟩ := own_exa n25 (hw _ (List.mem_of_getElem? (i := 3) rfl)) (hw _ (List.mem_of_getElem? (i := 22) rfl))
  obtain ⟨x0, v0, sS0, sE0⟩ := own_exa n28 (hw _ (List.mem_of_getElem? (i := 3) rfl)) (hw _ (List.mem_of_getElem? (i := 23) rfl))
  obtain ⟨x11, v11, sS11, sE11⟩ := own_exa n32 (hw _ (List.mem_of_getElem? (i := 3) rfl)) (hw _ (List.mem_of_getElem? (i := 24) rfl))
  obtain ⟨x15, v15, sS15, sE15⟩ := own_exa n36 (hw _ (List.mem_of_getElem? (i := 3) rfl)) (hw _ (List.mem_of_getElem? (i := 25) rfl))
  obtain ⟨x12, v12, sS12, sE12⟩ := own_exa n39 (hw _ (List.mem_of_getElem? (i := 3) rfl)) (hw _ (List.mem_of_getElem? (i := 26) rfl))
  obtain ⟨x13, v13, sS13, sE13⟩ := own_exa n42 (hw _ (List.mem_of_getElem? (i := 3) rfl)) (hw _ (List.mem_of_getElem? (i := 27) rfl))
  obtain ⟨x16, v16, sS16, sE16⟩ := own_exa n45 (hw _ (List.mem_of_getElem? (i := 3) rfl)) (hw _ (List.mem_of_getElem? (i := 28) rfl))
  obtain ⟨x2, v2, sS2, sE2⟩ := own_exa n48 (hw _ (List.mem_of_getElem? (i := 3) rfl)) (hw _ (List.mem_of_getElem? (i := 29) rfl))
  obtain ⟨x10, v10, sS10, sE10⟩ := own_exa n51 (hw _ (List.mem_of_getElem? (i := 3) rfl)) (hw _ (List.mem_of_getElem? (i := 30) rfl))
  obtain ⟨x14, v14, sS14, sE14⟩ := own_exa n54 (hw _ (List.mem_of_getElem? (i := 3) rfl)) (hw _ (List.mem_of_getElem? (i := 31) rfl))
  have sF1_ordinal := own_fldI v1 n6
  have sF7_ordinal := own_fldI v7 n7
  have sF8_ordinal := own_fldI v8 n9
  have sF9_ordinal := own_fldI v9 n11
  have sF3_ordinal := own_fldI v3 n14
  have sF4_ordinal := own_fldI v4 n18
  have sF5_ordinal := own_fldI v5 n22
  have sF6_ordinal := own_fldI v6 n27
  have sF0_ordinal := own_fldI v0 n30
  have sF11_ordinal := own_fldI v11 n34
  have sF15_ordinal := own_fldI v15 n38
  have sF12_ordinal := own_fldI v12 n41
  have sF13_ordinal := own_fldI v13 n44
  have sF16_ordinal := own_fldI v16 n47
  have sF2_ordinal := own_fldI v2 n50
  have sF10_ordinal := own_fldI v10 n53
  have sF14_ordinal := own_fldI v14 n56
  obtain ⟨x17, clB, vB, SB, AB⟩ := own_arr n0 (hw _ (List.mem_of_getElem? (i := 3) rfl)) (hw _ (List.mem_of_getElem? (i := 6) rfl))
  have hlB := own_len vB AB n1
  have HB := own_arB AB hlB (vs := [.null, .ref x0, .null, .ref x1, .ref x2, .ref x3, .ref x4, .ref x5, .ref x6, .ref x7, .ref x8, .ref x9, .ref x10, .null, .null, .ref x11, .ref x12, .ref x13, .ref x14, .ref x15, .ref x16]) rfl ⟨own_elem vB AB own_null rfl n2, own_elem vB AB v0 rfl n29, own_elem vB AB own_null rfl n23, own_elem vB AB v1 rfl n4, own_elem vB AB v2 rfl n49, own_elem vB AB v3 rfl n13, own_elem vB AB v4 rfl n17, own_elem vB AB v5 rfl n21, own_elem vB AB v6 rfl n26, own_elem vB AB v7 rfl n35, own_elem vB AB v8 rfl n24, own_elem vB AB v9 rfl n19, own_elem vB AB v10 rfl n52, own_elem vB AB own_null rfl n15, own_elem vB AB own_null rfl n31, own_elem vB AB v11 rfl n33, own_elem vB AB v12 rfl n40, own_elem vB AB v13 rfl n43, own_elem vB AB v14 rfl n55, own_elem vB AB v15 rfl n37, own_elem vB AB v16 rfl n46, trivial⟩
  have H : Hyp s (fun j => [x0, x1, x2, x3, x4, x5, x6, x7, x8, x9, x10, x11, x12, x13, x14, x15, x16, x17].getD j 0) := ⟨sS0, sE0, sF0_ordinal, sS1, sE1, sF1_ordinal, sS2, sE2, sF2_ordinal, sS3, sE3, sF3_ordinal, sS4, sE4, sF4_ordinal, sS5, sE5, sF5_ordinal, sS6, sE6, sF6_ordinal, sS7, sE7, sF7_ordinal, sS8, sE8, sF8_ordinal, sS9, sE9, sF9_ordinal, sS10, sE10, sF10_ordinal, sS11, sE11, sF11_ordinal, sS12, sE12, sF12_ordinal, sS13, sE13, sF13_ordinal, sS14, sE14, sF14_ordinal, sS15, sE15, sF15_ordinal, sS16, sE16, sF16_ordinal, SB, HB⟩
  obtain ⟨n, o, h1, h2, h3, _, L, rfl, ⟨rfl, N⟩, hq⟩ := rm0 l s _ hw tables_1 _ H i0 s.heap ⟨Nat.le_refl _, fun _ _ q => q⟩  p e ha hc hk s m _ below hf ((Spec.applies_iff_loose hf).mp happ).1 ⟨rfl, State.Warmed39.refl s, rfl⟩ trivial
  refine ⟨n, _, h1, h2, h3, hpost _ _ _ _ _ _ ⟨Cond.after_iff.mpr rfl, Cond.after_iff.mpr (eq_i res_at (Term.int_eval (1)) rfl), trivial⟩ ⟨hq.1, hq.2.1, (hq.2.2.sift fun y hy => Or.inr (N y hy)).mono (by decide) (by decide)⟩⟩
theorem main_1_1 : Claimed_1_1 := comes_1 fun _ _ _ _ _ _ h hF => ⟨h.1, hF⟩
theorem main_1_2 : Claimed_1_2 := comes_1 fun _ _ _ _ _ _ h hF => ⟨h.2.1, hF⟩
end Jvm.Pilot.@@N@@
namespace Jvm.Pilot.@@N@@
open Jvm Jvm.ClassFile Sem Op Lib Jvm.Free Jvm.Stand Jvm.Pilot.@@N@@.Jvm.D
/-! MADE BY PROGRAM (witnessworld.py) out of the Statement's table words and the real class files: 13 classes; the members and pool entries that the words name. The judged class is class 1, her method 1. -/
namespace start1
open Jvm.ClassFile
def u (s : String) : CpInfo := .utf8 (stringToUtf16 s)
/-- a pool by its gaps: so many unusable entries, then the entry; so many at the end -/
def gap : Nat → List CpInfo → List CpInfo
  | 0, r => r
  | n + 1, r => .unusable :: gap n r
def poolList (es : List (Nat × CpInfo)) (last : Nat) : List CpInfo := es.foldr (fun e r => gap e.1 (e.2 :: r)) (gap last [])
def pool (es : List (Nat × CpInfo)) (last : Nat) : Array CpInfo := ⟨poolList es last⟩
def fileOf (pool : Array CpInfo) (this : Nat) (attrs : Array Attribute := #[]) (ms : Array MethodInfo := #[]) (fl : Nat := 33) (sup : Nat := 0) (ifs : Array Nat := #[]) (fds : Array FieldInfo := #[]) : ClassFile where
  minorVersion := 0
  majorVersion := 65
  constantPool := pool
  accessFlags := fl
  thisClass := this
  superClass := sup
  interfaces := ifs
  fields := fds
  methods := ms
  attributes := attrs
def plain (name : String) (sup : Option ClassId) : Class where
  name := name
  kind := .ordinary
  loader := none
  accessFlags := 33
  super := sup
  interfaces := #[]
  cf := none
  fields := #[]
  methods := #[]
  instanceTypes := #[]
  staticTypes := #[]
  resolved := #[]
  callSites := []
  init := .initialized
  statics := none
  mirror := none

def pool0 : Array CpInfo := pool [(5, u "<init>"), (0, u "()V"), (1, .class_ 10), (1, u "java/lang/Object")] 113

def k0m0 : Method := { name := "<init>", desc := "()V", sig := { parameters := [], returnType := none }, accessFlags := 1, code := none }
/-- java/lang/Object -/
def k0 : Class := { plain "java/lang/Object" none with
  accessFlags := 33
  interfaces := #[]
  cf := some (fileOf pool0 8 #[] #[{ accessFlags := 1, nameIndex := 5, descriptorIndex := 6, attributes := #[] }] 33 0 #[] #[])
  fields := #[]
  methods := #[k0m0]
  instanceTypes := #[]
  staticTypes := #[]
  resolved := Array.replicate 124 none
  statics := none }

def pool1 : Array CpInfo := pool [(2, .class_ 4), (1, u "java/lang/Object"), (0, u "<init>"), (0, u "()V"), (0, .integer 2147483647), (0, .methodref 9 10), (0, .class_ 11), (0, .nameAndType 12 13), (0, u "com/example/vinculum/vinculum/ConstantTag"), (0, u "of"), (0, u "(I)Lcom/example/vinculum/vinculum/ConstantTag;"), (0, .methodref 9 15), (0, .nameAndType 16 17), (0, u "isMemberRef"), (0, u "()Z"), (0, .class_ 19), (0, u "com/example/vinculum/vinculum/ConstantTagIsMemberRefPinLaw"), (2, u "law"), (0, u "(I)Z")] 3

def k1m0 : Method := { name := "<init>", desc := "()V", sig := { parameters := [], returnType := none }, accessFlags := 1, code := none }
def k1c1 : Code := { maxStack := 2, maxLocals := 4, code := code, exceptionTable := #[], attributes := #[] }
def k1m1 : Method := { name := "law", desc := "(I)Z", sig := { parameters := [.int], returnType := some .boolean }, accessFlags := 9, code := some k1c1 }
/-- com/example/vinculum/vinculum/ConstantTagIsMemberRefPinLaw -/
def k1 : Class := { plain "com/example/vinculum/vinculum/ConstantTagIsMemberRefPinLaw" (some 0) with
  accessFlags := 49
  interfaces := #[]
  cf := some (fileOf pool1 18 #[] #[{ accessFlags := 1, nameIndex := 5, descriptorIndex := 6, attributes := #[] }, { accessFlags := 9, nameIndex := 22, descriptorIndex := 23, attributes := #[] }] 49 2 #[] #[])
  fields := #[]
  methods := #[k1m0, k1m1]
  instanceTypes := #[]
  staticTypes := #[]
  resolved := Array.replicate 27 none
  statics := none }

def pool2 : Array CpInfo := pool [(1, .class_ 2), (0, u "java/lang/constant/Constable"), (0, .class_ 4), (0, u "java/lang/Object")] 6

/-- java/lang/constant/Constable -/
def k2 : Class := { plain "java/lang/constant/Constable" (some 0) with
  accessFlags := 1537
  interfaces := #[]
  cf := some (fileOf pool2 1 #[] #[] 1537 3 #[] #[])
  fields := #[]
  methods := #[]
  instanceTypes := #[]
  staticTypes := #[]
  resolved := Array.replicate 11 none
  statics := none }

def pool3 : Array CpInfo := pool [(1, .class_ 2), (0, u "java/lang/Comparable"), (0, .class_ 4), (0, u "java/lang/Object")] 7

/-- java/lang/Comparable -/
def k3 : Class := { plain "java/lang/Comparable" (some 0) with
  accessFlags := 1537
  interfaces := #[]
  cf := some (fileOf pool3 1 #[] #[] 1537 3 #[] #[])
  fields := #[]
  methods := #[]
  instanceTypes := #[]
  staticTypes := #[]
  resolved := Array.replicate 12 none
  statics := none }

def pool4 : Array CpInfo := pool [(1, .class_ 2), (0, u "java/io/Serializable"), (0, .class_ 4), (0, u "java/lang/Object")] 2

/-- java/io/Serializable -/
def k4 : Class := { plain "java/io/Serializable" (some 0) with
  accessFlags := 1537
  interfaces := #[]
  cf := some (fileOf pool4 1 #[] #[] 1537 3 #[] #[])
  fields := #[]
  methods := #[]
  instanceTypes := #[]
  staticTypes := #[]
  resolved := Array.replicate 7 none
  statics := none }

def pool5 : Array CpInfo := pool [(2, .class_ 4), (1, u "java/lang/Enum"), (0, u "name"), (0, u "Ljava/lang/String;"), (2, u "ordinal"), (0, u "I"), (1, .class_ 14), (1, u "java/lang/Object"), (4, u "hash"), (86, .class_ 108), (1, u "java/lang/Enum$EnumDesc"), (2, .class_ 112), (0, u "java/lang/constant/Constable"), (0, .class_ 114), (0, u "java/lang/Comparable"), (0, .class_ 116), (0, u "java/io/Serializable")] 87

/-- java/lang/Enum -/
def k5 : Class := { plain "java/lang/Enum" (some 0) with
  accessFlags := 1057
  interfaces := #[2, 3, 4]
  cf := some (fileOf pool5 2 #[.nestMembers #[106]] #[] 1057 12 #[111, 113, 115] #[{ accessFlags := 18, nameIndex := 5, descriptorIndex := 6, attributes := #[] }, { accessFlags := 18, nameIndex := 9, descriptorIndex := 10, attributes := #[] }, { accessFlags := 2, nameIndex := 19, descriptorIndex := 10, attributes := #[] }])
  fields := #[{ name := "name", type := (.object "java/lang/String"), accessFlags := 18, slot := 0, constantValue := 0 }, { name := "ordinal", type := .int, accessFlags := 18, slot := 1, constantValue := 0 }, { name := "hash", type := .int, accessFlags := 2, slot := 2, constantValue := 0 }]
  methods := #[]
  instanceTypes := #[(.object "java/lang/String"), .int, .int]
  staticTypes := #[]
  resolved := Array.replicate 204 none
  statics := none }

def pool6 : Array CpInfo := pool [(1, .class_ 2), (0, u "com/example/vinculum/vinculum/ConstantTag"), (2, u "UTF8"), (0, u "Lcom/example/vinculum/vinculum/ConstantTag;"), (2, u "INTEGER"), (2, u "FLOAT"), (2, u "LONG"), (2, u "DOUBLE"), (2, u "CLASS"), (2, u "STRING"), (0, .fieldref 1 26), (0, .nameAndType 27 6), (0, u "FIELDREF"), (0, .fieldref 1 29), (0, .nameAndType 30 6), (0, u "METHODREF"), (0, .fieldref 1 32), (0, .nameAndType 33 6), (0, u "INTERFACE_METHODREF"), (2, u "NAME_AND_TYPE"), (2, u "METHOD_HANDLE"), (2, u "METHOD_TYPE"), (2, u "DYNAMIC"), (2, u "INVOKE_DYNAMIC"), (2, u "MODULE"), (2, u "PACKAGE"), (2, u "$VALUES"), (0, u "[Lcom/example/vinculum/vinculum/ConstantTag;"), (6, .class_ 67), (1, u "java/lang/Enum"), (8, u "code"), (0, u "I"), (2, u "label"), (0, u "Ljava/lang/String;"), (2, u "firstVersion"), (2, u "infoSize"), (0, .fieldref 1 89), (0, .nameAndType 90 58), (0, u "BY_CODE"), (67, u "of"), (0, u "(I)Lcom/example/vinculum/vinculum/ConstantTag;"), (4, u "()Z"), (0, u "isMemberRef")] 6

def k6c0 : Code := { maxStack := 2, maxLocals := 1, code := prog_28_method_4_code, exceptionTable := #[], attributes := #[] }
def k6m0 : Method := { name := "of", desc := "(I)Lcom/example/vinculum/vinculum/ConstantTag;", sig := { parameters := [.int], returnType := some (.object "com/example/vinculum/vinculum/ConstantTag") }, accessFlags := 9, code := some k6c0 }
def k6c1 : Code := { maxStack := 2, maxLocals := 1, code := prog_28_method_10_code, exceptionTable := #[], attributes := #[] }
def k6m1 : Method := { name := "isMemberRef", desc := "()Z", sig := { parameters := [], returnType := some .boolean }, accessFlags := 1, code := some k6c1 }
/-- com/example/vinculum/vinculum/ConstantTag -/
def k6 : Class := { plain "com/example/vinculum/vinculum/ConstantTag" (some 5) with
  accessFlags := 16433
  interfaces := #[]
  cf := some (fileOf pool6 1 #[] #[{ accessFlags := 9, nameIndex := 158, descriptorIndex := 159, attributes := #[] }, { accessFlags := 1, nameIndex := 165, descriptorIndex := 164, attributes := #[] }] 16433 65 #[] #[{ accessFlags := 16409, nameIndex := 5, descriptorIndex := 6, attributes := #[] }, { accessFlags := 16409, nameIndex := 9, descriptorIndex := 6, attributes := #[] }, { accessFlags := 16409, nameIndex := 12, descriptorIndex := 6, attributes := #[] }, { accessFlags := 16409, nameIndex := 15, descriptorIndex := 6, attributes := #[] }, { accessFlags := 16409, nameIndex := 18, descriptorIndex := 6, attributes := #[] }, { accessFlags := 16409, nameIndex := 21, descriptorIndex := 6, attributes := #[] }, { accessFlags := 16409, nameIndex := 24, descriptorIndex := 6, attributes := #[] }, { accessFlags := 16409, nameIndex := 27, descriptorIndex := 6, attributes := #[] }, { accessFlags := 16409, nameIndex := 30, descriptorIndex := 6, attributes := #[] }, { accessFlags := 16409, nameIndex := 33, descriptorIndex := 6, attributes := #[] }, { accessFlags := 16409, nameIndex := 36, descriptorIndex := 6, attributes := #[] }, { accessFlags := 16409, nameIndex := 39, descriptorIndex := 6, attributes := #[] }, { accessFlags := 16409, nameIndex := 42, descriptorIndex := 6, attributes := #[] }, { accessFlags := 16409, nameIndex := 45, descriptorIndex := 6, attributes := #[] }, { accessFlags := 16409, nameIndex := 48, descriptorIndex := 6, attributes := #[] }, { accessFlags := 16409, nameIndex := 51, descriptorIndex := 6, attributes := #[] }, { accessFlags := 16409, nameIndex := 54, descriptorIndex := 6, attributes := #[] }, { accessFlags := 26, nameIndex := 90, descriptorIndex := 58, attributes := #[] }, { accessFlags := 18, nameIndex := 76, descriptorIndex := 77, attributes := #[] }, { accessFlags := 18, nameIndex := 80, descriptorIndex := 81, attributes := #[] }, { accessFlags := 18, nameIndex := 84, descriptorIndex := 77, attributes := #[] }, { accessFlags := 18, nameIndex := 87, descriptorIndex := 77, attributes := #[] }, { accessFlags := 4122, nameIndex := 57, descriptorIndex := 58, attributes := #[] }])
  fields := #[{ name := "UTF8", type := (.object "com/example/vinculum/vinculum/ConstantTag"), accessFlags := 16409, slot := 0, constantValue := 0 }, { name := "INTEGER", type := (.object "com/example/vinculum/vinculum/ConstantTag"), accessFlags := 16409, slot := 1, constantValue := 0 }, { name := "FLOAT", type := (.object "com/example/vinculum/vinculum/ConstantTag"), accessFlags := 16409, slot := 2, constantValue := 0 }, { name := "LONG", type := (.object "com/example/vinculum/vinculum/ConstantTag"), accessFlags := 16409, slot := 3, constantValue := 0 }, { name := "DOUBLE", type := (.object "com/example/vinculum/vinculum/ConstantTag"), accessFlags := 16409, slot := 4, constantValue := 0 }, { name := "CLASS", type := (.object "com/example/vinculum/vinculum/ConstantTag"), accessFlags := 16409, slot := 5, constantValue := 0 }, { name := "STRING", type := (.object "com/example/vinculum/vinculum/ConstantTag"), accessFlags := 16409, slot := 6, constantValue := 0 }, { name := "FIELDREF", type := (.object "com/example/vinculum/vinculum/ConstantTag"), accessFlags := 16409, slot := 7, constantValue := 0 }, { name := "METHODREF", type := (.object "com/example/vinculum/vinculum/ConstantTag"), accessFlags := 16409, slot := 8, constantValue := 0 }, { name := "INTERFACE_METHODREF", type := (.object "com/example/vinculum/vinculum/ConstantTag"), accessFlags := 16409, slot := 9, constantValue := 0 }, { name := "NAME_AND_TYPE", type := (.object "com/example/vinculum/vinculum/ConstantTag"), accessFlags := 16409, slot := 10, constantValue := 0 }, { name := "METHOD_HANDLE", type := (.object "com/example/vinculum/vinculum/ConstantTag"), accessFlags := 16409, slot := 11, constantValue := 0 }, { name := "METHOD_TYPE", type := (.object "com/example/vinculum/vinculum/ConstantTag"), accessFlags := 16409, slot := 12, constantValue := 0 }, { name := "DYNAMIC", type := (.object "com/example/vinculum/vinculum/ConstantTag"), accessFlags := 16409, slot := 13, constantValue := 0 }, { name := "INVOKE_DYNAMIC", type := (.object "com/example/vinculum/vinculum/ConstantTag"), accessFlags := 16409, slot := 14, constantValue := 0 }, { name := "MODULE", type := (.object "com/example/vinculum/vinculum/ConstantTag"), accessFlags := 16409, slot := 15, constantValue := 0 }, { name := "PACKAGE", type := (.object "com/example/vinculum/vinculum/ConstantTag"), accessFlags := 16409, slot := 16, constantValue := 0 }, { name := "BY_CODE", type := (.array (.object "com/example/vinculum/vinculum/ConstantTag")), accessFlags := 26, slot := 17, constantValue := 0 }, { name := "code", type := .int, accessFlags := 18, slot := 3, constantValue := 0 }, { name := "label", type := (.object "java/lang/String"), accessFlags := 18, slot := 4, constantValue := 0 }, { name := "firstVersion", type := .int, accessFlags := 18, slot := 5, constantValue := 0 }, { name := "infoSize", type := .int, accessFlags := 18, slot := 6, constantValue := 0 }, { name := "$VALUES", type := (.array (.object "com/example/vinculum/vinculum/ConstantTag")), accessFlags := 4122, slot := 18, constantValue := 0 }]
  methods := #[k6m0, k6m1]
  instanceTypes := #[(.object "java/lang/String"), .int, .int, .int, (.object "java/lang/String"), .int, .int]
  staticTypes := #[(.object "com/example/vinculum/vinculum/ConstantTag"), (.object "com/example/vinculum/vinculum/ConstantTag"), (.object "com/example/vinculum/vinculum/ConstantTag"), (.object "com/example/vinculum/vinculum/ConstantTag"), (.object "com/example/vinculum/vinculum/ConstantTag"), (.object "com/example/vinculum/vinculum/ConstantTag"), (.object "com/example/vinculum/vinculum/ConstantTag"), (.object "com/example/vinculum/vinculum/ConstantTag"), (.object "com/example/vinculum/vinculum/ConstantTag"), (.object "com/example/vinculum/vinculum/ConstantTag"), (.object "com/example/vinculum/vinculum/ConstantTag"), (.object "com/example/vinculum/vinculum/ConstantTag"), (.object "com/example/vinculum/vinculum/ConstantTag"), (.object "com/example/vinculum/vinculum/ConstantTag"), (.object "com/example/vinculum/vinculum/ConstantTag"), (.object "com/example/vinculum/vinculum/ConstantTag"), (.object "com/example/vinculum/vinculum/ConstantTag"), (.array (.object "com/example/vinculum/vinculum/ConstantTag")), (.array (.object "com/example/vinculum/vinculum/ConstantTag"))]
  resolved := Array.replicate 172 none
  statics := some 0 }

def pool7 : Array CpInfo := pool [(1, u "java/lang/Cloneable"), (0, .class_ 1), (0, u "java/lang/Object"), (0, .class_ 3)] 3

/-- java/lang/Cloneable -/
def k7 : Class := { plain "java/lang/Cloneable" (some 0) with
  accessFlags := 1537
  interfaces := #[]
  cf := some (fileOf pool7 2 #[] #[] 1537 4 #[] #[])
  fields := #[]
  methods := #[]
  instanceTypes := #[]
  staticTypes := #[]
  resolved := Array.replicate 8 none
  statics := none }

/-- the primitive byte -/
def k8 : Class := { plain "byte" none with kind := .primitive 'B', accessFlags := 0x411 }
/-- [B -/
def k9 : Class := { plain "[B" (some 0) with kind := .array 8 .byte, interfaces := #[7, 4], accessFlags := 1041 }

/-- the primitive int -/
def k10 : Class := { plain "int" none with kind := .primitive 'I', accessFlags := 0x411 }
/-- [I -/
def k11 : Class := { plain "[I" (some 0) with kind := .array 10 .int, interfaces := #[7, 4], accessFlags := 1041 }

/-- [Lcom/example/vinculum/vinculum/ConstantTag; -/
def k12 : Class := { plain "[Lcom/example/vinculum/vinculum/ConstantTag;" (some 0) with kind := .array 6 (.object "com/example/vinculum/vinculum/ConstantTag"), interfaces := #[7, 4], accessFlags := 1041 }

def heap : Heap := #[{ cls := 6, slots := #[.ref 2, .ref 3, .ref 4, .ref 5, .ref 6, .ref 7, .ref 8, .ref 9, .ref 10, .ref 11, .ref 12, .ref 13, .ref 14, .ref 15, .ref 16, .ref 17, .ref 18, .ref 1, .null], vm := .statics 6 },
  { cls := 12, slots := #[.null, .ref 2, .null, .ref 3, .ref 4, .ref 5, .ref 6, .ref 7, .ref 8, .ref 9, .ref 10, .ref 11, .ref 12, .null, .null, .ref 13, .ref 14, .ref 15, .ref 16, .ref 17, .ref 18], vm := .none },
  { cls := 6, slots := #[.null, .int 0, .int 0, .int 0, .null, .int 0, .int 0], vm := .none },
  { cls := 6, slots := #[.null, .int 1, .int 0, .int 0, .null, .int 0, .int 0], vm := .none },
  { cls := 6, slots := #[.null, .int 2, .int 0, .int 0, .null, .int 0, .int 0], vm := .none },
  { cls := 6, slots := #[.null, .int 3, .int 0, .int 0, .null, .int 0, .int 0], vm := .none },
  { cls := 6, slots := #[.null, .int 4, .int 0, .int 0, .null, .int 0, .int 0], vm := .none },
  { cls := 6, slots := #[.null, .int 5, .int 0, .int 0, .null, .int 0, .int 0], vm := .none },
  { cls := 6, slots := #[.null, .int 6, .int 0, .int 0, .null, .int 0, .int 0], vm := .none },
  { cls := 6, slots := #[.null, .int 7, .int 0, .int 0, .null, .int 0, .int 0], vm := .none },
  { cls := 6, slots := #[.null, .int 8, .int 0, .int 0, .null, .int 0, .int 0], vm := .none },
  { cls := 6, slots := #[.null, .int 9, .int 0, .int 0, .null, .int 0, .int 0], vm := .none },
  { cls := 6, slots := #[.null, .int 10, .int 0, .int 0, .null, .int 0, .int 0], vm := .none },
  { cls := 6, slots := #[.null, .int 11, .int 0, .int 0, .null, .int 0, .int 0], vm := .none },
  { cls := 6, slots := #[.null, .int 12, .int 0, .int 0, .null, .int 0, .int 0], vm := .none },
  { cls := 6, slots := #[.null, .int 13, .int 0, .int 0, .null, .int 0, .int 0], vm := .none },
  { cls := 6, slots := #[.null, .int 14, .int 0, .int 0, .null, .int 0, .int 0], vm := .none },
  { cls := 6, slots := #[.null, .int 15, .int 0, .int 0, .null, .int 0, .int 0], vm := .none },
  { cls := 6, slots := #[.null, .int 16, .int 0, .int 0, .null, .int 0, .int 0], vm := .none }]
def classes : Array Class := #[k0, k1, k2, k3, k4, k5, k6, k7, k8, k9, k10, k11, k12]
def interned : List (Array UInt16 × Addr) := []
def slotsUsed : Nat := 159
def theMethod : MethodId := ⟨1, 1⟩
def args0 : Array Value := #[.int 5]
def aboutOver (below : List Frame) : State where
  vm := { classes := classes, interned := interned.toArray }
  heap := heap
  slotsUsed := slotsUsed
  threads := #[{ frames := .invoking theMethod args0 :: below }]
def below0 : List Frame := [.native { method := ⟨0, 0⟩, args := #[] }]
def about1 : State := aboutOver below0
def p0 : Program := .bare "" "" ""
def e0 : Env := launch0.env 0 0 0
theorem w_frames : about1.frames = Frame.invoking theMethod args0 :: below0 := rfl
set_option maxRecDepth 65536 in
theorem w_args : argsFit about1.vm theMethod args0 = true := by decide +kernel
set_option maxRecDepth 65536 in
theorem w_heap : heapFits about1 = true := by decide +kernel
set_option maxRecDepth 65536 in
theorem w_runnable : about1.curStatus? = some .runnable := by decide +kernel
set_option maxRecDepth 65536 in
theorem w_alone : about1.alone = true := by decide +kernel
set_option maxRecDepth 65536 in
theorem w_named : about1.methodNamed? x = some theMethod := by decide +kernel
set_option maxRecDepth 65536 in
theorem w_hears : about1.hears theMethod below0 = true := by decide +kernel
set_option maxRecDepth 65536 in
theorem w_ripe : about1.ripe theMethod args0 below0 = true := by decide +kernel
theorem w_running : about1.status = .running := rfl
set_option maxRecDepth 65536 in
theorem w_room : about1.hasRoom e0.platform room_1 = true :=
  launch0.hasRoom_least _ room_1 (by decide +kernel) (by decide +kernel) (by decide +kernel) (by decide +kernel) (by decide +kernel) (by decide +kernel)
theorem allAtoms_all (ts : List Jvm.Cond) (a : Array Jvm.Value) (st : Jvm.State) : (allAtoms ts).before a st = ts.all (fun c => c.before a st) := by
  induction ts with
  | nil => rfl
  | cons c t ih =>
    show (Jvm.Cond.and c (allAtoms t)).before a st = _
    rw [Jvm.Cond.before_and, ih, List.all_cons]
def words1 : List Jvm.Cond := Jvm.Cond.code x code maxLocals ret :: tables_1
/-- a 'code' word, met by the world's own term for the bytes: nothing is compared byte by byte -/
theorem code_word {y : MethodName} {bytes : ByteArray} {mx : Nat} {rt : Option FieldType} {a : Array Value} {s : State} {m : MethodId} {meth : Method} {c : Code} (h1 : s.methodNamed? y = some m) (h2 : s.vm.method? m = some meth) (h3 : meth.code = some c) (h4 : c.code = bytes)
    (h5 : (c.maxLocals == mx && c.exceptionTable.isEmpty && decide (c.maxStack ≤ mostOperands) && decide (meth.sig.returnType = rt) && !meth.locks && decide (parseMethodDescriptor y.desc = some meth.sig)) = true) : (Jvm.Cond.code y bytes mx rt).before a s = true := by
  simp only [Bool.and_eq_true, beq_iff_eq, Bool.not_eq_true', decide_eq_true_eq] at h5
  obtain ⟨⟨⟨⟨⟨g1, g2⟩, g3⟩, g4⟩, g5⟩, g6⟩ := h5
  simp [Cond.before, Cond.holds, Cond.value, h1, h2, h3, h4, g1, g2, g3, g4, g5, g6]
def isCode : Jvm.Cond → Bool
  | .code _ _ _ _ => true
  | _ => false
theorem all_split {L : List Jvm.Cond} {P : Jvm.Cond → Bool} (h1 : L.all (fun c => isCode c || P c) = true) (h2 : ∀ c ∈ L.filter isCode, P c = true) : L.all P = true := by
  refine List.all_eq_true.mpr fun c hc => ?_
  have h := List.all_eq_true.mp h1 c hc
  rcases Bool.eq_false_or_eq_true (isCode c) with hi | hi
  · exact h2 c (List.mem_filter.mpr ⟨hc, hi⟩)
  · simpa [hi] using h
set_option maxRecDepth 65536 in
theorem w_c0 : (Jvm.Cond.code x code maxLocals ret).before args0 about1 = true := code_word (m := ⟨1, 1⟩) (meth := k1m1) (c := k1c1) (by decide +kernel) rfl rfl rfl (by decide +kernel)
set_option maxRecDepth 65536 in
theorem w_c1 : (Jvm.Cond.code ({ cls := "com/example/vinculum/vinculum/ConstantTag", name := "of", desc := "(I)Lcom/example/vinculum/vinculum/ConstantTag;" } : Jvm.MethodName) prog_28_method_4_code (1 : Nat) (Option.some (Jvm.ClassFile.FieldType.object "com/example/vinculum/vinculum/ConstantTag"))).before args0 about1 = true := code_word (m := ⟨6, 0⟩) (meth := k6m0) (c := k6c0) (by decide +kernel) rfl rfl rfl (by decide +kernel)
set_option maxRecDepth 65536 in
theorem w_c2 : (Jvm.Cond.code ({ cls := "com/example/vinculum/vinculum/ConstantTag", name := "isMemberRef", desc := "()Z" } : Jvm.MethodName) prog_28_method_10_code (1 : Nat) (Option.some Jvm.ClassFile.FieldType.boolean)).before args0 about1 = true := code_word (m := ⟨6, 1⟩) (meth := k6m1) (c := k6c1) (by decide +kernel) rfl rfl rfl (by decide +kernel)
def codes1 : List Jvm.Cond := [Jvm.Cond.code x code maxLocals ret, Jvm.Cond.code ({ cls := "com/example/vinculum/vinculum/ConstantTag", name := "of", desc := "(I)Lcom/example/vinculum/vinculum/ConstantTag;" } : Jvm.MethodName) prog_28_method_4_code (1 : Nat) (Option.some (Jvm.ClassFile.FieldType.object "com/example/vinculum/vinculum/ConstantTag")), Jvm.Cond.code ({ cls := "com/example/vinculum/vinculum/ConstantTag", name := "isMemberRef", desc := "()Z" } : Jvm.MethodName) prog_28_method_10_code (1 : Nat) (Option.some Jvm.ClassFile.FieldType.boolean)]
set_option maxRecDepth 65536 in
theorem codes_eq : words1.filter isCode = codes1 := rfl
theorem w_codes : ∀ c ∈ words1.filter isCode, c.before args0 about1 = true := by
  rw [codes_eq]
  intro c hc
  simp only [codes1, List.mem_cons, List.not_mem_nil, or_false] at hc
  rcases hc with rfl | rfl | rfl
  · exact w_c0
  · exact w_c1
  · exact w_c2
set_option maxRecDepth 65536 in
theorem w_t1 : (words1.take 24).all (fun c => isCode c || c.before args0 about1) = true := by decide +kernel
set_option maxRecDepth 65536 in
theorem w_t2 : (words1.drop 24).all (fun c => isCode c || c.before args0 about1) = true := by decide +kernel
theorem w_tables : (allAtoms (Jvm.Cond.code x code maxLocals ret :: tables_1)).before args0 about1 = true := by
  rw [allAtoms_all]
  show words1.all (fun c => c.before args0 about1) = true
  refine all_split ?_ w_codes
  rw [← List.take_append_drop 24 words1, List.all_append, w_t1, w_t2]
  rfl
set_option maxRecDepth 65536 in
theorem w_case : (Jvm.Cond.and given_1 narrow_1).before args0 about1 = true := by decide +kernel
theorem w_applies : (headSpec (Jvm.Cond.code x code maxLocals ret :: tables_1) room_1).applies x e0.platform about1 = true :=
  (Spec.applies_iff w_frames).mpr ⟨w_running, w_runnable, w_alone, w_named, w_hears, w_ripe, w_room, w_tables⟩
theorem atStart : AtStart classFile x code maxLocals ret World_1 tables_1 room_1 Calls_1 rest_1 Pre_1 launch0 p0 e0 about1 theMethod args0 below0 :=
  ⟨lists_1, trivial, launch0.admits_env _ _ _, launch0.least_env, fairChoices_fair.cas, fairChoices_fair.clock, w_frames, w_args, w_heap, w_applies, trivial, trivial, w_case⟩
end start1
theorem witness_1 : WitnessClaimed_1 := ⟨start1.p0, start1.e0, start1.about1, start1.theMethod, start1.args0, start1.below0, start1.atStart⟩
end Jvm.Pilot.@@N@@
