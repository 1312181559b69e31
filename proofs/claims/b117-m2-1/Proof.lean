import JvmDerived
import JvmDerived.Pilot.@@N@@Statement
import JvmDerived.Pilot.@@N@@Code
set_option linter.unusedVariables false
set_option linter.unusedSimpArgs false
namespace Jvm.RoadKit
open Sem ClassFile Op Lib Jvm.Stand Jvm.Free Jvm.LawKit
section New
variable {p : Program} {l : Launch} {e : Env} {R : Room} {s : State} {m : MethodId} {args : Array Value} {below : List Frame} {meth : Method} {c : Code} {T : State} {locs : List Loc} {cells slots : Nat}
theorem retI (X : Stand p l e R s m args below meth c T locs cells slots) (hx : p.tables.exec = Jvm.exec) {pc : Nat} {Ls : Array Slot} {z : Int32} {rest : List Value} (hret : meth.sig.returnType = some .int) (hd : decode c.code pc = .ok (.ireturn, 1)) {fs : List Frame}
    (hl : ∀ (f : JFrame) (acts : List Action), f.method = m → f.locked = none → f.entered = [] → (doReturn e (T.setTop f) acts (some (.int z))).1 = T.setFrames fs) : Steps p.tables e below (T.setTop (mkF m pc Ls (.int z :: rest))) (T.setFrames fs) := by
  have hm' : T.vm.method? m = some meth := X.method'
  have hn : narrow .int (.int z) = .int z := rfl
  show Steps p.tables e below (T.setTop { method := m, pc := pc, locals := Ls, stack := _ :: rest, locked := none }) _
  jvm_step X.here [X.here.top, hx, hd, hm', hret, hn]
  first | (intro acts; rw [hl _ acts rfl rfl rfl]) | rw [hl _ _ rfl rfl rfl]
  exact Steps.refl _
end New
end Jvm.RoadKit
namespace Jvm.Pilot.@@N@@
open Jvm Jvm.ClassFile Sem Op Lib Jvm.Free Jvm.Stand Jvm.LawKit Jvm.RoadKit Bundle Jvm.Pilot.@@N@@.Jvm.D
section Own
variable {p : Program} {l : Launch} {e : Env} {R : Room} {s : State} {m : MethodId} {args : Array Value} {below : List Frame} {meth : Method} {c : Code} {T : State} {n0 C S : Nat} {Z : State} {a0 : Array Value} {h h' : Heap} {P : State → Outcome → Prop} {Q : Option Value → Heap → Prop}
/-- from U the run comes to an end at which P holds -/
def own_Go (p : Program) (e : Env) (below : List Frame) (P : State → Outcome → Prop) (U : State) : Prop := ∃ t o, Steps p.tables e below U t ∧ P t o
theorem own_st {U U' : State} (k : ∀ t, Steps p.tables e below U' t → Steps p.tables e below U t) (g : own_Go p e below P U') : own_Go p e below P U := by
  obtain ⟨t, o, a, b⟩ := g; exact ⟨t, o, k t a, b⟩
/-- where the run stands: its state, its heap, how many cells and slots are spent; nothing below n0 was written -/
def own_Sd (p : Program) (l : Launch) (e : Env) (R : Room) (s : State) (m : MethodId) (args : Array Value) (below : List Frame) (meth : Method) (c : Code) (n0 : Nat) (T : State) (h : Heap) (C S : Nat) : Prop :=
  ∃ locs, Stand p l e R s m args below meth c T locs C S ∧ Fr n0 locs ∧ T.heap = h ∧ n0 ≤ s.heap.size ∧ s.heap.size ≤ h.size
theorem own_Sd.here (X : own_Sd p l e R s m args below meth c n0 T h C S) : At T m c below := by obtain ⟨_, X, _⟩ := X; exact X.here
theorem own_Sd.ge0 (X : own_Sd p l e R s m args below meth c n0 T h C S) : n0 ≤ h.size := by obtain ⟨_, _, _, _, h1, h2⟩ := X; exact Nat.le_trans h1 h2
theorem own_Sd.more (X : own_Sd p l e R s m args below meth c n0 T h C S) {C' S' : Nat} (hc : C ≤ C') (hs : S ≤ S') : own_Sd p l e R s m args below meth c n0 T h C' S' := by
  obtain ⟨L, X, r⟩ := X; exact ⟨L, X.more hc hs, r⟩
/-- what the body of one method knows of itself -/
def own_Cx (p : Program) (s : State) (m : MethodId) (meth : Method) (c : Code) (Z : State) (bytes : ByteArray) (maxL : Nat) (y : MethodName) (ret : Option FieldType) : Prop :=
  p.tables.exec = Jvm.exec ∧ c.code = bytes ∧ c.maxLocals = maxL ∧ s.vm.findClass y.cls = some m.cls ∧ meth.name = y.name ∧ meth.sig.returnType = ret ∧ meth.locks = false ∧ Z.Warmed39 s.vm
def own_End (below : List Frame) (s : State) (R : Room) (n0 : Nat) (Q : Option Value → Heap → Prop) (t : State) (o : Outcome) : Prop :=
  t.status = .running ∧ Ended t below o ∧ ∃ v L, o = .returned v ∧ (Q v t.heap ∧ s.heap.size ≤ t.heap.size ∧ Fr n0 L) ∧ FrameEnd s o t L R.cells R.slots
/-- a method's contract: on these arguments, at this heap, it returns so that Q -/
def own_Met (l : Launch) (Z : State) (y : MethodName) (bytes : ByteArray) (maxL : Nat) (ret : Option FieldType) (rm : Room) (as' : Array Value) (h0 : Heap) (n0 : Nat) (Q : Option Value → Heap → Prop) : Prop :=
  ∀ ws, MetFree l y (head1 (Jvm.Cond.code y bytes maxL ret :: ws) rm) (fun a U => a = as' ∧ Z.Warmed39 U.vm ∧ U.heap = h0) (fun _ _ _ _ _ => True)
    (fun _ U o U' => ∃ v L, o = .returned v ∧ (Q v U'.heap ∧ h0.size ≤ U'.heap.size ∧ Fr n0 L) ∧ FrameEnd U o U' L rm.cells rm.slots)
theorem own_body {y : MethodName} {bytes : ByteArray} {maxL : Nat} {ret : Option FieldType} {rm : Room} {as' : Array Value} {h0 : Heap} {Ls : Array Slot} (hpl : plainFor y = true) (hfr : ∀ m, entryFrame m as' maxL = mkF m 0 Ls []) (hn : n0 ≤ h0.size)
    (B : ∀ (p : Program) (e : Env) (s : State) (m : MethodId) (below : List Frame) (meth : Method) (c : Code) (T : State), own_Cx p s m meth c Z bytes maxL y ret → own_Sd p l e rm s m as' below meth c n0 T h0 0 0 → own_Go p e below (own_End below s rm n0 Q) (T.setTop (mkF m 0 Ls []))) :
    own_Met l Z y bytes maxL ret rm as' h0 n0 Q := by
  intro ws
  refine MetFree.of_bodySF hpl hisR ?_
  intro p e s m args below meth c s₁ Bd hml0 hP hK
  obtain ⟨rfl, hZ, hh⟩ := hP
  have X0 : Stand p l e rm s m args below meth c s₁ [] 0 0 := Stand.of_body Bd
  have e0 : s₁.heap = h0 := by rw [← hh, Bd.state]; rfl
  have hs : s.heap.size = h0.size := by rw [hh]
  obtain ⟨t, o, st, h1, h2, v, L, h3, h4, h5⟩ := B p e s m below meth c s₁ ⟨Bd.exec, Bd.bytes, hml0, findClass_of_methodNamed Bd.named, (name_of_methodNamed Bd.named Bd.method).1, Bd.returns, Bd.notSynchronized, hZ⟩ ⟨[], X0, Fr.nil n0, e0, by rw [hs]; exact hn, by rw [hs]; exact Nat.le_refl _⟩
  rw [hs] at h4
  exact ⟨t, o, castTop (hfr m) st, h1, h2, v, L, h3, h4, h5⟩
theorem own_fin (X : own_Sd p l e R s m args below meth c n0 T h C S) (hlk : meth.locks = false) {v : Option Value} (hv : meth.sig.returnType = none → v = none) (hC : C ≤ R.cells) (hS : S ≤ R.slots) (q : Q v h) {U : State}
    (k : ∀ (T' : State) (locs : List Loc) (fs : List Frame), T' = T → Stand p l e R s m args below meth c T locs C S → (∀ (f : JFrame) (acts : List Action), f.method = m → f.locked = none → f.entered = [] → (doReturn e (T.setTop f) acts v).1 = T.setFrames fs) → Steps p.tables e below U (T.setFrames fs)) : own_Go p e below (own_End below s R n0 Q) U := by
  obtain ⟨L, X, N, eT, hn, hs⟩ := X
  obtain ⟨fs, hr, hrun, hended, hW, hsame⟩ := X.leave (v := v) hv hlk
  have e1 : (T.setFrames fs).heap = h := eT
  refine ⟨_, _, k T L fs rfl X hr, hrun, hended, v, L, rfl, ⟨?_, ?_, N⟩, ⟨_, rfl⟩, hW, hsame.mono hC hS⟩
  · rw [e1]; exact q
  · rw [e1]; exact hs
theorem own_retI (X : own_Sd p l e R s m args below meth c n0 T h C S) (hx : p.tables.exec = Jvm.exec) (hret : meth.sig.returnType = some .int) (hlk : meth.locks = false) {pc : Nat} {Ls : Array Slot} {z : Int32} {rest : List Value} (hd : decode c.code pc = .ok (.ireturn, 1)) (hC : C ≤ R.cells) (hS : S ≤ R.slots) (q : Q (some (.int z)) h) :
    own_Go p e below (own_End below s R n0 Q) (T.setTop (mkF m pc Ls (.int z :: rest))) :=
  own_fin X hlk (fun h => by rw [hret] at h; cases h) hC hS q fun _ _ _ _ X hr => retI X hx hret hd hr
theorem own_retN (X : own_Sd p l e R s m args below meth c n0 T h C S) (hx : p.tables.exec = Jvm.exec) {t : FieldType} (hret : meth.sig.returnType = some t) (ht : t = .boolean ∨ t = .byte ∨ t = .char ∨ t = .short) (hlk : meth.locks = false) {pc : Nat} {Ls : Array Slot} {z : Int32} {rest : List Value} (hd : decode c.code pc = .ok (.ireturn, 1)) (hC : C ≤ R.cells) (hS : S ≤ R.slots) (q : Q (some (.int (nar t z))) h) :
    own_Go p e below (own_End below s R n0 Q) (T.setTop (mkF m pc Ls (.int z :: rest))) :=
  own_fin X hlk (fun h => by rw [hret] at h; cases h) hC hS q fun _ _ _ _ X hr => retN X hx hret ht hd hr
theorem own_retJ (X : own_Sd p l e R s m args below meth c n0 T h C S) (hx : p.tables.exec = Jvm.exec) (hret : meth.sig.returnType = some .long) (hlk : meth.locks = false) {pc : Nat} {Ls : Array Slot} {z : Int64} {rest : List Value} (hd : decode c.code pc = .ok (.lreturn, 1)) (hC : C ≤ R.cells) (hS : S ≤ R.slots) (q : Q (some (.long z)) h) :
    own_Go p e below (own_End below s R n0 Q) (T.setTop (mkF m pc Ls (.long z :: rest))) :=
  own_fin X hlk (fun h => by rw [hret] at h; cases h) hC hS q fun _ _ _ _ X hr => retOut X hx hret rfl (Or.inr (Or.inl ⟨rfl, rfl, z, rfl⟩)) hd hr
theorem own_retA (X : own_Sd p l e R s m args below meth c n0 T h C S) (hx : p.tables.exec = Jvm.exec) {t : FieldType} (hret : meth.sig.returnType = some t) (ht : t.isReference = true) (hlk : meth.locks = false) {pc : Nat} {Ls : Array Slot} {w : Value} (hw : w.isRef = true) (hn : narrow t w = w) {rest : List Value} (hd : decode c.code pc = .ok (.areturn, 1)) (hC : C ≤ R.cells) (hS : S ≤ R.slots) (q : Q (some w) h) :
    own_Go p e below (own_End below s R n0 Q) (T.setTop (mkF m pc Ls (w :: rest))) :=
  own_fin X hlk (fun h => by rw [hret] at h; cases h) hC hS q fun _ _ _ _ X hr => retOut X hx hret hn (Or.inr (Or.inr (Or.inr (Or.inr ⟨rfl, ht, hw⟩)))) hd hr
theorem own_retV (X : own_Sd p l e R s m args below meth c n0 T h C S) (hx : p.tables.exec = Jvm.exec) (hret : meth.sig.returnType = none) (hlk : meth.locks = false) {pc : Nat} {Ls : Array Slot} (hd : decode c.code pc = .ok (.return_, 1)) (hC : C ≤ R.cells) (hS : S ≤ R.slots) (q : Q none h) :
    own_Go p e below (own_End below s R n0 Q) (T.setTop (mkF m pc Ls [])) :=
  own_fin X hlk (fun _ => rfl) hC hS q fun _ _ _ _ X hr => X.returnOut hx hret hd hr
/-! single steps that want a Stand -/
theorem own_irem (X : own_Sd p l e R s m args below meth c n0 T h C S) (hx : p.tables.exec = Jvm.exec) {g : JFrame} {x y : Int32} {rest : List Value} (hd : decode c.code g.pc = .ok (.irem, 1)) (hs : g.stack = .int y :: .int x :: rest) (hy : y ≠ 0) (hg : g.method = m)
    (k : own_Go p e below P (T.setTop { g with pc := g.pc + 1, stack := .int (x % y) :: rest })) : own_Go p e below P (T.setTop g) := by
  obtain ⟨_, X, _⟩ := X; exact own_st (fun _ q => iremM X hx hg hd hs hy q) k
theorem own_ldc (X : own_Sd p l e R s m args below meth c n0 T h C S) (hx : p.tables.exec = Jvm.exec) (hZ : Z.Warmed39 s.vm) {own : String} {index : Nat} {v : Int32} (hown : s.vm.findClass own = some m.cls) (w : (Cond.constant own index v).before a0 Z = true) {g : JFrame} (hg : g.method = m) (hd : decode c.code g.pc = .ok (.ldc index, 2))
    (k : own_Go p e below P (T.setTop { g with pc := g.pc + 2, stack := .int v :: g.stack })) : own_Go p e below P (T.setTop g) := by
  obtain ⟨_, X, _⟩ := X; exact own_st (fun _ q => X.ldcInt hx hown (mvT hZ w) hg hd _ q) k
theorem own_ldc2 (X : own_Sd p l e R s m args below meth c n0 T h C S) (hx : p.tables.exec = Jvm.exec) (hZ : Z.Warmed39 s.vm) {own : String} {index : Nat} {v : Int64} (hown : s.vm.findClass own = some m.cls) (w : (Cond.constantLong own index v).before a0 Z = true) {g : JFrame} (hg : g.method = m) (hd : decode c.code g.pc = .ok (.ldc2_w index, 3))
    (k : own_Go p e below P (T.setTop { g with pc := g.pc + 3, stack := .long v :: g.stack })) : own_Go p e below P (T.setTop g) := by
  obtain ⟨_, X, _⟩ := X; exact own_st (fun _ q => X.ldc2Long hx hown (mvT hZ w) hg hd _ q) k
theorem own_acmp (X : own_Sd p l e R s m args below meth c n0 T h C S) (hx : p.tables.exec = Jvm.exec) {g : JFrame} (hg : g.method = m) {cd : ACond} {x y : Value} (h1 : x.isRef = true) (h2 : y.isRef = true) {rest : List Value} {o : Int} {pc0 pc' : Nat} {same : Bool} (hpc : g.pc = pc0) (hd : decode c.code g.pc = .ok (.if_acmp cd o, 3)) (hs : g.stack = y :: x :: rest) (hsame : decide (x = y) = same) (ho : 0 ≤ (pc0 : Int) + o) (hp : pc' = if acV cd same then ((pc0 : Int) + o).toNat else pc0 + 3)
    (k : own_Go p e below P (T.setTop { g with pc := pc', stack := rest })) : own_Go p e below P (T.setTop g) := by
  obtain ⟨_, X, _⟩ := X; exact own_st (fun _ q => Jvm.RoadKit.acmp X hx hg h1 h2 hpc hd hs hsame ho hp q) k
theorem own_lrem (X : own_Sd p l e R s m args below meth c n0 T h C S) (hx : p.tables.exec = Jvm.exec) {g : JFrame} {x y : Int64} {rest : List Value} (hd : decode c.code g.pc = .ok (.lrem, 1)) (hs : g.stack = .long y :: .long x :: rest) (hy : y ≠ 0) (hg : g.method = m)
    (k : own_Go p e below P (T.setTop { g with pc := g.pc + 1, stack := .long (x % y) :: rest })) : own_Go p e below P (T.setTop g) :=
  own_st (fun _ q => XS.lrem X.here hx hg hd hs hy (by rw [lrem_mod]; exact q)) k
theorem own_dupX2 (X : own_Sd p l e R s m args below meth c n0 T h C S) (hx : p.tables.exec = Jvm.exec) {g : JFrame} {x y z : Value} {rest : List Value} (hd : decode c.code g.pc = .ok (.dup_x2, 1)) (hs : g.stack = x :: y :: z :: rest) (h1 : x.category = 1) (h2 : y.category = 1) (h3 : z.category = 1) (hg : g.method = m)
    (k : own_Go p e below P (T.setTop { g with pc := g.pc + 1, stack := x :: y :: z :: x :: rest })) : own_Go p e below P (T.setTop g) := by
  refine own_st (fun t q => ?_) k
  subst hg
  have h := X.here
  jvm_step h [h.top, hx, hd, hs, h1, h2, h3]
  exact q
/-! fields, objects -/
theorem own_getF (X : own_Sd p l e R s m args below meth c n0 T h C S) (hx : p.tables.exec = Jvm.exec) (hZ : Z.Warmed39 s.vm) {own O n d : String} {index : Nat} (hown : s.vm.findClass own = some m.cls) (w : (Cond.fieldLink own index O n d).before a0 Z = true) {a : Addr} {v : Value} (F : Fld Z h a O n d v) {g : JFrame} (hg : g.method = m) {rest : List Value} (hs : g.stack = .ref a :: rest) (hd : decode c.code g.pc = .ok (.getfield index, 3))
    (k : ∀ T', own_Sd p l e R s m args below meth c n0 T' h C S → own_Go p e below P (T'.setTop { g with pc := g.pc + 3, stack := v :: rest })) : own_Go p e below P (T.setTop g) := by
  obtain ⟨L, X, N, eT, r⟩ := X
  obtain ⟨T', X', e', st⟩ := getF X hx hZ hown (host := "") (Or.inl w) Via.refl eT F hg hs hd
  exact own_st st (k T' ⟨L, X', N, e', r⟩)
theorem own_putF (X : own_Sd p l e R s m args below meth c n0 T h C S) (hx : p.tables.exec = Jvm.exec) (hZ : Z.Warmed39 s.vm) {own O n d K : String} {index kk : Nat} {ty : FieldType} (hown : s.vm.findClass own = some m.cls) (w : (Cond.fieldLink own index O n d).before a0 Z = true) {a : Addr} {v v' old : Value} (F : Fld Z h a O n d old) (E : Exa Z h a K) (L : (Cond.lays K O n d).before a0 Z = true ∨ ((Cond.laysFinal K O n d).before a0 Z = true ∧ own = O ∧ meth.name = "<init>")) (wi : (Cond.instantiable K kk).before a0 Z = true)
    (hty : parseFieldDescriptor d = some ty) (hn : narrow ty v = v') (hf : fits ty v' = true) (ga : n0 ≤ a) {g : JFrame} (hg : g.method = m) {rest : List Value} (hs : g.stack = v :: .ref a :: rest) (hd : decode c.code g.pc = .ok (.putfield index, 3))
    (k : ∀ T' h', own_Sd p l e R s m args below meth c n0 T' h' C S → Wr h h' a (Jvm.RoadKit.slotOf Z O n d) v' → own_Go p e below P (T'.setTop { g with pc := g.pc + 3, stack := rest })) : own_Go p e below P (T.setTop g) := by
  obtain ⟨L0, X, N, eT, r1, r2⟩ := X
  obtain ⟨T', h', X', e', W, st⟩ := putFN X hx hZ hown w Via.refl eT F E L wi hty hn hf hg hs hd
  exact own_st st (k T' h' ⟨_, X', Fr.snoc X' N ga, e', r1, by rw [W.size]; exact r2⟩ W)
theorem own_newO (X : own_Sd p l e R s m args below meth c n0 T h C S) (hx : p.tables.exec = Jvm.exec) (hZ : Z.Warmed39 s.vm) {own K : String} {index n : Nat} (hown : s.vm.findClass own = some m.cls) (w : (Cond.classLink own index K).before a0 Z = true) (wi : (Cond.instantiable K n).before a0 Z = true) (wz : (Cond.initialized K).before a0 Z = true)
    {g : JFrame} (hg : g.method = m) (hd : decode c.code g.pc = .ok (.new index, 3)) (hc : C + 1 ≤ R.cells) (hl : S + n ≤ R.slots)
    (k : ∀ T' h' b, b = h.size → n0 ≤ b → own_Sd p l e R s m args below meth c n0 T' h' (C + 1) (S + n) → Ext h h' → Exa Z h' b K → (∀ {O nm d : String} {ty : FieldType}, Laid Z a0 K O nm d → parseFieldDescriptor d = some ty → Fld Z h' b O nm d (defaultValue ty)) → own_Go p e below P (T'.setTop { g with pc := g.pc + 3, stack := .ref b :: g.stack })) : own_Go p e below P (T.setTop g) := by
  have hn := X.ge0
  obtain ⟨L, X, N, eT, r1, r2⟩ := X
  obtain ⟨T', h', X', e', E, A, D, -, st⟩ := newO X hx hZ hown w wi wz eT hg hd hc hl
  exact own_st st (k T' h' h.size rfl hn ⟨L, X', N, e', r1, Nat.le_trans r2 E.1⟩ E A D)
theorem own_initO (X : own_Sd p l e R s m args below meth c n0 T h C S) (hx : p.tables.exec = Jvm.exec) (hZ : Z.Warmed39 s.vm) {own : String} {idx : Nat} (hown : s.vm.findClass own = some m.cls) (w1 : (Cond.methodLink own idx Lib.objectInit).before a0 Z = true) (w2 : (Cond.instanceMethod Lib.objectInit).before a0 Z = true)
    (w3 : (Cond.code Lib.objectInit ⟨#[0xb1]⟩ 1 none).before a0 Z = true) {g : JFrame} (hg : g.method = m) (hsize : g.locals.size = c.maxLocals) {a : Addr} {rest : List Value} (hs : g.stack = .ref a :: rest) (hd : decode c.code g.pc = .ok (.invokespecial idx, 3))
    (hf : 1 ≤ R.frames) {W : Nat} (hW : 2 * g.monitorRoom + (rest.map fun v => v.category).sum ≤ W) (hl : W + 12 ≤ R.locals)
    (k : ∀ T', own_Sd p l e R s m args below meth c n0 T' h C S → own_Go p e below P (T'.setTop { g with pc := g.pc + 3, stack := rest })) : own_Go p e below P (T.setTop g) := by
  obtain ⟨L, X, N, eT, r⟩ := X
  obtain ⟨T', X', e', st⟩ := initO X hx hZ hown w1 w2 w3 eT hg hsize hs hd hf hW hl
  exact own_st st (k T' ⟨L, X', N, e', r⟩)
/-! calls -/
theorem own_back {y : MethodName} {bytes : ByteArray} {maxL : Nat} {ret : Option FieldType} {rm : Room} {as' : Array Value} {len W : Nat} (hM : own_Met l Z y bytes maxL ret rm as' h n0 Q) (hZ : Z.Warmed39 s.vm) (wc : (Cond.code y bytes maxL ret).before a0 Z = true) (wz : (Cond.initialized y.cls).before a0 Z = true) (hf : rm.frames + 1 ≤ R.frames) (hl : W + (maxL + 11) + rm.locals ≤ R.locals) :
    Back l R p e below s args y len W (fun A a => a = as' ∧ A.U.heap = h ∧ A.cells + rm.cells ≤ R.cells ∧ A.slots + rm.slots ≤ R.slots) (fun A _ v B => ∃ L, (Q v B.U.heap ∧ h.size ≤ B.U.heap.size ∧ Fr n0 L) ∧ B.locs = A.locs ++ L ∧ B.cells = A.cells + rm.cells ∧ B.slots = A.slots + rm.slots) :=
  backOf (Q := fun v h' L => Q v h' ∧ h.size ≤ h'.size ∧ Fr n0 L) (hM []) hZ wc wz hf hl
theorem own_callS (X : own_Sd p l e R s m args below meth c n0 T h C S) (hx : p.tables.exec = Jvm.exec) (hZ : Z.Warmed39 s.vm) {own : String} {index : Nat} {y : MethodName} {bytes : ByteArray} {maxL : Nat} {ret : Option FieldType} (hown : s.vm.findClass own = some m.cls)
    (w1 : (Cond.methodLink own index y).before a0 Z = true) (w2 : (Cond.static y).before a0 Z = true) (w3 : (Cond.initialized y.cls).before a0 Z = true) (w4 : (Cond.code y bytes maxL ret).before a0 Z = true) (hy : y.cls ≠ "java/lang/invoke/MethodHandle" ∧ y.cls ≠ "java/lang/invoke/VarHandle")
    {rm : Room} {as' : Array Value} (hM : own_Met l Z y bytes maxL ret rm as' h n0 Q) (hf : rm.frames + 1 ≤ R.frames) {W : Nat} (hlo : W + (maxL + 11) + rm.locals ≤ R.locals) {g : JFrame} (hg : g.method = m) (hsize : g.locals.size = c.maxLocals) {argsL rest : List Value} (hlen : ∀ sig, parseMethodDescriptor y.desc = some sig → argsL.length = sig.parameters.length) (has : argsL.toArray = as')
    (hstack : g.stack = argsL.reverse ++ rest) (hW : 2 * g.monitorRoom + (rest.map fun v => v.category).sum ≤ W) (hd : decode c.code g.pc = .ok (.invokestatic index, 3)) (hc : C + rm.cells ≤ R.cells) (hs : S + rm.slots ≤ R.slots)
    (k : ∀ v T' h', own_Sd p l e R s m args below meth c n0 T' h' (C + rm.cells) (S + rm.slots) → Q v h' → own_Go p e below P (T'.setTop { g with pc := g.pc + 3, stack := v.toList ++ rest })) : own_Go p e below P (T.setTop g) := by
  obtain ⟨L, X, N, eT, r1, r2⟩ := X
  obtain ⟨v, _, ⟨T', L', k', n'⟩, -, X', ⟨Lc, ⟨hQ, hsz, hN⟩, e1, e2, e3⟩, st⟩ := Jvm.LawKit.callS X hx hown (mvT hZ w1) (mvT hZ w2) (mvT hZ w3) (mvT hZ w4) hy (own_back (W := W) hM hZ w4 w3 hf hlo) hg hsize hlen hstack hW hd (fun _ _ => ⟨has, eT, hc, hs⟩)
  dsimp only [Pt.U, Pt.locs, Pt.cells, Pt.slots] at X' e1 e2 e3 st hQ hsz
  subst e1 e2 e3
  exact own_st st (k v T' T'.heap ⟨_, X', Fr.app N hN, rfl, r1, Nat.le_trans r2 hsz⟩ hQ)
theorem own_callC (X : own_Sd p l e R s m args below meth c n0 T h C S) (hx : p.tables.exec = Jvm.exec) (hZ : Z.Warmed39 s.vm) {own : String} {index : Nat} {y : MethodName} {bytes : ByteArray} {maxL : Nat} (hy1 : y.name = "<init>") (hown : s.vm.findClass own = some m.cls)
    (w1 : (Cond.methodLink own index y).before a0 Z = true) (w2 : (Cond.instanceMethod y).before a0 Z = true) (w3 : (Cond.initialized y.cls).before a0 Z = true) (w4 : (Cond.code y bytes maxL none).before a0 Z = true) (hy : y.cls ≠ "java/lang/invoke/MethodHandle" ∧ y.cls ≠ "java/lang/invoke/VarHandle")
    {rm : Room} {as' : Array Value} (hM : own_Met l Z y bytes maxL none rm as' h n0 Q) (hf : rm.frames + 1 ≤ R.frames) {W : Nat} (hlo : W + (maxL + 11) + rm.locals ≤ R.locals) {g : JFrame} (hg : g.method = m) (hsize : g.locals.size = c.maxLocals) {a : Addr} {argsL rest : List Value} (hlen : ∀ sig, parseMethodDescriptor y.desc = some sig → argsL.length = sig.parameters.length) (has : (.ref a :: argsL).toArray = as')
    (hstack : g.stack = argsL.reverse ++ .ref a :: rest) (hW : 2 * g.monitorRoom + (rest.map fun v => v.category).sum ≤ W) (hd : decode c.code g.pc = .ok (.invokespecial index, 3)) (hc : C + rm.cells ≤ R.cells) (hs : S + rm.slots ≤ R.slots)
    (k : ∀ v T' h', own_Sd p l e R s m args below meth c n0 T' h' (C + rm.cells) (S + rm.slots) → Q v h' → own_Go p e below P (T'.setTop { g with pc := g.pc + 3, stack := v.toList ++ rest })) : own_Go p e below P (T.setTop g) := by
  obtain ⟨L, X, N, eT, r1, r2⟩ := X
  obtain ⟨v, _, ⟨T', L', k', n'⟩, -, X', ⟨Lc, ⟨hQ, hsz, hN⟩, e1, e2, e3⟩, st⟩ := X.specialBack hx hy1 hown (mvT hZ w1) (mvT hZ w2) (mvT hZ w4) hy (own_back (W := W) hM hZ w4 w3 hf hlo) hg hsize (Steps.refl _) hlen hstack hW hd (fun _ _ => ⟨has, eT, hc, hs⟩)
  dsimp only [Pt.U, Pt.locs, Pt.cells, Pt.slots] at X' e1 e2 e3 st hQ hsz
  subst e1 e2 e3
  exact own_st (fun _ q => st.trans q) (k v T' T'.heap ⟨_, X', Fr.app N hN, rfl, r1, Nat.le_trans r2 hsz⟩ hQ)
theorem own_callV (X : own_Sd p l e R s m args below meth c n0 T h C S) (hx : p.tables.exec = Jvm.exec) (hZ : Z.Warmed39 s.vm) {own K : String} {index : Nat} {y : MethodName} {bytes : ByteArray} {maxL : Nat} {ret : Option FieldType} (hown : s.vm.findClass own = some m.cls)
    (w1 : (Cond.methodLink own index y).before a0 Z = true) (w2 : (Cond.declares y).before a0 Z = true) (w5 : (Cond.selects K y y).before a0 Z = true) (w6 : (Cond.instanceMethod y).before a0 Z = true) (w3 : (Cond.initialized y.cls).before a0 Z = true) (w4 : (Cond.code y bytes maxL ret).before a0 Z = true) (hy : y.cls ≠ "java/lang/invoke/MethodHandle" ∧ y.cls ≠ "java/lang/invoke/VarHandle")
    {a : Addr} (E : Exa Z h a K) {rm : Room} {as' : Array Value} (hM : own_Met l Z y bytes maxL ret rm as' h n0 Q) (hf : rm.frames + 1 ≤ R.frames) {W : Nat} (hlo : W + (maxL + 11) + rm.locals ≤ R.locals) {g : JFrame} (hg : g.method = m) (hsize : g.locals.size = c.maxLocals) {argsL rest : List Value} (hlen : ∀ sig, parseMethodDescriptor y.desc = some sig → argsL.length = sig.parameters.length) (has : (.ref a :: argsL).toArray = as')
    (hstack : g.stack = argsL.reverse ++ .ref a :: rest) (hW : 2 * g.monitorRoom + (rest.map fun v => v.category).sum ≤ W) (hd : decode c.code g.pc = .ok (.invokevirtual index, 3)) (hc : C + rm.cells ≤ R.cells) (hs : S + rm.slots ≤ R.slots)
    (k : ∀ v T' h', own_Sd p l e R s m args below meth c n0 T' h' (C + rm.cells) (S + rm.slots) → Q v h' → own_Go p e below P (T'.setTop { g with pc := g.pc + 3, stack := v.toList ++ rest })) : own_Go p e below P (T.setTop g) := by
  obtain ⟨L, X, N, eT, r1, r2⟩ := X
  obtain ⟨cB, kB, q1, q2, q3⟩ := isOf hZ eT E
  obtain ⟨v, _, ⟨T', L', k', n'⟩, -, X', ⟨Lc, ⟨hQ, hsz, hN⟩, e1, e2, e3⟩, st⟩ := X.virtualBack hx hown (mvT hZ w1) (mvT hZ w2) (notFace_of_selects (args := #[]) (mvT hZ w5)) (mvT hZ w5) (mvT hZ w6) hy (own_back (W := W) hM hZ w4 w3 hf hlo) q1 q3 hg hsize (Steps.refl _) hlen hstack hW hd (fun _ _ => ⟨has, eT, hc, hs⟩)
  dsimp only [Pt.U, Pt.locs, Pt.cells, Pt.slots] at X' e1 e2 e3 st hQ hsz
  subst e1 e2 e3
  exact own_st (fun _ q => st.trans q) (k v T' T'.heap ⟨_, X', Fr.app N hN, rfl, r1, Nat.le_trans r2 hsz⟩ hQ)
theorem own_callP (X : own_Sd p l e R s m args below meth c n0 T h C S) (hx : p.tables.exec = Jvm.exec) (hZ : Z.Warmed39 s.vm) {own K K' : String} {index : Nat} {y y' : MethodName} {bytes : ByteArray} {maxL : Nat} {ret : Option FieldType} (hown : s.vm.findClass own = some m.cls)
    (w1 : (Cond.methodLink own index y).before a0 Z = true) (w7 : (Cond.privateMethod y).before a0 Z = true) (w5 : (Cond.selects K y' y').before a0 Z = true) (hyy : y'.cls = y.cls) (w6 : (Cond.instanceMethod y).before a0 Z = true) (w3 : (Cond.initialized y.cls).before a0 Z = true) (w4 : (Cond.code y bytes maxL ret).before a0 Z = true) (hy : y.cls ≠ "java/lang/invoke/MethodHandle" ∧ y.cls ≠ "java/lang/invoke/VarHandle")
    {a : Addr} (E : Exa Z h a K') {rm : Room} {as' : Array Value} (hM : own_Met l Z y bytes maxL ret rm as' h n0 Q) (hf : rm.frames + 1 ≤ R.frames) {W : Nat} (hlo : W + (maxL + 11) + rm.locals ≤ R.locals) {g : JFrame} (hg : g.method = m) (hsize : g.locals.size = c.maxLocals) {argsL rest : List Value} (hlen : ∀ sig, parseMethodDescriptor y.desc = some sig → argsL.length = sig.parameters.length) (has : (.ref a :: argsL).toArray = as')
    (hstack : g.stack = argsL.reverse ++ .ref a :: rest) (hW : 2 * g.monitorRoom + (rest.map fun v => v.category).sum ≤ W) (hd : decode c.code g.pc = .ok (.invokevirtual index, 3)) (hc : C + rm.cells ≤ R.cells) (hs : S + rm.slots ≤ R.slots)
    (k : ∀ v T' h', own_Sd p l e R s m args below meth c n0 T' h' (C + rm.cells) (S + rm.slots) → Q v h' → own_Go p e below P (T'.setTop { g with pc := g.pc + 3, stack := v.toList ++ rest })) : own_Go p e below P (T.setTop g) := by
  obtain ⟨L, X, N, eT, r1, r2⟩ := X
  obtain ⟨c2, q2, m2, -, -, q3, -, kP, hkP, hkPi⟩ := Cond.selects_spec (mvT hZ w5 : (Cond.selects K y' y').before args s = true)
  have hcl := findClass_of_methodNamed q3
  rw [hyy] at hcl
  have hp := Cond.privateMethod_at (mvP hZ w7 (args := #[]))
  have hsel := selects_self_of_private (args := args) hcl hkP hkPi hp (mvT hZ w6) hy
  obtain ⟨cl, h1, h2⟩ := E.cell
  obtain ⟨v, _, ⟨T', L', k', n'⟩, -, X', ⟨Lc, ⟨hQ, hsz, hN⟩, e1, e2, e3⟩, st⟩ := X.privateBack hx hown (mvT hZ w1) (mvT hZ w6) hsel hp (mvT hZ w4) hy (own_back (W := W) hM hZ w4 w3 hf hlo) hg hsize (Steps.refl _) (by rw [eT]; exact h1) h2 hlen hstack hW hd (fun _ _ => ⟨has, eT, hc, hs⟩)
  dsimp only [Pt.U, Pt.locs, Pt.cells, Pt.slots] at X' e1 e2 e3 st hQ hsz
  subst e1 e2 e3
  exact own_st (fun _ q => st.trans q) (k v T' T'.heap ⟨_, X', Fr.app N hN, rfl, r1, Nat.le_trans r2 hsz⟩ hQ)
/-! calls of methods that leave the heap as it is -/
theorem own_callSp (X : own_Sd p l e R s m args below meth c n0 T h C S) (hx : p.tables.exec = Jvm.exec) (hZ : Z.Warmed39 s.vm) {own : String} {index : Nat} {y : MethodName} {bytes : ByteArray} {maxL : Nat} {ret : Option FieldType} (hown : s.vm.findClass own = some m.cls)
    (w1 : (Cond.methodLink own index y).before a0 Z = true) (w2 : (Cond.static y).before a0 Z = true) (w3 : (Cond.initialized y.cls).before a0 Z = true) (w4 : (Cond.code y bytes maxL ret).before a0 Z = true) (hy : y.cls ≠ "java/lang/invoke/MethodHandle" ∧ y.cls ≠ "java/lang/invoke/VarHandle")
    {rm : Room} {as' : Array Value} {r : Option Value} (hM : own_Met l Z y bytes maxL ret rm as' h n0 (fun v' h' => v' = r ∧ h' = h)) (hf : rm.frames + 1 ≤ R.frames) {W : Nat} (hlo : W + (maxL + 11) + rm.locals ≤ R.locals) {g : JFrame} (hg : g.method = m) (hsize : g.locals.size = c.maxLocals) {argsL rest : List Value} (hlen : ∀ sig, parseMethodDescriptor y.desc = some sig → argsL.length = sig.parameters.length) (has : argsL.toArray = as')
    (hstack : g.stack = argsL.reverse ++ rest) (hW : 2 * g.monitorRoom + (rest.map fun v => v.category).sum ≤ W) (hd : decode c.code g.pc = .ok (.invokestatic index, 3)) (hc : C + rm.cells ≤ R.cells) (hs : S + rm.slots ≤ R.slots)
    (k : ∀ T', own_Sd p l e R s m args below meth c n0 T' h (C + rm.cells) (S + rm.slots) → own_Go p e below P (T'.setTop { g with pc := g.pc + 3, stack := r.toList ++ rest })) : own_Go p e below P (T.setTop g) :=
  own_callS X hx hZ hown w1 w2 w3 w4 hy hM hf hlo hg hsize hlen has hstack hW hd hc hs fun v T' h' X' q => by
    obtain ⟨e1, e2⟩ := q; rw [e1]; rw [e2] at X'; exact k T' X'
theorem own_callVp (X : own_Sd p l e R s m args below meth c n0 T h C S) (hx : p.tables.exec = Jvm.exec) (hZ : Z.Warmed39 s.vm) {own K : String} {index : Nat} {y : MethodName} {bytes : ByteArray} {maxL : Nat} {ret : Option FieldType} (hown : s.vm.findClass own = some m.cls)
    (w1 : (Cond.methodLink own index y).before a0 Z = true) (w2 : (Cond.declares y).before a0 Z = true) (w5 : (Cond.selects K y y).before a0 Z = true) (w6 : (Cond.instanceMethod y).before a0 Z = true) (w3 : (Cond.initialized y.cls).before a0 Z = true) (w4 : (Cond.code y bytes maxL ret).before a0 Z = true) (hy : y.cls ≠ "java/lang/invoke/MethodHandle" ∧ y.cls ≠ "java/lang/invoke/VarHandle")
    {a : Addr} (E : Exa Z h a K) {rm : Room} {as' : Array Value} {r : Option Value} (hM : own_Met l Z y bytes maxL ret rm as' h n0 (fun v' h' => v' = r ∧ h' = h)) (hf : rm.frames + 1 ≤ R.frames) {W : Nat} (hlo : W + (maxL + 11) + rm.locals ≤ R.locals) {g : JFrame} (hg : g.method = m) (hsize : g.locals.size = c.maxLocals) {argsL rest : List Value} (hlen : ∀ sig, parseMethodDescriptor y.desc = some sig → argsL.length = sig.parameters.length) (has : (.ref a :: argsL).toArray = as')
    (hstack : g.stack = argsL.reverse ++ .ref a :: rest) (hW : 2 * g.monitorRoom + (rest.map fun v => v.category).sum ≤ W) (hd : decode c.code g.pc = .ok (.invokevirtual index, 3)) (hc : C + rm.cells ≤ R.cells) (hs : S + rm.slots ≤ R.slots)
    (k : ∀ T', own_Sd p l e R s m args below meth c n0 T' h (C + rm.cells) (S + rm.slots) → own_Go p e below P (T'.setTop { g with pc := g.pc + 3, stack := r.toList ++ rest })) : own_Go p e below P (T.setTop g) :=
  own_callV X hx hZ hown w1 w2 w5 w6 w3 w4 hy E hM hf hlo hg hsize hlen has hstack hW hd hc hs fun v T' h' X' q => by
    obtain ⟨e1, e2⟩ := q; rw [e1]; rw [e2] at X'; exact k T' X'
theorem own_callCp (X : own_Sd p l e R s m args below meth c n0 T h C S) (hx : p.tables.exec = Jvm.exec) (hZ : Z.Warmed39 s.vm) {own : String} {index : Nat} {y : MethodName} {bytes : ByteArray} {maxL : Nat} (hy1 : y.name = "<init>") (hown : s.vm.findClass own = some m.cls)
    (w1 : (Cond.methodLink own index y).before a0 Z = true) (w2 : (Cond.instanceMethod y).before a0 Z = true) (w3 : (Cond.initialized y.cls).before a0 Z = true) (w4 : (Cond.code y bytes maxL none).before a0 Z = true) (hy : y.cls ≠ "java/lang/invoke/MethodHandle" ∧ y.cls ≠ "java/lang/invoke/VarHandle")
    {rm : Room} {as' : Array Value} {r : Option Value} (hM : own_Met l Z y bytes maxL none rm as' h n0 (fun v' h' => v' = r ∧ h' = h)) (hf : rm.frames + 1 ≤ R.frames) {W : Nat} (hlo : W + (maxL + 11) + rm.locals ≤ R.locals) {g : JFrame} (hg : g.method = m) (hsize : g.locals.size = c.maxLocals) {a : Addr} {argsL rest : List Value} (hlen : ∀ sig, parseMethodDescriptor y.desc = some sig → argsL.length = sig.parameters.length) (has : (.ref a :: argsL).toArray = as')
    (hstack : g.stack = argsL.reverse ++ .ref a :: rest) (hW : 2 * g.monitorRoom + (rest.map fun v => v.category).sum ≤ W) (hd : decode c.code g.pc = .ok (.invokespecial index, 3)) (hc : C + rm.cells ≤ R.cells) (hs : S + rm.slots ≤ R.slots)
    (k : ∀ T', own_Sd p l e R s m args below meth c n0 T' h (C + rm.cells) (S + rm.slots) → own_Go p e below P (T'.setTop { g with pc := g.pc + 3, stack := r.toList ++ rest })) : own_Go p e below P (T.setTop g) :=
  own_callC X hx hZ hy1 hown w1 w2 w3 w4 hy hM hf hlo hg hsize hlen has hstack hW hd hc hs fun v T' h' X' q => by
    obtain ⟨e1, e2⟩ := q; rw [e1]; rw [e2] at X'; exact k T' X'
theorem own_callPp (X : own_Sd p l e R s m args below meth c n0 T h C S) (hx : p.tables.exec = Jvm.exec) (hZ : Z.Warmed39 s.vm) {own K K' : String} {index : Nat} {y y' : MethodName} {bytes : ByteArray} {maxL : Nat} {ret : Option FieldType} (hown : s.vm.findClass own = some m.cls)
    (w1 : (Cond.methodLink own index y).before a0 Z = true) (w7 : (Cond.privateMethod y).before a0 Z = true) (w5 : (Cond.selects K y' y').before a0 Z = true) (hyy : y'.cls = y.cls) (w6 : (Cond.instanceMethod y).before a0 Z = true) (w3 : (Cond.initialized y.cls).before a0 Z = true) (w4 : (Cond.code y bytes maxL ret).before a0 Z = true) (hy : y.cls ≠ "java/lang/invoke/MethodHandle" ∧ y.cls ≠ "java/lang/invoke/VarHandle")
    {a : Addr} (E : Exa Z h a K') {rm : Room} {as' : Array Value} {r : Option Value} (hM : own_Met l Z y bytes maxL ret rm as' h n0 (fun v' h' => v' = r ∧ h' = h)) (hf : rm.frames + 1 ≤ R.frames) {W : Nat} (hlo : W + (maxL + 11) + rm.locals ≤ R.locals) {g : JFrame} (hg : g.method = m) (hsize : g.locals.size = c.maxLocals) {argsL rest : List Value} (hlen : ∀ sig, parseMethodDescriptor y.desc = some sig → argsL.length = sig.parameters.length) (has : (.ref a :: argsL).toArray = as')
    (hstack : g.stack = argsL.reverse ++ .ref a :: rest) (hW : 2 * g.monitorRoom + (rest.map fun v => v.category).sum ≤ W) (hd : decode c.code g.pc = .ok (.invokevirtual index, 3)) (hc : C + rm.cells ≤ R.cells) (hs : S + rm.slots ≤ R.slots)
    (k : ∀ T', own_Sd p l e R s m args below meth c n0 T' h (C + rm.cells) (S + rm.slots) → own_Go p e below P (T'.setTop { g with pc := g.pc + 3, stack := r.toList ++ rest })) : own_Go p e below P (T.setTop g) :=
  own_callP X hx hZ hown w1 w7 w5 hyy w6 w3 w4 hy E hM hf hlo hg hsize hlen has hstack hW hd hc hs fun v T' h' X' q => by
    obtain ⟨e1, e2⟩ := q; rw [e1]; rw [e2] at X'; exact k T' X'
end Own
section OwnS
variable {p : Program} {l : Launch} {e : Env} {R : Room} {s : State} {m : MethodId} {args : Array Value} {below : List Frame} {meth : Method} {c : Code} {T : State} {n0 C S : Nat} {Z : State} {a0 : Array Value} {h h' : Heap} {P : State → Outcome → Prop} {Q : Option Value → Heap → Prop} {a b : Addr} {ty : FieldType} {vs : List Value} {v : Value} {sl i : Nat}
variable {bytes : ByteArray} {maxL : Nat} {y : MethodName} {ret : Option FieldType} {pc : Nat} {Ls Ls' : Array Slot} {st : List Value}
theorem o_w (hw : ∀ d ∈ tables_1, d.before a0 Z = true) (i : Nat) {d : Jvm.Cond} (q : tables_1[i]? = some d) : d.before a0 Z = true := hw d (List.mem_of_getElem? q)
theorem o_iload (cx : own_Cx p s m meth c Z bytes maxL y ret) (X : own_Sd p l e R s m args below meth c n0 T h C S) {k : Nat} {z : Int32} (hd : decode bytes pc = .ok (.iload k, 2)) (hl : Ls[k]? = some (.val (.int z))) (k : own_Go p e below P (T.setTop (mkF m (pc + 2) Ls (.int z :: st)))) : own_Go p e below P (T.setTop (mkF m pc Ls st)) := by
  obtain ⟨hx, hby, -⟩ := cx
  exact own_st (fun _ q => XS.iload X.here hx rfl (hb hby hd) hl q) k
theorem o_lload (cx : own_Cx p s m meth c Z bytes maxL y ret) (X : own_Sd p l e R s m args below meth c n0 T h C S) {k : Nat} {z : Int64} (hd : decode bytes pc = .ok (.lload k, 2)) (hl : Ls[k]? = some (.val (.long z))) (k : own_Go p e below P (T.setTop (mkF m (pc + 2) Ls (.long z :: st)))) : own_Go p e below P (T.setTop (mkF m pc Ls st)) := by
  obtain ⟨hx, hby, -⟩ := cx
  exact own_st (fun _ q => XS.lload X.here hx rfl (hb hby hd) hl q) k
theorem o_aload (cx : own_Cx p s m meth c Z bytes maxL y ret) (X : own_Sd p l e R s m args below meth c n0 T h C S) {k : Nat} {v : Value} (hd : decode bytes pc = .ok (.aload k, 2)) (hl : Ls[k]? = some (.val v)) (hv : v.isRef = true) (k : own_Go p e below P (T.setTop (mkF m (pc + 2) Ls (v :: st)))) : own_Go p e below P (T.setTop (mkF m pc Ls st)) := by
  obtain ⟨hx, hby, -⟩ := cx
  exact own_st (fun _ q => XS.aload X.here hx rfl (hb hby hd) hl hv q) k
theorem o_istore (cx : own_Cx p s m meth c Z bytes maxL y ret) (X : own_Sd p l e R s m args below meth c n0 T h C S) {k : Nat} {z : Int32} (hd : decode bytes pc = .ok (.istore k, 2)) (hl : storeLocals Ls k (.int z) = some Ls') (k : own_Go p e below P (T.setTop (mkF m (pc + 2) Ls' st))) : own_Go p e below P (T.setTop (mkF m pc Ls (.int z :: st))) := by
  obtain ⟨hx, hby, -⟩ := cx
  exact own_st (fun _ q => XS.istore X.here hx rfl (hb hby hd) rfl hl q) k
theorem o_lstore (cx : own_Cx p s m meth c Z bytes maxL y ret) (X : own_Sd p l e R s m args below meth c n0 T h C S) {k : Nat} {z : Int64} (hd : decode bytes pc = .ok (.lstore k, 2)) (hl : storeLocals Ls k (.long z) = some Ls') (k : own_Go p e below P (T.setTop (mkF m (pc + 2) Ls' st))) : own_Go p e below P (T.setTop (mkF m pc Ls (.long z :: st))) := by
  obtain ⟨hx, hby, -⟩ := cx
  exact own_st (fun _ q => XS.lstore X.here hx rfl (hb hby hd) rfl hl q) k
theorem o_astore (cx : own_Cx p s m meth c Z bytes maxL y ret) (X : own_Sd p l e R s m args below meth c n0 T h C S) {k : Nat} {v : Value} (hd : decode bytes pc = .ok (.astore k, 2)) (hv : v.isRef = true) (hl : storeLocals Ls k v = some Ls') (k : own_Go p e below P (T.setTop (mkF m (pc + 2) Ls' st))) : own_Go p e below P (T.setTop (mkF m pc Ls (v :: st))) := by
  obtain ⟨hx, hby, -⟩ := cx
  exact own_st (fun _ q => XS.astore X.here hx rfl (hb hby hd) rfl hv hl q) k
theorem o_iloadN (cx : own_Cx p s m meth c Z bytes maxL y ret) (X : own_Sd p l e R s m args below meth c n0 T h C S) {k : Fin 4} {z : Int32} (hd : decode bytes pc = .ok (.iload_n k, 1)) (hl : Ls[k.val]? = some (.val (.int z))) (k : own_Go p e below P (T.setTop (mkF m (pc + 1) Ls (.int z :: st)))) : own_Go p e below P (T.setTop (mkF m pc Ls st)) := by
  obtain ⟨hx, hby, -⟩ := cx
  exact own_st (fun _ q => XS.iloadN X.here hx rfl (hb hby hd) hl q) k
theorem o_lloadN (cx : own_Cx p s m meth c Z bytes maxL y ret) (X : own_Sd p l e R s m args below meth c n0 T h C S) {k : Fin 4} {z : Int64} (hd : decode bytes pc = .ok (.lload_n k, 1)) (hl : Ls[k.val]? = some (.val (.long z))) (k : own_Go p e below P (T.setTop (mkF m (pc + 1) Ls (.long z :: st)))) : own_Go p e below P (T.setTop (mkF m pc Ls st)) := by
  obtain ⟨hx, hby, -⟩ := cx
  exact own_st (fun _ q => XS.lloadN X.here hx rfl (hb hby hd) hl q) k
theorem o_aloadN (cx : own_Cx p s m meth c Z bytes maxL y ret) (X : own_Sd p l e R s m args below meth c n0 T h C S) {k : Fin 4} {v : Value} (hd : decode bytes pc = .ok (.aload_n k, 1)) (hl : Ls[k.val]? = some (.val v)) (hv : v.isRef = true) (k : own_Go p e below P (T.setTop (mkF m (pc + 1) Ls (v :: st)))) : own_Go p e below P (T.setTop (mkF m pc Ls st)) := by
  obtain ⟨hx, hby, -⟩ := cx
  exact own_st (fun _ q => XS.aloadN X.here hx rfl (hb hby hd) hl hv q) k
theorem o_istoreN (cx : own_Cx p s m meth c Z bytes maxL y ret) (X : own_Sd p l e R s m args below meth c n0 T h C S) {k : Fin 4} {z : Int32} (hd : decode bytes pc = .ok (.istore_n k, 1)) (hl : storeLocals Ls k.val (.int z) = some Ls') (k : own_Go p e below P (T.setTop (mkF m (pc + 1) Ls' st))) : own_Go p e below P (T.setTop (mkF m pc Ls (.int z :: st))) := by
  obtain ⟨hx, hby, -⟩ := cx
  exact own_st (fun _ q => XS.istoreN X.here hx rfl (hb hby hd) rfl hl q) k
theorem o_lstoreN (cx : own_Cx p s m meth c Z bytes maxL y ret) (X : own_Sd p l e R s m args below meth c n0 T h C S) {k : Fin 4} {z : Int64} (hd : decode bytes pc = .ok (.lstore_n k, 1)) (hl : storeLocals Ls k.val (.long z) = some Ls') (k : own_Go p e below P (T.setTop (mkF m (pc + 1) Ls' st))) : own_Go p e below P (T.setTop (mkF m pc Ls (.long z :: st))) := by
  obtain ⟨hx, hby, -⟩ := cx
  exact own_st (fun _ q => XS.lstoreN X.here hx rfl (hb hby hd) rfl hl q) k
theorem o_astoreN (cx : own_Cx p s m meth c Z bytes maxL y ret) (X : own_Sd p l e R s m args below meth c n0 T h C S) {k : Fin 4} {v : Value} (hd : decode bytes pc = .ok (.astore_n k, 1)) (hv : v.isRef = true) (hl : storeLocals Ls k.val v = some Ls') (k : own_Go p e below P (T.setTop (mkF m (pc + 1) Ls' st))) : own_Go p e below P (T.setTop (mkF m pc Ls (v :: st))) := by
  obtain ⟨hx, hby, -⟩ := cx
  exact own_st (fun _ q => XS.astoreN X.here hx rfl (hb hby hd) rfl hv hl q) k
theorem o_iconst (cx : own_Cx p s m meth c Z bytes maxL y ret) (X : own_Sd p l e R s m args below meth c n0 T h C S) {i : Int} {z : Int32} (hd : decode bytes pc = .ok (.iconst i, 1)) (hz : Int32.ofInt i = z) (k : own_Go p e below P (T.setTop (mkF m (pc + 1) Ls (.int z :: st)))) : own_Go p e below P (T.setTop (mkF m pc Ls st)) := by
  obtain ⟨hx, hby, -⟩ := cx
  exact own_st (fun _ q => XS.iconst X.here hx rfl (hb hby hd) (by rw [hz]; exact q)) k
theorem o_bipush (cx : own_Cx p s m meth c Z bytes maxL y ret) (X : own_Sd p l e R s m args below meth c n0 T h C S) {i : Int} {z : Int32} (hd : decode bytes pc = .ok (.bipush i, 2)) (hz : (Int8.ofInt i).toInt32 = z) (k : own_Go p e below P (T.setTop (mkF m (pc + 2) Ls (.int z :: st)))) : own_Go p e below P (T.setTop (mkF m pc Ls st)) := by
  obtain ⟨hx, hby, -⟩ := cx
  exact own_st (fun _ q => XS.bipush X.here hx rfl (hb hby hd) (by rw [hz]; exact q)) k
theorem o_sipush (cx : own_Cx p s m meth c Z bytes maxL y ret) (X : own_Sd p l e R s m args below meth c n0 T h C S) {i : Int} {z : Int32} (hd : decode bytes pc = .ok (.sipush i, 3)) (hz : (Int16.ofInt i).toInt32 = z) (k : own_Go p e below P (T.setTop (mkF m (pc + 3) Ls (.int z :: st)))) : own_Go p e below P (T.setTop (mkF m pc Ls st)) := by
  obtain ⟨hx, hby, -⟩ := cx
  exact own_st (fun _ q => XS.sipush X.here hx rfl (hb hby hd) (by rw [hz]; exact q)) k
theorem o_lconst (cx : own_Cx p s m meth c Z bytes maxL y ret) (X : own_Sd p l e R s m args below meth c n0 T h C S) {j : Fin 2} {z : Int64} (hd : decode bytes pc = .ok (.lconst j, 1)) (hz : Int64.ofNat j = z) (k : own_Go p e below P (T.setTop (mkF m (pc + 1) Ls (.long z :: st)))) : own_Go p e below P (T.setTop (mkF m pc Ls st)) := by
  obtain ⟨hx, hby, -⟩ := cx
  exact own_st (fun _ q => XS.lconst X.here hx rfl (hb hby hd) (by rw [hz]; exact q)) k
theorem o_aconst_null (cx : own_Cx p s m meth c Z bytes maxL y ret) (X : own_Sd p l e R s m args below meth c n0 T h C S)  (hd : decode bytes pc = .ok (.aconst_null, 1))  (k : own_Go p e below P (T.setTop (mkF m (pc + 1) Ls (.null :: st)))) : own_Go p e below P (T.setTop (mkF m pc Ls st)) := by
  obtain ⟨hx, hby, -⟩ := cx
  exact own_st (fun _ q => XS.aconstNull X.here hx rfl (hb hby hd) q) k
theorem o_iadd (cx : own_Cx p s m meth c Z bytes maxL y ret) (X : own_Sd p l e R s m args below meth c n0 T h C S) {x w z : Int32} (hd : decode bytes pc = .ok (.iadd, 1)) (hz : (x + w) = z) (k : own_Go p e below P (T.setTop (mkF m (pc + 1) Ls (.int z :: st)))) : own_Go p e below P (T.setTop (mkF m pc Ls (.int w :: .int x :: st))) := by
  obtain ⟨hx, hby, -⟩ := cx
  exact own_st (fun _ q => XS.iadd X.here hx rfl (hb hby hd) rfl (by rw [hz]; exact q)) k
theorem o_isub (cx : own_Cx p s m meth c Z bytes maxL y ret) (X : own_Sd p l e R s m args below meth c n0 T h C S) {x w z : Int32} (hd : decode bytes pc = .ok (.isub, 1)) (hz : (x - w) = z) (k : own_Go p e below P (T.setTop (mkF m (pc + 1) Ls (.int z :: st)))) : own_Go p e below P (T.setTop (mkF m pc Ls (.int w :: .int x :: st))) := by
  obtain ⟨hx, hby, -⟩ := cx
  exact own_st (fun _ q => XS.isub X.here hx rfl (hb hby hd) rfl (by rw [hz]; exact q)) k
theorem o_imul (cx : own_Cx p s m meth c Z bytes maxL y ret) (X : own_Sd p l e R s m args below meth c n0 T h C S) {x w z : Int32} (hd : decode bytes pc = .ok (.imul, 1)) (hz : (x * w) = z) (k : own_Go p e below P (T.setTop (mkF m (pc + 1) Ls (.int z :: st)))) : own_Go p e below P (T.setTop (mkF m pc Ls (.int w :: .int x :: st))) := by
  obtain ⟨hx, hby, -⟩ := cx
  exact own_st (fun _ q => XS.imul X.here hx rfl (hb hby hd) rfl (by rw [hz]; exact q)) k
theorem o_iand (cx : own_Cx p s m meth c Z bytes maxL y ret) (X : own_Sd p l e R s m args below meth c n0 T h C S) {x w z : Int32} (hd : decode bytes pc = .ok (.iand, 1)) (hz : (x &&& w) = z) (k : own_Go p e below P (T.setTop (mkF m (pc + 1) Ls (.int z :: st)))) : own_Go p e below P (T.setTop (mkF m pc Ls (.int w :: .int x :: st))) := by
  obtain ⟨hx, hby, -⟩ := cx
  exact own_st (fun _ q => XS.iand X.here hx rfl (hb hby hd) rfl (by rw [hz]; exact q)) k
theorem o_ior (cx : own_Cx p s m meth c Z bytes maxL y ret) (X : own_Sd p l e R s m args below meth c n0 T h C S) {x w z : Int32} (hd : decode bytes pc = .ok (.ior, 1)) (hz : (x ||| w) = z) (k : own_Go p e below P (T.setTop (mkF m (pc + 1) Ls (.int z :: st)))) : own_Go p e below P (T.setTop (mkF m pc Ls (.int w :: .int x :: st))) := by
  obtain ⟨hx, hby, -⟩ := cx
  exact own_st (fun _ q => XS.ior X.here hx rfl (hb hby hd) rfl (by rw [hz]; exact q)) k
theorem o_ixor (cx : own_Cx p s m meth c Z bytes maxL y ret) (X : own_Sd p l e R s m args below meth c n0 T h C S) {x w z : Int32} (hd : decode bytes pc = .ok (.ixor, 1)) (hz : (x ^^^ w) = z) (k : own_Go p e below P (T.setTop (mkF m (pc + 1) Ls (.int z :: st)))) : own_Go p e below P (T.setTop (mkF m pc Ls (.int w :: .int x :: st))) := by
  obtain ⟨hx, hby, -⟩ := cx
  exact own_st (fun _ q => XS.ixor X.here hx rfl (hb hby hd) rfl (by rw [hz]; exact q)) k
theorem o_ishl (cx : own_Cx p s m meth c Z bytes maxL y ret) (X : own_Sd p l e R s m args below meth c n0 T h C S) {x w z : Int32} (hd : decode bytes pc = .ok (.ishl, 1)) (hz : (x <<< (w &&& 31)) = z) (k : own_Go p e below P (T.setTop (mkF m (pc + 1) Ls (.int z :: st)))) : own_Go p e below P (T.setTop (mkF m pc Ls (.int w :: .int x :: st))) := by
  obtain ⟨hx, hby, -⟩ := cx
  exact own_st (fun _ q => XS.ishl X.here hx rfl (hb hby hd) rfl (by rw [hz]; exact q)) k
theorem o_ishr (cx : own_Cx p s m meth c Z bytes maxL y ret) (X : own_Sd p l e R s m args below meth c n0 T h C S) {x w z : Int32} (hd : decode bytes pc = .ok (.ishr, 1)) (hz : (x >>> (w &&& 31)) = z) (k : own_Go p e below P (T.setTop (mkF m (pc + 1) Ls (.int z :: st)))) : own_Go p e below P (T.setTop (mkF m pc Ls (.int w :: .int x :: st))) := by
  obtain ⟨hx, hby, -⟩ := cx
  exact own_st (fun _ q => XS.ishr X.here hx rfl (hb hby hd) rfl (by rw [hz]; exact q)) k
theorem o_iushr (cx : own_Cx p s m meth c Z bytes maxL y ret) (X : own_Sd p l e R s m args below meth c n0 T h C S) {x w z : Int32} (hd : decode bytes pc = .ok (.iushr, 1)) (hz : ((x.toUInt32 >>> (w &&& 31).toUInt32).toInt32) = z) (k : own_Go p e below P (T.setTop (mkF m (pc + 1) Ls (.int z :: st)))) : own_Go p e below P (T.setTop (mkF m pc Ls (.int w :: .int x :: st))) := by
  obtain ⟨hx, hby, -⟩ := cx
  exact own_st (fun _ q => XS.iushr X.here hx rfl (hb hby hd) rfl (by rw [hz]; exact q)) k
theorem o_ladd (cx : own_Cx p s m meth c Z bytes maxL y ret) (X : own_Sd p l e R s m args below meth c n0 T h C S) {x w z : Int64} (hd : decode bytes pc = .ok (.ladd, 1)) (hz : (x + w) = z) (k : own_Go p e below P (T.setTop (mkF m (pc + 1) Ls (.long z :: st)))) : own_Go p e below P (T.setTop (mkF m pc Ls (.long w :: .long x :: st))) := by
  obtain ⟨hx, hby, -⟩ := cx
  exact own_st (fun _ q => XS.ladd X.here hx rfl (hb hby hd) rfl (by rw [hz]; exact q)) k
theorem o_lsub (cx : own_Cx p s m meth c Z bytes maxL y ret) (X : own_Sd p l e R s m args below meth c n0 T h C S) {x w z : Int64} (hd : decode bytes pc = .ok (.lsub, 1)) (hz : (x - w) = z) (k : own_Go p e below P (T.setTop (mkF m (pc + 1) Ls (.long z :: st)))) : own_Go p e below P (T.setTop (mkF m pc Ls (.long w :: .long x :: st))) := by
  obtain ⟨hx, hby, -⟩ := cx
  exact own_st (fun _ q => XS.lsub X.here hx rfl (hb hby hd) rfl (by rw [hz]; exact q)) k
theorem o_lmul (cx : own_Cx p s m meth c Z bytes maxL y ret) (X : own_Sd p l e R s m args below meth c n0 T h C S) {x w z : Int64} (hd : decode bytes pc = .ok (.lmul, 1)) (hz : (x * w) = z) (k : own_Go p e below P (T.setTop (mkF m (pc + 1) Ls (.long z :: st)))) : own_Go p e below P (T.setTop (mkF m pc Ls (.long w :: .long x :: st))) := by
  obtain ⟨hx, hby, -⟩ := cx
  exact own_st (fun _ q => XS.lmul X.here hx rfl (hb hby hd) rfl (by rw [hz]; exact q)) k
theorem o_land (cx : own_Cx p s m meth c Z bytes maxL y ret) (X : own_Sd p l e R s m args below meth c n0 T h C S) {x w z : Int64} (hd : decode bytes pc = .ok (.land, 1)) (hz : (x &&& w) = z) (k : own_Go p e below P (T.setTop (mkF m (pc + 1) Ls (.long z :: st)))) : own_Go p e below P (T.setTop (mkF m pc Ls (.long w :: .long x :: st))) := by
  obtain ⟨hx, hby, -⟩ := cx
  exact own_st (fun _ q => XS.land X.here hx rfl (hb hby hd) rfl (by rw [hz]; exact q)) k
theorem o_lor (cx : own_Cx p s m meth c Z bytes maxL y ret) (X : own_Sd p l e R s m args below meth c n0 T h C S) {x w z : Int64} (hd : decode bytes pc = .ok (.lor, 1)) (hz : (x ||| w) = z) (k : own_Go p e below P (T.setTop (mkF m (pc + 1) Ls (.long z :: st)))) : own_Go p e below P (T.setTop (mkF m pc Ls (.long w :: .long x :: st))) := by
  obtain ⟨hx, hby, -⟩ := cx
  exact own_st (fun _ q => XS.lor X.here hx rfl (hb hby hd) rfl (by rw [hz]; exact q)) k
theorem o_lxor (cx : own_Cx p s m meth c Z bytes maxL y ret) (X : own_Sd p l e R s m args below meth c n0 T h C S) {x w z : Int64} (hd : decode bytes pc = .ok (.lxor, 1)) (hz : (x ^^^ w) = z) (k : own_Go p e below P (T.setTop (mkF m (pc + 1) Ls (.long z :: st)))) : own_Go p e below P (T.setTop (mkF m pc Ls (.long w :: .long x :: st))) := by
  obtain ⟨hx, hby, -⟩ := cx
  exact own_st (fun _ q => XS.lxor X.here hx rfl (hb hby hd) rfl (by rw [hz]; exact q)) k
theorem o_lshl (cx : own_Cx p s m meth c Z bytes maxL y ret) (X : own_Sd p l e R s m args below meth c n0 T h C S) {x : Int64} {w : Int32} {z : Int64} (hd : decode bytes pc = .ok (.lshl, 1)) (hz : (x <<< (w &&& 0x3f).toInt64) = z) (k : own_Go p e below P (T.setTop (mkF m (pc + 1) Ls (.long z :: st)))) : own_Go p e below P (T.setTop (mkF m pc Ls (.int w :: .long x :: st))) := by
  obtain ⟨hx, hby, -⟩ := cx
  exact own_st (fun _ q => XS.lshl X.here hx rfl (hb hby hd) rfl (by rw [hz]; exact q)) k
theorem o_lshr (cx : own_Cx p s m meth c Z bytes maxL y ret) (X : own_Sd p l e R s m args below meth c n0 T h C S) {x : Int64} {w : Int32} {z : Int64} (hd : decode bytes pc = .ok (.lshr, 1)) (hz : (x >>> (w &&& 0x3f).toInt64) = z) (k : own_Go p e below P (T.setTop (mkF m (pc + 1) Ls (.long z :: st)))) : own_Go p e below P (T.setTop (mkF m pc Ls (.int w :: .long x :: st))) := by
  obtain ⟨hx, hby, -⟩ := cx
  exact own_st (fun _ q => XS.lshr X.here hx rfl (hb hby hd) rfl (by rw [hz]; exact q)) k
theorem o_lushr (cx : own_Cx p s m meth c Z bytes maxL y ret) (X : own_Sd p l e R s m args below meth c n0 T h C S) {x : Int64} {w : Int32} {z : Int64} (hd : decode bytes pc = .ok (.lushr, 1)) (hz : ((x.toUInt64 >>> (w &&& 0x3f).toInt64.toUInt64).toInt64) = z) (k : own_Go p e below P (T.setTop (mkF m (pc + 1) Ls (.long z :: st)))) : own_Go p e below P (T.setTop (mkF m pc Ls (.int w :: .long x :: st))) := by
  obtain ⟨hx, hby, -⟩ := cx
  exact own_st (fun _ q => XS.lushr X.here hx rfl (hb hby hd) rfl (by rw [hz]; exact q)) k
theorem o_ineg (cx : own_Cx p s m meth c Z bytes maxL y ret) (X : own_Sd p l e R s m args below meth c n0 T h C S) {x : Int32} {z : Int32} (hd : decode bytes pc = .ok (.ineg, 1)) (hz : (-x) = z) (k : own_Go p e below P (T.setTop (mkF m (pc + 1) Ls (.int z :: st)))) : own_Go p e below P (T.setTop (mkF m pc Ls (.int x :: st))) := by
  obtain ⟨hx, hby, -⟩ := cx
  exact own_st (fun _ q => XS.ineg X.here hx rfl (hb hby hd) rfl (by rw [hz]; exact q)) k
theorem o_lneg (cx : own_Cx p s m meth c Z bytes maxL y ret) (X : own_Sd p l e R s m args below meth c n0 T h C S) {x : Int64} {z : Int64} (hd : decode bytes pc = .ok (.lneg, 1)) (hz : (-x) = z) (k : own_Go p e below P (T.setTop (mkF m (pc + 1) Ls (.long z :: st)))) : own_Go p e below P (T.setTop (mkF m pc Ls (.long x :: st))) := by
  obtain ⟨hx, hby, -⟩ := cx
  exact own_st (fun _ q => XS.lneg X.here hx rfl (hb hby hd) rfl (by rw [hz]; exact q)) k
theorem o_i2l (cx : own_Cx p s m meth c Z bytes maxL y ret) (X : own_Sd p l e R s m args below meth c n0 T h C S) {x : Int32} {z : Int64} (hd : decode bytes pc = .ok (.i2l, 1)) (hz : (x.toInt64) = z) (k : own_Go p e below P (T.setTop (mkF m (pc + 1) Ls (.long z :: st)))) : own_Go p e below P (T.setTop (mkF m pc Ls (.int x :: st))) := by
  obtain ⟨hx, hby, -⟩ := cx
  exact own_st (fun _ q => XS.i2l X.here hx rfl (hb hby hd) rfl (by rw [hz]; exact q)) k
theorem o_l2i (cx : own_Cx p s m meth c Z bytes maxL y ret) (X : own_Sd p l e R s m args below meth c n0 T h C S) {x : Int64} {z : Int32} (hd : decode bytes pc = .ok (.l2i, 1)) (hz : (x.toInt32) = z) (k : own_Go p e below P (T.setTop (mkF m (pc + 1) Ls (.int z :: st)))) : own_Go p e below P (T.setTop (mkF m pc Ls (.long x :: st))) := by
  obtain ⟨hx, hby, -⟩ := cx
  exact own_st (fun _ q => XS.l2i X.here hx rfl (hb hby hd) rfl (by rw [hz]; exact q)) k
theorem o_i2b (cx : own_Cx p s m meth c Z bytes maxL y ret) (X : own_Sd p l e R s m args below meth c n0 T h C S) {x : Int32} {z : Int32} (hd : decode bytes pc = .ok (.i2b, 1)) (hz : (x.toInt8.toInt32) = z) (k : own_Go p e below P (T.setTop (mkF m (pc + 1) Ls (.int z :: st)))) : own_Go p e below P (T.setTop (mkF m pc Ls (.int x :: st))) := by
  obtain ⟨hx, hby, -⟩ := cx
  exact own_st (fun _ q => XS.i2b X.here hx rfl (hb hby hd) rfl (by rw [hz]; exact q)) k
theorem o_i2s (cx : own_Cx p s m meth c Z bytes maxL y ret) (X : own_Sd p l e R s m args below meth c n0 T h C S) {x : Int32} {z : Int32} (hd : decode bytes pc = .ok (.i2s, 1)) (hz : (x.toInt16.toInt32) = z) (k : own_Go p e below P (T.setTop (mkF m (pc + 1) Ls (.int z :: st)))) : own_Go p e below P (T.setTop (mkF m pc Ls (.int x :: st))) := by
  obtain ⟨hx, hby, -⟩ := cx
  exact own_st (fun _ q => XS.i2s X.here hx rfl (hb hby hd) rfl (by rw [hz]; exact q)) k
theorem o_i2c (cx : own_Cx p s m meth c Z bytes maxL y ret) (X : own_Sd p l e R s m args below meth c n0 T h C S) {x : Int32} {z : Int32} (hd : decode bytes pc = .ok (.i2c, 1)) (hz : (x.toUInt32.toUInt16.toUInt32.toInt32) = z) (k : own_Go p e below P (T.setTop (mkF m (pc + 1) Ls (.int z :: st)))) : own_Go p e below P (T.setTop (mkF m pc Ls (.int x :: st))) := by
  obtain ⟨hx, hby, -⟩ := cx
  exact own_st (fun _ q => XS.i2c X.here hx rfl (hb hby hd) rfl (by rw [hz]; exact q)) k
theorem o_lcmp (cx : own_Cx p s m meth c Z bytes maxL y ret) (X : own_Sd p l e R s m args below meth c n0 T h C S) {x w : Int64} {z : Int32} (hd : decode bytes pc = .ok (.lcmp, 1)) (hz : lcmpW x w = z) (k : own_Go p e below P (T.setTop (mkF m (pc + 1) Ls (.int z :: st)))) : own_Go p e below P (T.setTop (mkF m pc Ls (.long w :: .long x :: st))) := by
  obtain ⟨hx, hby, -⟩ := cx
  exact own_st (fun _ q => XS.lcmp X.here hx rfl (hb hby hd) rfl (by rw [← hz] at q; exact q)) k
theorem o_irem (cx : own_Cx p s m meth c Z bytes maxL y ret) (X : own_Sd p l e R s m args below meth c n0 T h C S) {x w z : Int32} (hd : decode bytes pc = .ok (.irem, 1)) (hw : w ≠ 0) (hz : x % w = z) (k : own_Go p e below P (T.setTop (mkF m (pc + 1) Ls (.int z :: st)))) : own_Go p e below P (T.setTop (mkF m pc Ls (.int w :: .int x :: st))) := by
  obtain ⟨hx, hby, -⟩ := cx
  exact own_st (fun _ q => by obtain ⟨_, X, _⟩ := X; exact iremM X hx rfl (hb hby hd) rfl hw (by rw [hz]; exact q)) k
theorem o_lrem (cx : own_Cx p s m meth c Z bytes maxL y ret) (X : own_Sd p l e R s m args below meth c n0 T h C S) {x w z : Int64} (hd : decode bytes pc = .ok (.lrem, 1)) (hw : w ≠ 0) (hz : x % w = z) (k : own_Go p e below P (T.setTop (mkF m (pc + 1) Ls (.long z :: st)))) : own_Go p e below P (T.setTop (mkF m pc Ls (.long w :: .long x :: st))) := by
  obtain ⟨hx, hby, -⟩ := cx
  exact own_st (fun _ q => XS.lrem X.here hx rfl (hb hby hd) rfl hw (by rw [lrem_mod, hz]; exact q)) k
theorem o_iinc (cx : own_Cx p s m meth c Z bytes maxL y ret) (X : own_Sd p l e R s m args below meth c n0 T h C S) {k : Nat} {i : Int} {x z : Int32} (hd : decode bytes pc = .ok (.iinc k i, 3)) (hl : Ls[k]? = some (.val (.int x))) (hz : x + Int32.ofInt i = z) (hl' : storeLocals Ls k (.int z) = some Ls') (k : own_Go p e below P (T.setTop (mkF m (pc + 3) Ls' st))) : own_Go p e below P (T.setTop (mkF m pc Ls st)) := by
  obtain ⟨hx, hby, -⟩ := cx
  exact own_st (fun _ q => XS.iinc X.here hx rfl (hb hby hd) hl (by rw [hz]; exact hl') q) k
theorem o_dup (cx : own_Cx p s m meth c Z bytes maxL y ret) (X : own_Sd p l e R s m args below meth c n0 T h C S) {v : Value} (hd : decode bytes pc = .ok (.dup, 1)) (hc : v.category = 1) (k : own_Go p e below P (T.setTop (mkF m (pc + 1) Ls (v :: v :: st)))) : own_Go p e below P (T.setTop (mkF m pc Ls (v :: st))) := by
  obtain ⟨hx, hby, -⟩ := cx
  exact own_st (fun _ q => XS.dup X.here hx rfl (hb hby hd) rfl hc q) k
theorem o_pop (cx : own_Cx p s m meth c Z bytes maxL y ret) (X : own_Sd p l e R s m args below meth c n0 T h C S) {v : Value} (hd : decode bytes pc = .ok (.pop, 1)) (hc : v.category = 1) (k : own_Go p e below P (T.setTop (mkF m (pc + 1) Ls st))) : own_Go p e below P (T.setTop (mkF m pc Ls (v :: st))) := by
  obtain ⟨hx, hby, -⟩ := cx
  exact own_st (fun _ q => XS.pop X.here hx rfl (hb hby hd) rfl hc q) k
theorem o_dup_x1 (cx : own_Cx p s m meth c Z bytes maxL y ret) (X : own_Sd p l e R s m args below meth c n0 T h C S) {v w : Value} (hd : decode bytes pc = .ok (.dup_x1, 1)) (hc : v.category = 1) (hc' : w.category = 1) (k : own_Go p e below P (T.setTop (mkF m (pc + 1) Ls (v :: w :: v :: st)))) : own_Go p e below P (T.setTop (mkF m pc Ls (v :: w :: st))) := by
  obtain ⟨hx, hby, -⟩ := cx
  exact own_st (fun _ q => XS.dupX1 X.here hx rfl (hb hby hd) rfl hc hc' q) k
theorem o_dup2 (cx : own_Cx p s m meth c Z bytes maxL y ret) (X : own_Sd p l e R s m args below meth c n0 T h C S) {v w : Value} (hd : decode bytes pc = .ok (.dup2, 1)) (hc : v.category = 1) (hc' : w.category = 1) (k : own_Go p e below P (T.setTop (mkF m (pc + 1) Ls (v :: w :: v :: w :: st)))) : own_Go p e below P (T.setTop (mkF m pc Ls (v :: w :: st))) := by
  obtain ⟨hx, hby, -⟩ := cx
  exact own_st (fun _ q => Jvm.Free.XT.dup2 X.here hx rfl (hb hby hd) rfl hc hc' q) k
theorem o_dup_x2 (cx : own_Cx p s m meth c Z bytes maxL y ret) (X : own_Sd p l e R s m args below meth c n0 T h C S) {x w z : Value} (hd : decode bytes pc = .ok (.dup_x2, 1)) (h1 : x.category = 1) (h2 : w.category = 1) (h3 : z.category = 1) (k : own_Go p e below P (T.setTop (mkF m (pc + 1) Ls (x :: w :: z :: x :: st)))) : own_Go p e below P (T.setTop (mkF m pc Ls (x :: w :: z :: st))) := by
  obtain ⟨hx, hby, -⟩ := cx
  exact own_dupX2 X hx (g := mkF m pc Ls (x :: w :: z :: st)) (hb hby hd) rfl h1 h2 h3 rfl k
theorem o_goto (cx : own_Cx p s m meth c Z bytes maxL y ret) (X : own_Sd p l e R s m args below meth c n0 T h C S) {o : Int} (n : Nat) (hd : decode bytes pc = .ok (.goto o, 3)) (ho : 0 ≤ (pc : Int) + o) (hp : ((pc : Int) + o).toNat = n) (k : own_Go p e below P (T.setTop (mkF m n Ls st))) : own_Go p e below P (T.setTop (mkF m pc Ls st)) := by
  obtain ⟨hx, hby, -⟩ := cx
  exact own_st (fun _ q => XS.goto X.here hx rfl rfl (hb hby hd) ho hp q) k
theorem o_ifYes (cx : own_Cx p s m meth c Z bytes maxL y ret) (X : own_Sd p l e R s m args below meth c n0 T h C S) {cd : ClassFile.Cond} {x : Int32} {o : Int} (n : Nat) (hd : decode bytes pc = .ok (.ifCond cd o, 3)) (hc : ifCond.holds cd x = true) (ho : 0 ≤ (pc : Int) + o) (hp : ((pc : Int) + o).toNat = n) (k : own_Go p e below P (T.setTop (mkF m n Ls st))) : own_Go p e below P (T.setTop (mkF m pc Ls (.int x :: st))) := by
  obtain ⟨hx, hby, -⟩ := cx
  exact own_st (fun _ q => XS.ifYes X.here hx rfl rfl (hb hby hd) rfl hc ho hp q) k
theorem o_ifNo (cx : own_Cx p s m meth c Z bytes maxL y ret) (X : own_Sd p l e R s m args below meth c n0 T h C S) {cd : ClassFile.Cond} {x : Int32} {o : Int} (hd : decode bytes pc = .ok (.ifCond cd o, 3)) (hc : ifCond.holds cd x = false) (k : own_Go p e below P (T.setTop (mkF m (pc + 3) Ls st))) : own_Go p e below P (T.setTop (mkF m pc Ls (.int x :: st))) := by
  obtain ⟨hx, hby, -⟩ := cx
  exact own_st (fun _ q => XS.ifNo X.here hx rfl (hb hby hd) rfl hc q) k
theorem o_icmpYes (cx : own_Cx p s m meth c Z bytes maxL y ret) (X : own_Sd p l e R s m args below meth c n0 T h C S) {cd : ClassFile.Cond} {x w : Int32} {o : Int} (n : Nat) (hd : decode bytes pc = .ok (.if_icmp cd o, 3)) (hc : if_icmp.holds cd x w = true) (ho : 0 ≤ (pc : Int) + o) (hp : ((pc : Int) + o).toNat = n) (k : own_Go p e below P (T.setTop (mkF m n Ls st))) : own_Go p e below P (T.setTop (mkF m pc Ls (.int w :: .int x :: st))) := by
  obtain ⟨hx, hby, -⟩ := cx
  exact own_st (fun _ q => XS.icmpYes X.here hx rfl rfl (hb hby hd) rfl hc ho hp q) k
theorem o_icmpNo (cx : own_Cx p s m meth c Z bytes maxL y ret) (X : own_Sd p l e R s m args below meth c n0 T h C S) {cd : ClassFile.Cond} {x w : Int32} {o : Int} (hd : decode bytes pc = .ok (.if_icmp cd o, 3)) (hc : if_icmp.holds cd x w = false) (k : own_Go p e below P (T.setTop (mkF m (pc + 3) Ls st))) : own_Go p e below P (T.setTop (mkF m pc Ls (.int w :: .int x :: st))) := by
  obtain ⟨hx, hby, -⟩ := cx
  exact own_st (fun _ q => XS.icmpNo X.here hx rfl (hb hby hd) rfl hc q) k
theorem o_ifnullYes (cx : own_Cx p s m meth c Z bytes maxL y ret) (X : own_Sd p l e R s m args below meth c n0 T h C S) {o : Int} (n : Nat) (hd : decode bytes pc = .ok (.ifnull o, 3)) (ho : 0 ≤ (pc : Int) + o) (hp : ((pc : Int) + o).toNat = n) (k : own_Go p e below P (T.setTop (mkF m n Ls st))) : own_Go p e below P (T.setTop (mkF m pc Ls (.null :: st))) := by
  obtain ⟨hx, hby, -⟩ := cx
  exact own_st (fun _ q => XS.ifnullYes X.here hx rfl rfl (hb hby hd) rfl ho hp q) k
theorem o_ifnullNo (cx : own_Cx p s m meth c Z bytes maxL y ret) (X : own_Sd p l e R s m args below meth c n0 T h C S) {o : Int} {b : Addr} (hd : decode bytes pc = .ok (.ifnull o, 3))  (k : own_Go p e below P (T.setTop (mkF m (pc + 3) Ls st))) : own_Go p e below P (T.setTop (mkF m pc Ls (.ref b :: st))) := by
  obtain ⟨hx, hby, -⟩ := cx
  exact own_st (fun _ q => XS.ifnullNo X.here hx rfl (hb hby hd) rfl q) k
theorem o_ifnonnullYes (cx : own_Cx p s m meth c Z bytes maxL y ret) (X : own_Sd p l e R s m args below meth c n0 T h C S) {o : Int} (n : Nat) {b : Addr} (hd : decode bytes pc = .ok (.ifnonnull o, 3)) (ho : 0 ≤ (pc : Int) + o) (hp : ((pc : Int) + o).toNat = n) (k : own_Go p e below P (T.setTop (mkF m n Ls st))) : own_Go p e below P (T.setTop (mkF m pc Ls (.ref b :: st))) := by
  obtain ⟨hx, hby, -⟩ := cx
  exact own_st (fun _ q => XS.ifnonnullYes X.here hx rfl rfl (hb hby hd) rfl ho hp q) k
theorem o_ifnonnullNo (cx : own_Cx p s m meth c Z bytes maxL y ret) (X : own_Sd p l e R s m args below meth c n0 T h C S) {o : Int} (hd : decode bytes pc = .ok (.ifnonnull o, 3))  (k : own_Go p e below P (T.setTop (mkF m (pc + 3) Ls st))) : own_Go p e below P (T.setTop (mkF m pc Ls (.null :: st))) := by
  obtain ⟨hx, hby, -⟩ := cx
  exact own_st (fun _ q => XS.ifnonnullNo X.here hx rfl (hb hby hd) rfl q) k
theorem o_acmp (cx : own_Cx p s m meth c Z bytes maxL y ret) (X : own_Sd p l e R s m args below meth c n0 T h C S) {cd : ACond} {x w : Value} {o : Int} (n : Nat) (same : Bool) (hd : decode bytes pc = .ok (.if_acmp cd o, 3)) (h1 : x.isRef = true) (h2 : w.isRef = true) (hsame : decide (x = w) = same) (ho : 0 ≤ (pc : Int) + o) (hp : n = if acV cd same then ((pc : Int) + o).toNat else pc + 3) (k : own_Go p e below P (T.setTop (mkF m n Ls st))) : own_Go p e below P (T.setTop (mkF m pc Ls (w :: x :: st))) := by
  obtain ⟨hx, hby, hml, hown, hnm, hret, hlk, hZ⟩ := cx
  exact own_acmp X hx (g := mkF m pc Ls (w :: x :: st)) rfl h1 h2 rfl (hb hby hd) rfl hsame ho hp k
theorem o_ldc (cx : own_Cx p s m meth c Z bytes maxL y ret) (X : own_Sd p l e R s m args below meth c n0 T h C S) {j : Nat} {z : Int32} (hd : decode bytes pc = .ok (.ldc j, 2)) (w : (Jvm.Cond.constant y.cls j z).before a0 Z = true) (k : own_Go p e below P (T.setTop (mkF m (pc + 2) Ls (.int z :: st)))) : own_Go p e below P (T.setTop (mkF m pc Ls st)) := by
  obtain ⟨hx, hby, hml, hown, hnm, hret, hlk, hZ⟩ := cx
  exact own_ldc X hx hZ hown w (g := mkF m pc Ls st) rfl (hb hby hd) k
theorem o_ldc2 (cx : own_Cx p s m meth c Z bytes maxL y ret) (X : own_Sd p l e R s m args below meth c n0 T h C S) {j : Nat} {z : Int64} (hd : decode bytes pc = .ok (.ldc2_w j, 3)) (w : (Jvm.Cond.constantLong y.cls j z).before a0 Z = true) (k : own_Go p e below P (T.setTop (mkF m (pc + 3) Ls (.long z :: st)))) : own_Go p e below P (T.setTop (mkF m pc Ls st)) := by
  obtain ⟨hx, hby, hml, hown, hnm, hret, hlk, hZ⟩ := cx
  exact own_ldc2 X hx hZ hown w (g := mkF m pc Ls st) rfl (hb hby hd) k
theorem o_getF (cx : own_Cx p s m meth c Z bytes maxL y ret) (X : own_Sd p l e R s m args below meth c n0 T h C S) {O n d : String} {j : Nat} (hd : decode bytes pc = .ok (.getfield j, 3)) (w : (Jvm.Cond.fieldLink y.cls j O n d).before a0 Z = true) (F : Fld Z h a O n d v) (k : ∀ T', own_Sd p l e R s m args below meth c n0 T' h C S → own_Go p e below P (T'.setTop (mkF m (pc + 3) Ls (v :: st)))) : own_Go p e below P (T.setTop (mkF m pc Ls (.ref a :: st))) := by
  obtain ⟨hx, hby, hml, hown, hnm, hret, hlk, hZ⟩ := cx
  exact own_getF X hx hZ hown w F (g := mkF m pc Ls (.ref a :: st)) rfl rfl (hb hby hd) k
theorem o_putF (cx : own_Cx p s m meth c Z bytes maxL y ret) (X : own_Sd p l e R s m args below meth c n0 T h C S) {O n d K : String} {j kk : Nat} {v' old : Value} (hd : decode bytes pc = .ok (.putfield j, 3)) (w : (Jvm.Cond.fieldLink y.cls j O n d).before a0 Z = true) (F : Fld Z h a O n d old) (E : Exa Z h a K) (L : (Jvm.Cond.lays K O n d).before a0 Z = true ∨ ((Jvm.Cond.laysFinal K O n d).before a0 Z = true ∧ y.cls = O ∧ y.name = "<init>")) (wi : (Jvm.Cond.instantiable K kk).before a0 Z = true) (hty : parseFieldDescriptor d = some ty) (hn : narrow ty v = v') (hf : fits ty v' = true) (ga : n0 ≤ a) (k : ∀ T' h', own_Sd p l e R s m args below meth c n0 T' h' C S → Wr h h' a (Jvm.RoadKit.slotOf Z O n d) v' → own_Go p e below P (T'.setTop (mkF m (pc + 3) Ls st))) : own_Go p e below P (T.setTop (mkF m pc Ls (v :: .ref a :: st))) := by
  obtain ⟨hx, hby, hml, hown, hnm, hret, hlk, hZ⟩ := cx
  exact own_putF X hx hZ hown w F E (by rw [hnm]; exact L) wi hty hn hf ga (g := mkF m pc Ls (v :: .ref a :: st)) rfl rfl (hb hby hd) k
theorem o_newO (cx : own_Cx p s m meth c Z bytes maxL y ret) (X : own_Sd p l e R s m args below meth c n0 T h C S) {K : String} {j n : Nat} (hd : decode bytes pc = .ok (.new j, 3)) (w : (Jvm.Cond.classLink y.cls j K).before a0 Z = true) (wi : (Jvm.Cond.instantiable K n).before a0 Z = true) (wz : (Jvm.Cond.initialized K).before a0 Z = true) (hc : C + 1 ≤ R.cells) (hl : S + n ≤ R.slots) (k : ∀ T' h' b, b = h.size → n0 ≤ b → own_Sd p l e R s m args below meth c n0 T' h' (C + 1) (S + n) → Ext h h' → Exa Z h' b K → (∀ {O nm d : String} {ty : FieldType}, Laid Z a0 K O nm d → parseFieldDescriptor d = some ty → Fld Z h' b O nm d (defaultValue ty)) → own_Go p e below P (T'.setTop (mkF m (pc + 3) Ls (.ref b :: st)))) : own_Go p e below P (T.setTop (mkF m pc Ls st)) := by
  obtain ⟨hx, hby, hml, hown, hnm, hret, hlk, hZ⟩ := cx
  exact own_newO X hx hZ hown w wi wz (g := mkF m pc Ls st) rfl (hb hby hd) hc hl k
theorem o_initO (cx : own_Cx p s m meth c Z bytes maxL y ret) (X : own_Sd p l e R s m args below meth c n0 T h C S) {j : Nat} (hd : decode bytes pc = .ok (.invokespecial j, 3)) (w1 : (Jvm.Cond.methodLink y.cls j Lib.objectInit).before a0 Z = true) (w2 : (Jvm.Cond.instanceMethod Lib.objectInit).before a0 Z = true) (w3 : (Jvm.Cond.code Lib.objectInit ⟨#[0xb1]⟩ 1 none).before a0 Z = true) (hsz : Ls.size = maxL) (hf : 1 ≤ R.frames) (W : Nat) (hW : (st.map fun v => v.category).sum = W) (hl : W + 12 ≤ R.locals) (k : ∀ T', own_Sd p l e R s m args below meth c n0 T' h C S → own_Go p e below P (T'.setTop (mkF m (pc + 3) Ls st))) : own_Go p e below P (T.setTop (mkF m pc Ls (.ref a :: st))) := by
  obtain ⟨hx, hby, hml, hown, hnm, hret, hlk, hZ⟩ := cx
  exact own_initO X hx hZ hown w1 w2 w3 (g := mkF m pc Ls (.ref a :: st)) rfl (by rw [hml]; exact hsz) rfl (hb hby hd) hf (W := W) (by show 2 * 0 + _ ≤ _; omega) hl k
theorem o_callS (cx : own_Cx p s m meth c Z bytes maxL y ret) (X : own_Sd p l e R s m args below meth c n0 T h C S) {y' : MethodName} {bytes' : ByteArray} {maxL' : Nat} {ret' : Option FieldType} {j : Nat} {stk : List Value} (hd : decode bytes pc = .ok (.invokestatic j, 3)) (w1 : (Jvm.Cond.methodLink y.cls j y').before a0 Z = true) (w2 : (Jvm.Cond.static y').before a0 Z = true) (w3 : (Jvm.Cond.initialized y'.cls).before a0 Z = true) (w4 : (Jvm.Cond.code y' bytes' maxL' ret').before a0 Z = true) (hy : y'.cls ≠ "java/lang/invoke/MethodHandle" ∧ y'.cls ≠ "java/lang/invoke/VarHandle") {rm : Room} {as' : Array Value}  (hM : own_Met l Z y' bytes' maxL' ret' rm as' h n0 Q) (hf : rm.frames + 1 ≤ R.frames) (W : Nat) (hW : (st.map fun v => v.category).sum = W) (hlo : W + (maxL' + 11) + rm.locals ≤ R.locals) (hsz : Ls.size = maxL) {argsL : List Value} (hlen : ∀ sig, parseMethodDescriptor y'.desc = some sig → argsL.length = sig.parameters.length) (has : argsL.toArray = as') (hstk : stk = argsL.reverse ++ st) (hc : C + rm.cells ≤ R.cells) (hs : S + rm.slots ≤ R.slots) (k : ∀ v T' h', own_Sd p l e R s m args below meth c n0 T' h' (C + rm.cells) (S + rm.slots) → Q v h' → own_Go p e below P (T'.setTop (mkF m (pc + 3) Ls (v.toList ++ st)))) : own_Go p e below P (T.setTop (mkF m pc Ls stk)) := by
  obtain ⟨hx, hby, hml, hown, hnm, hret, hlk, hZ⟩ := cx
  exact own_callS X hx hZ hown w1 w2 w3 w4 hy hM hf (W := W) hlo (g := mkF m pc Ls stk) rfl (by rw [hml]; exact hsz) hlen has hstk (by show 2 * 0 + _ ≤ _; omega) (hb hby hd) hc hs k
theorem o_callC (cx : own_Cx p s m meth c Z bytes maxL y ret) (X : own_Sd p l e R s m args below meth c n0 T h C S) {y' : MethodName} {bytes' : ByteArray} {maxL' : Nat} {j : Nat} {stk : List Value} (hd : decode bytes pc = .ok (.invokespecial j, 3)) (w1 : (Jvm.Cond.methodLink y.cls j y').before a0 Z = true) (w2 : (Jvm.Cond.instanceMethod y').before a0 Z = true) (w3 : (Jvm.Cond.initialized y'.cls).before a0 Z = true) (w4 : (Jvm.Cond.code y' bytes' maxL' none).before a0 Z = true) (hy : y'.cls ≠ "java/lang/invoke/MethodHandle" ∧ y'.cls ≠ "java/lang/invoke/VarHandle") (hy1 : y'.name = "<init>") {rm : Room} {as' : Array Value}  (hM : own_Met l Z y' bytes' maxL' none rm as' h n0 Q) (hf : rm.frames + 1 ≤ R.frames) (W : Nat) (hW : (st.map fun v => v.category).sum = W) (hlo : W + (maxL' + 11) + rm.locals ≤ R.locals) (hsz : Ls.size = maxL) {argsL : List Value} (hlen : ∀ sig, parseMethodDescriptor y'.desc = some sig → argsL.length = sig.parameters.length) (has : (.ref a :: argsL).toArray = as') (hstk : stk = argsL.reverse ++ .ref a :: st) (hc : C + rm.cells ≤ R.cells) (hs : S + rm.slots ≤ R.slots) (k : ∀ v T' h', own_Sd p l e R s m args below meth c n0 T' h' (C + rm.cells) (S + rm.slots) → Q v h' → own_Go p e below P (T'.setTop (mkF m (pc + 3) Ls (v.toList ++ st)))) : own_Go p e below P (T.setTop (mkF m pc Ls stk)) := by
  obtain ⟨hx, hby, hml, hown, hnm, hret, hlk, hZ⟩ := cx
  exact own_callC X hx hZ hy1 hown w1 w2 w3 w4 hy hM hf (W := W) hlo (g := mkF m pc Ls stk) rfl (by rw [hml]; exact hsz) hlen has hstk (by show 2 * 0 + _ ≤ _; omega) (hb hby hd) hc hs k
theorem o_callV (cx : own_Cx p s m meth c Z bytes maxL y ret) (X : own_Sd p l e R s m args below meth c n0 T h C S) {y' : MethodName} {bytes' : ByteArray} {maxL' : Nat} {ret' : Option FieldType} {j : Nat} {stk : List Value} {K : String} (hd : decode bytes pc = .ok (.invokevirtual j, 3)) (w1 : (Jvm.Cond.methodLink y.cls j y').before a0 Z = true) (w2 : (Jvm.Cond.declares y').before a0 Z = true) (w5 : (Jvm.Cond.selects K y' y').before a0 Z = true) (w6 : (Jvm.Cond.instanceMethod y').before a0 Z = true) (w3 : (Jvm.Cond.initialized y'.cls).before a0 Z = true) (w4 : (Jvm.Cond.code y' bytes' maxL' ret').before a0 Z = true) (hy : y'.cls ≠ "java/lang/invoke/MethodHandle" ∧ y'.cls ≠ "java/lang/invoke/VarHandle") (E : Exa Z h a K) {rm : Room} {as' : Array Value}  (hM : own_Met l Z y' bytes' maxL' ret' rm as' h n0 Q) (hf : rm.frames + 1 ≤ R.frames) (W : Nat) (hW : (st.map fun v => v.category).sum = W) (hlo : W + (maxL' + 11) + rm.locals ≤ R.locals) (hsz : Ls.size = maxL) {argsL : List Value} (hlen : ∀ sig, parseMethodDescriptor y'.desc = some sig → argsL.length = sig.parameters.length) (has : (.ref a :: argsL).toArray = as') (hstk : stk = argsL.reverse ++ .ref a :: st) (hc : C + rm.cells ≤ R.cells) (hs : S + rm.slots ≤ R.slots) (k : ∀ v T' h', own_Sd p l e R s m args below meth c n0 T' h' (C + rm.cells) (S + rm.slots) → Q v h' → own_Go p e below P (T'.setTop (mkF m (pc + 3) Ls (v.toList ++ st)))) : own_Go p e below P (T.setTop (mkF m pc Ls stk)) := by
  obtain ⟨hx, hby, hml, hown, hnm, hret, hlk, hZ⟩ := cx
  exact own_callV X hx hZ hown w1 w2 w5 w6 w3 w4 hy E hM hf (W := W) hlo (g := mkF m pc Ls stk) rfl (by rw [hml]; exact hsz) hlen has hstk (by show 2 * 0 + _ ≤ _; omega) (hb hby hd) hc hs k
theorem o_callP (cx : own_Cx p s m meth c Z bytes maxL y ret) (X : own_Sd p l e R s m args below meth c n0 T h C S) {y' : MethodName} {bytes' : ByteArray} {maxL' : Nat} {ret' : Option FieldType} {j : Nat} {stk : List Value} {K K' : String} {y2 : MethodName} (hd : decode bytes pc = .ok (.invokevirtual j, 3)) (w1 : (Jvm.Cond.methodLink y.cls j y').before a0 Z = true) (w7 : (Jvm.Cond.privateMethod y').before a0 Z = true) (w5 : (Jvm.Cond.selects K y2 y2).before a0 Z = true) (hyy : y2.cls = y'.cls) (w6 : (Jvm.Cond.instanceMethod y').before a0 Z = true) (w3 : (Jvm.Cond.initialized y'.cls).before a0 Z = true) (w4 : (Jvm.Cond.code y' bytes' maxL' ret').before a0 Z = true) (hy : y'.cls ≠ "java/lang/invoke/MethodHandle" ∧ y'.cls ≠ "java/lang/invoke/VarHandle") (E : Exa Z h a K') {rm : Room} {as' : Array Value}  (hM : own_Met l Z y' bytes' maxL' ret' rm as' h n0 Q) (hf : rm.frames + 1 ≤ R.frames) (W : Nat) (hW : (st.map fun v => v.category).sum = W) (hlo : W + (maxL' + 11) + rm.locals ≤ R.locals) (hsz : Ls.size = maxL) {argsL : List Value} (hlen : ∀ sig, parseMethodDescriptor y'.desc = some sig → argsL.length = sig.parameters.length) (has : (.ref a :: argsL).toArray = as') (hstk : stk = argsL.reverse ++ .ref a :: st) (hc : C + rm.cells ≤ R.cells) (hs : S + rm.slots ≤ R.slots) (k : ∀ v T' h', own_Sd p l e R s m args below meth c n0 T' h' (C + rm.cells) (S + rm.slots) → Q v h' → own_Go p e below P (T'.setTop (mkF m (pc + 3) Ls (v.toList ++ st)))) : own_Go p e below P (T.setTop (mkF m pc Ls stk)) := by
  obtain ⟨hx, hby, hml, hown, hnm, hret, hlk, hZ⟩ := cx
  exact own_callP X hx hZ hown w1 w7 w5 hyy w6 w3 w4 hy E hM hf (W := W) hlo (g := mkF m pc Ls stk) rfl (by rw [hml]; exact hsz) hlen has hstk (by show 2 * 0 + _ ≤ _; omega) (hb hby hd) hc hs k
theorem o_callSp (cx : own_Cx p s m meth c Z bytes maxL y ret) (X : own_Sd p l e R s m args below meth c n0 T h C S) {y' : MethodName} {bytes' : ByteArray} {maxL' : Nat} {ret' : Option FieldType} {j : Nat} {stk : List Value} (hd : decode bytes pc = .ok (.invokestatic j, 3)) (w1 : (Jvm.Cond.methodLink y.cls j y').before a0 Z = true) (w2 : (Jvm.Cond.static y').before a0 Z = true) (w3 : (Jvm.Cond.initialized y'.cls).before a0 Z = true) (w4 : (Jvm.Cond.code y' bytes' maxL' ret').before a0 Z = true) (hy : y'.cls ≠ "java/lang/invoke/MethodHandle" ∧ y'.cls ≠ "java/lang/invoke/VarHandle") {rm : Room} {as' : Array Value} {r : Option Value} (hM : own_Met l Z y' bytes' maxL' ret' rm as' h n0 (fun v' h' => v' = r ∧ h' = h)) (hf : rm.frames + 1 ≤ R.frames) (W : Nat) (hW : (st.map fun v => v.category).sum = W) (hlo : W + (maxL' + 11) + rm.locals ≤ R.locals) (hsz : Ls.size = maxL) {argsL : List Value} (hlen : ∀ sig, parseMethodDescriptor y'.desc = some sig → argsL.length = sig.parameters.length) (has : argsL.toArray = as') (hstk : stk = argsL.reverse ++ st) (hc : C + rm.cells ≤ R.cells) (hs : S + rm.slots ≤ R.slots) (k : ∀ T', own_Sd p l e R s m args below meth c n0 T' h (C + rm.cells) (S + rm.slots) → own_Go p e below P (T'.setTop (mkF m (pc + 3) Ls (r.toList ++ st)))) : own_Go p e below P (T.setTop (mkF m pc Ls stk)) := by
  obtain ⟨hx, hby, hml, hown, hnm, hret, hlk, hZ⟩ := cx
  exact own_callSp X hx hZ hown w1 w2 w3 w4 hy hM hf (W := W) hlo (g := mkF m pc Ls stk) rfl (by rw [hml]; exact hsz) hlen has hstk (by show 2 * 0 + _ ≤ _; omega) (hb hby hd) hc hs k
theorem o_callCp (cx : own_Cx p s m meth c Z bytes maxL y ret) (X : own_Sd p l e R s m args below meth c n0 T h C S) {y' : MethodName} {bytes' : ByteArray} {maxL' : Nat} {j : Nat} {stk : List Value} (hd : decode bytes pc = .ok (.invokespecial j, 3)) (w1 : (Jvm.Cond.methodLink y.cls j y').before a0 Z = true) (w2 : (Jvm.Cond.instanceMethod y').before a0 Z = true) (w3 : (Jvm.Cond.initialized y'.cls).before a0 Z = true) (w4 : (Jvm.Cond.code y' bytes' maxL' none).before a0 Z = true) (hy : y'.cls ≠ "java/lang/invoke/MethodHandle" ∧ y'.cls ≠ "java/lang/invoke/VarHandle") (hy1 : y'.name = "<init>") {rm : Room} {as' : Array Value} {r : Option Value} (hM : own_Met l Z y' bytes' maxL' none rm as' h n0 (fun v' h' => v' = r ∧ h' = h)) (hf : rm.frames + 1 ≤ R.frames) (W : Nat) (hW : (st.map fun v => v.category).sum = W) (hlo : W + (maxL' + 11) + rm.locals ≤ R.locals) (hsz : Ls.size = maxL) {argsL : List Value} (hlen : ∀ sig, parseMethodDescriptor y'.desc = some sig → argsL.length = sig.parameters.length) (has : (.ref a :: argsL).toArray = as') (hstk : stk = argsL.reverse ++ .ref a :: st) (hc : C + rm.cells ≤ R.cells) (hs : S + rm.slots ≤ R.slots) (k : ∀ T', own_Sd p l e R s m args below meth c n0 T' h (C + rm.cells) (S + rm.slots) → own_Go p e below P (T'.setTop (mkF m (pc + 3) Ls (r.toList ++ st)))) : own_Go p e below P (T.setTop (mkF m pc Ls stk)) := by
  obtain ⟨hx, hby, hml, hown, hnm, hret, hlk, hZ⟩ := cx
  exact own_callCp X hx hZ hy1 hown w1 w2 w3 w4 hy hM hf (W := W) hlo (g := mkF m pc Ls stk) rfl (by rw [hml]; exact hsz) hlen has hstk (by show 2 * 0 + _ ≤ _; omega) (hb hby hd) hc hs k
theorem o_callVp (cx : own_Cx p s m meth c Z bytes maxL y ret) (X : own_Sd p l e R s m args below meth c n0 T h C S) {y' : MethodName} {bytes' : ByteArray} {maxL' : Nat} {ret' : Option FieldType} {j : Nat} {stk : List Value} {K : String} (hd : decode bytes pc = .ok (.invokevirtual j, 3)) (w1 : (Jvm.Cond.methodLink y.cls j y').before a0 Z = true) (w2 : (Jvm.Cond.declares y').before a0 Z = true) (w5 : (Jvm.Cond.selects K y' y').before a0 Z = true) (w6 : (Jvm.Cond.instanceMethod y').before a0 Z = true) (w3 : (Jvm.Cond.initialized y'.cls).before a0 Z = true) (w4 : (Jvm.Cond.code y' bytes' maxL' ret').before a0 Z = true) (hy : y'.cls ≠ "java/lang/invoke/MethodHandle" ∧ y'.cls ≠ "java/lang/invoke/VarHandle") (E : Exa Z h a K) {rm : Room} {as' : Array Value} {r : Option Value} (hM : own_Met l Z y' bytes' maxL' ret' rm as' h n0 (fun v' h' => v' = r ∧ h' = h)) (hf : rm.frames + 1 ≤ R.frames) (W : Nat) (hW : (st.map fun v => v.category).sum = W) (hlo : W + (maxL' + 11) + rm.locals ≤ R.locals) (hsz : Ls.size = maxL) {argsL : List Value} (hlen : ∀ sig, parseMethodDescriptor y'.desc = some sig → argsL.length = sig.parameters.length) (has : (.ref a :: argsL).toArray = as') (hstk : stk = argsL.reverse ++ .ref a :: st) (hc : C + rm.cells ≤ R.cells) (hs : S + rm.slots ≤ R.slots) (k : ∀ T', own_Sd p l e R s m args below meth c n0 T' h (C + rm.cells) (S + rm.slots) → own_Go p e below P (T'.setTop (mkF m (pc + 3) Ls (r.toList ++ st)))) : own_Go p e below P (T.setTop (mkF m pc Ls stk)) := by
  obtain ⟨hx, hby, hml, hown, hnm, hret, hlk, hZ⟩ := cx
  exact own_callVp X hx hZ hown w1 w2 w5 w6 w3 w4 hy E hM hf (W := W) hlo (g := mkF m pc Ls stk) rfl (by rw [hml]; exact hsz) hlen has hstk (by show 2 * 0 + _ ≤ _; omega) (hb hby hd) hc hs k
theorem o_callPp (cx : own_Cx p s m meth c Z bytes maxL y ret) (X : own_Sd p l e R s m args below meth c n0 T h C S) {y' : MethodName} {bytes' : ByteArray} {maxL' : Nat} {ret' : Option FieldType} {j : Nat} {stk : List Value} {K K' : String} {y2 : MethodName} (hd : decode bytes pc = .ok (.invokevirtual j, 3)) (w1 : (Jvm.Cond.methodLink y.cls j y').before a0 Z = true) (w7 : (Jvm.Cond.privateMethod y').before a0 Z = true) (w5 : (Jvm.Cond.selects K y2 y2).before a0 Z = true) (hyy : y2.cls = y'.cls) (w6 : (Jvm.Cond.instanceMethod y').before a0 Z = true) (w3 : (Jvm.Cond.initialized y'.cls).before a0 Z = true) (w4 : (Jvm.Cond.code y' bytes' maxL' ret').before a0 Z = true) (hy : y'.cls ≠ "java/lang/invoke/MethodHandle" ∧ y'.cls ≠ "java/lang/invoke/VarHandle") (E : Exa Z h a K') {rm : Room} {as' : Array Value} {r : Option Value} (hM : own_Met l Z y' bytes' maxL' ret' rm as' h n0 (fun v' h' => v' = r ∧ h' = h)) (hf : rm.frames + 1 ≤ R.frames) (W : Nat) (hW : (st.map fun v => v.category).sum = W) (hlo : W + (maxL' + 11) + rm.locals ≤ R.locals) (hsz : Ls.size = maxL) {argsL : List Value} (hlen : ∀ sig, parseMethodDescriptor y'.desc = some sig → argsL.length = sig.parameters.length) (has : (.ref a :: argsL).toArray = as') (hstk : stk = argsL.reverse ++ .ref a :: st) (hc : C + rm.cells ≤ R.cells) (hs : S + rm.slots ≤ R.slots) (k : ∀ T', own_Sd p l e R s m args below meth c n0 T' h (C + rm.cells) (S + rm.slots) → own_Go p e below P (T'.setTop (mkF m (pc + 3) Ls (r.toList ++ st)))) : own_Go p e below P (T.setTop (mkF m pc Ls stk)) := by
  obtain ⟨hx, hby, hml, hown, hnm, hret, hlk, hZ⟩ := cx
  exact own_callPp X hx hZ hown w1 w7 w5 hyy w6 w3 w4 hy E hM hf (W := W) hlo (g := mkF m pc Ls stk) rfl (by rw [hml]; exact hsz) hlen has hstk (by show 2 * 0 + _ ≤ _; omega) (hb hby hd) hc hs k
theorem o_retI (cx : own_Cx p s m meth c Z bytes maxL y (some .int)) (X : own_Sd p l e R s m args below meth c n0 T h C S) {z : Int32} (hd : decode bytes pc = .ok (.ireturn, 1)) (q : Q (some (.int z)) h) (hC : C ≤ R.cells) (hS : S ≤ R.slots) : own_Go p e below (own_End below s R n0 Q) (T.setTop (mkF m pc Ls (.int z :: st))) := by
  obtain ⟨hx, hby, hml, hown, hnm, hret, hlk, hZ⟩ := cx
  exact own_retI X hx hret hlk (hb hby hd) hC hS q
theorem o_retN {t : FieldType} (cx : own_Cx p s m meth c Z bytes maxL y (some t)) (X : own_Sd p l e R s m args below meth c n0 T h C S) {z z' : Int32} (hd : decode bytes pc = .ok (.ireturn, 1)) (ht : t = .boolean ∨ t = .byte ∨ t = .char ∨ t = .short) (hz : nar t z = z') (q : Q (some (.int z')) h) (hC : C ≤ R.cells) (hS : S ≤ R.slots) : own_Go p e below (own_End below s R n0 Q) (T.setTop (mkF m pc Ls (.int z :: st))) := by
  obtain ⟨hx, hby, hml, hown, hnm, hret, hlk, hZ⟩ := cx
  exact own_retN X hx hret ht hlk (hb hby hd) hC hS (by rw [hz]; exact q)
theorem o_retJ (cx : own_Cx p s m meth c Z bytes maxL y (some .long)) (X : own_Sd p l e R s m args below meth c n0 T h C S) {z : Int64} (hd : decode bytes pc = .ok (.lreturn, 1)) (q : Q (some (.long z)) h) (hC : C ≤ R.cells) (hS : S ≤ R.slots) : own_Go p e below (own_End below s R n0 Q) (T.setTop (mkF m pc Ls (.long z :: st))) := by
  obtain ⟨hx, hby, hml, hown, hnm, hret, hlk, hZ⟩ := cx
  exact own_retJ X hx hret hlk (hb hby hd) hC hS q
theorem o_retA {t : FieldType} (cx : own_Cx p s m meth c Z bytes maxL y (some t)) (X : own_Sd p l e R s m args below meth c n0 T h C S) {w : Value} (hd : decode bytes pc = .ok (.areturn, 1)) (ht : t.isReference = true) (hw : w.isRef = true) (hn : narrow t w = w) (q : Q (some w) h) (hC : C ≤ R.cells) (hS : S ≤ R.slots) : own_Go p e below (own_End below s R n0 Q) (T.setTop (mkF m pc Ls (w :: st))) := by
  obtain ⟨hx, hby, hml, hown, hnm, hret, hlk, hZ⟩ := cx
  exact own_retA X hx hret ht hlk hw hn (hb hby hd) hC hS q
theorem o_retV (cx : own_Cx p s m meth c Z bytes maxL y none) (X : own_Sd p l e R s m args below meth c n0 T h C S)  (hd : decode bytes pc = .ok (.return_, 1)) (q : Q none h) (hC : C ≤ R.cells) (hS : S ≤ R.slots) : own_Go p e below (own_End below s R n0 Q) (T.setTop (mkF m pc Ls [])) := by
  obtain ⟨hx, hby, hml, hown, hnm, hret, hlk, hZ⟩ := cx
  exact own_retV X hx hret hlk (hb hby hd) hC hS q
end OwnS
section OwnA
variable {p : Program} {l : Launch} {e : Env} {R : Room} {s : State} {m : MethodId} {args : Array Value} {below : List Frame} {meth : Method} {c : Code} {T : State} {n0 C S : Nat} {Z : State} {a0 : Array Value} {h h' : Heap} {P : State → Outcome → Prop} {a b : Addr} {ty : FieldType} {vs : List Value} {v : Value} {sl i : Nat} {wsA : List Addr}
/-- an array with just these elements -/
def own_Ar (Z : State) (h : Heap) (a : Addr) (ty : FieldType) (vs : List Value) : Prop := ∃ cl : Cell, Arr Z h a cl ty ∧ cl.slots = vs.toArray ∧ vs.length < 2 ^ 31
theorem own_Ar.lt (F : own_Ar Z h a ty vs) : a < h.size := by obtain ⟨_, A, _⟩ := F; exact A.lt
theorem own_Ar.ext (F : own_Ar Z h a ty vs) (E : Ext h h') : own_Ar Z h' a ty vs := by obtain ⟨c, A, r⟩ := F; exact ⟨c, A.ext E, r⟩
theorem own_Ar.other (F : own_Ar Z h b ty vs) (W : Wr h h' a sl v) (q : b ≠ a) : own_Ar Z h' b ty vs := by obtain ⟨c, A, r⟩ := F; exact ⟨c, A.other W q, r⟩
theorem own_Ar.keep (F : own_Ar Z h a ty vs) (K : Keep h h' wsA) (q : a ∉ wsA) : own_Ar Z h' a ty vs := by obtain ⟨c, A, r⟩ := F; exact ⟨c, ⟨K.2.1 a c A.1 q, A.2⟩, r⟩
theorem own_Ar.set (F : own_Ar Z h a ty vs) (W : Wr h h' a i v) : own_Ar Z h' a ty (vs.set i v) := by
  obtain ⟨cl, A, e, hl⟩ := F
  exact ⟨_, A.same W, by simp [Cell.setSlot, e], by simpa using hl⟩
theorem own_newP (X : own_Sd p l e R s m args below meth c n0 T h C S) (hx : p.tables.exec = Jvm.exec) (hZ : Z.Warmed39 s.vm) {aty : ArrayType} (w : (Cond.arrayClass (newarray.typeOf aty)).before a0 Z = true) {g : JFrame} (hg : g.method = m) (hd : decode c.code g.pc = .ok (.newarray aty, 2)) {n : Int32} {rest : List Value} (hs : g.stack = .int n :: rest)
    (hn : ¬ n < 0) {N cap : Nat} (hN : n.toNatClampNeg = N) (hcap : N ≤ cap) (hb : cap * 8 ≤ 536870912) (hc : C + 1 ≤ R.cells) (hl : S + cap ≤ R.slots)
    (k : ∀ T' h' b, b = h.size → n0 ≤ b → own_Sd p l e R s m args below meth c n0 T' h' (C + 1) (S + cap) → Ext h h' → own_Ar Z h' b (newarray.typeOf aty) (List.replicate N (defaultValue (newarray.typeOf aty))) → own_Go p e below P (T'.setTop { g with pc := g.pc + 2, stack := .ref b :: rest })) : own_Go p e below P (T.setTop g) := by
  have hn0 := X.ge0
  obtain ⟨L, X, N', eT, r1, r2⟩ := X
  obtain ⟨T', h', cA, X', e', E, A, st⟩ := newP X hx hZ w eT hg hd hs hn (cap := cap) (by rw [hN]; exact hcap) hb hc hl
  refine own_st st (k T' h' h.size rfl hn0 ⟨L, X', N', e', r1, Nat.le_trans r2 E.1⟩ E ⟨_, A, ?_, ?_⟩)
  · simp [newA, hN]
  · have := (back32 hn).2; rw [List.length_replicate]; omega
theorem own_inb {cl : Cell} (e : cl.slots = vs.toArray) {j : Int32} (hj : ¬ j < 0) (hi : j.toNatClampNeg = i) (hl : i < vs.length) : ¬ (j < 0 ∨ cl.slots.size ≤ j.toNatClampNeg) := by
  rw [e, hi]; intro q; rcases q with q | q
  · exact hj q
  · simp at q; omega
theorem own_stB (X : own_Sd p l e R s m args below meth c n0 T h C S) (hx : p.tables.exec = Jvm.exec) (hZ : Z.Warmed39 s.vm) (A : own_Ar Z h a .byte vs) {j x x' : Int32} (hj : ¬ j < 0) (hi : j.toNatClampNeg = i) (hl : i < vs.length) (hv : x.toInt8.toInt32 = x') (ga : n0 ≤ a) {g : JFrame} (hg : g.method = m) {rest : List Value} (hs : g.stack = .int x :: .int j :: .ref a :: rest) (hd : decode c.code g.pc = .ok (.bastore, 1))
    (k : ∀ T' h', own_Sd p l e R s m args below meth c n0 T' h' C S → Wr h h' a i (.int x') → own_Ar Z h' a .byte (vs.set i (.int x')) → own_Go p e below P (T'.setTop { g with pc := g.pc + 1, stack := rest })) : own_Go p e below P (T.setTop g) := by
  obtain ⟨L, X, N, eT, r1, r2⟩ := X
  have A0 := A
  obtain ⟨cl, A1, e1, hl1⟩ := A
  obtain ⟨T', h', X', e', W, st⟩ := stB X hx hZ eT A1 (own_inb e1 hj hi hl) hg hs hd
  have W' : Wr h h' a i (.int x') := by rw [← hi, ← hv]; exact W
  exact own_st st (k T' h' ⟨_, X', Fr.snoc X' N ga, e', r1, by rw [W.size]; exact r2⟩ W' (A0.set W'))
theorem own_stI (X : own_Sd p l e R s m args below meth c n0 T h C S) (hx : p.tables.exec = Jvm.exec) (hZ : Z.Warmed39 s.vm) (A : own_Ar Z h a .int vs) {j x : Int32} (hj : ¬ j < 0) (hi : j.toNatClampNeg = i) (hl : i < vs.length) (ga : n0 ≤ a) {g : JFrame} (hg : g.method = m) {rest : List Value} (hs : g.stack = .int x :: .int j :: .ref a :: rest) (hd : decode c.code g.pc = .ok (.iastore, 1))
    (k : ∀ T' h', own_Sd p l e R s m args below meth c n0 T' h' C S → Wr h h' a i (.int x) → own_Ar Z h' a .int (vs.set i (.int x)) → own_Go p e below P (T'.setTop { g with pc := g.pc + 1, stack := rest })) : own_Go p e below P (T.setTop g) := by
  obtain ⟨L, X, N, eT, r1, r2⟩ := X
  have A0 := A
  obtain ⟨cl, A1, e1, hl1⟩ := A
  obtain ⟨T', h', X', e', W, st⟩ := stI X hx hZ eT A1 (own_inb e1 hj hi hl) hg hs hd
  have W' : Wr h h' a i (.int x) := by rw [← hi]; exact W
  exact own_st st (k T' h' ⟨_, X', Fr.snoc X' N ga, e', r1, by rw [W.size]; exact r2⟩ W' (A0.set W'))
theorem own_stJ (X : own_Sd p l e R s m args below meth c n0 T h C S) (hx : p.tables.exec = Jvm.exec) (hZ : Z.Warmed39 s.vm) (A : own_Ar Z h a .long vs) {j : Int32} {x : Int64} (hj : ¬ j < 0) (hi : j.toNatClampNeg = i) (hl : i < vs.length) (ga : n0 ≤ a) {g : JFrame} (hg : g.method = m) {rest : List Value} (hs : g.stack = .long x :: .int j :: .ref a :: rest) (hd : decode c.code g.pc = .ok (.lastore, 1))
    (k : ∀ T' h', own_Sd p l e R s m args below meth c n0 T' h' C S → Wr h h' a i (.long x) → own_Ar Z h' a .long (vs.set i (.long x)) → own_Go p e below P (T'.setTop { g with pc := g.pc + 1, stack := rest })) : own_Go p e below P (T.setTop g) := by
  obtain ⟨L, X, N, eT, r1, r2⟩ := X
  have A0 := A
  obtain ⟨cl, A1, e1, hl1⟩ := A
  obtain ⟨T', h', X', e', W, st⟩ := stJ X hx hZ eT A1 (own_inb e1 hj hi hl) hg hs hd
  have W' : Wr h h' a i (.long x) := by rw [← hi]; exact W
  exact own_st st (k T' h' ⟨_, X', Fr.snoc X' N ga, e', r1, by rw [W.size]; exact r2⟩ W' (A0.set W'))
theorem own_at {cl : Cell} (e : cl.slots = vs.toArray) {j : Int32} (hi : j.toNatClampNeg = i) (hv : vs[i]? = some v) : cl.slots[j.toNatClampNeg]? = some v := by rw [e, hi]; simpa using hv
theorem own_ltl (hv : vs[i]? = some v) : i < vs.length := (List.getElem?_eq_some_iff.mp hv).1
theorem own_ldB (X : own_Sd p l e R s m args below meth c n0 T h C S) (hx : p.tables.exec = Jvm.exec) (hZ : Z.Warmed39 s.vm) (A : own_Ar Z h a .byte vs) {j : Int32} (hj : ¬ j < 0) (hi : j.toNatClampNeg = i) (hv : vs[i]? = some v) {g : JFrame} (hg : g.method = m) {rest : List Value} (hs : g.stack = .int j :: .ref a :: rest) (hd : decode c.code g.pc = .ok (.baload, 1))
    (k : own_Go p e below P (T.setTop { g with pc := g.pc + 1, stack := v :: rest })) : own_Go p e below P (T.setTop g) := by
  obtain ⟨L, X, N, eT, r⟩ := X
  obtain ⟨cl, A1, e1, hl1⟩ := A
  exact own_st (fun _ q => X.baloadBytes hx (by rw [eT]; exact A1.1) (State.isArrayOf_alike hZ.alike A1.2.1) A1.2.2 (own_inb e1 hj hi (own_ltl hv)) (own_at e1 hi hv) hg hs hd _ q) k
theorem own_ldI (X : own_Sd p l e R s m args below meth c n0 T h C S) (hx : p.tables.exec = Jvm.exec) (hZ : Z.Warmed39 s.vm) (A : own_Ar Z h a .int vs) {j : Int32} (hj : ¬ j < 0) (hi : j.toNatClampNeg = i) (hv : vs[i]? = some v) {g : JFrame} (hg : g.method = m) {rest : List Value} (hs : g.stack = .int j :: .ref a :: rest) (hd : decode c.code g.pc = .ok (.iaload, 1))
    (k : own_Go p e below P (T.setTop { g with pc := g.pc + 1, stack := v :: rest })) : own_Go p e below P (T.setTop g) := by
  obtain ⟨L, X, N, eT, r⟩ := X
  obtain ⟨cl, A1, e1, hl1⟩ := A
  exact own_st (fun _ q => X.iaload hx (by rw [eT]; exact A1.1) (State.isArrayOf_alike hZ.alike A1.2.1) A1.2.2 (own_inb e1 hj hi (own_ltl hv)) (own_at e1 hi hv) hg hs hd _ q) k
theorem own_ldJ (X : own_Sd p l e R s m args below meth c n0 T h C S) (hx : p.tables.exec = Jvm.exec) (hZ : Z.Warmed39 s.vm) (A : own_Ar Z h a .long vs) {j : Int32} (hj : ¬ j < 0) (hi : j.toNatClampNeg = i) (hv : vs[i]? = some v) {g : JFrame} (hg : g.method = m) {rest : List Value} (hs : g.stack = .int j :: .ref a :: rest) (hd : decode c.code g.pc = .ok (.laload, 1))
    (k : own_Go p e below P (T.setTop { g with pc := g.pc + 1, stack := v :: rest })) : own_Go p e below P (T.setTop g) := by
  obtain ⟨L, X, N, eT, r⟩ := X
  obtain ⟨cl, A1, e1, hl1⟩ := A
  exact own_st (fun _ q => X.laload hx (by rw [eT]; exact A1.1) (State.isArrayOf_alike hZ.alike A1.2.1) A1.2.2 (own_inb e1 hj hi (own_ltl hv)) (own_at e1 hi hv) hg hs hd _ q) k
theorem own_len (X : own_Sd p l e R s m args below meth c n0 T h C S) (hx : p.tables.exec = Jvm.exec) (hZ : Z.Warmed39 s.vm) (A : own_Ar Z h a ty vs) {z : Int32} (hz : vs.length.toInt32 = z) {g : JFrame} (hg : g.method = m) {rest : List Value} (hs : g.stack = .ref a :: rest) (hd : decode c.code g.pc = .ok (.arraylength, 1))
    (k : own_Go p e below P (T.setTop { g with pc := g.pc + 1, stack := .int z :: rest })) : own_Go p e below P (T.setTop g) := by
  obtain ⟨L, X, N, eT, r⟩ := X
  obtain ⟨cl, A1, e1, hl1⟩ := A
  have ez : cl.slots.size.toInt32 = z := by rw [e1, ← hz]; simp
  exact own_st (fun _ q => X.arraylength hx (by rw [eT]; exact A1.1) (State.isArrayOf_alike hZ.alike A1.2.1) hg hs hd _ (by rw [ez]; exact q)) k
theorem own_i8 (x : Int32) : x.toInt8.toInt32.toInt8.toInt32 = x.toInt8.toInt32 := by simp
end OwnA
section OwnT
variable {p : Program} {l : Launch} {e : Env} {R : Room} {s : State} {m : MethodId} {args : Array Value} {below : List Frame} {meth : Method} {c : Code} {T : State} {n0 C S : Nat} {Z : State} {a0 : Array Value} {h h' : Heap} {P : State → Outcome → Prop} {Q : Option Value → Heap → Prop} {a b : Addr} {ty : FieldType} {vs : List Value} {v : Value} {sl i : Nat}
variable {bytes : ByteArray} {maxL : Nat} {y : MethodName} {ret : Option FieldType} {pc : Nat} {Ls Ls' : Array Slot} {st : List Value}
theorem o_newP (cx : own_Cx p s m meth c Z bytes maxL y ret) (X : own_Sd p l e R s m args below meth c n0 T h C S) {aty : ArrayType} {n : Int32} (hd : decode bytes pc = .ok (.newarray aty, 2)) (w : (Jvm.Cond.arrayClass (newarray.typeOf aty)).before a0 Z = true) (hn : ¬ n < 0) (N cap : Nat) (hN : n.toNatClampNeg = N) (hcap : N ≤ cap) (hb8 : cap * 8 ≤ 536870912) (hc : C + 1 ≤ R.cells) (hl : S + cap ≤ R.slots) (k : ∀ T' h' b, b = h.size → n0 ≤ b → own_Sd p l e R s m args below meth c n0 T' h' (C + 1) (S + cap) → Ext h h' → own_Ar Z h' b (newarray.typeOf aty) (List.replicate N (defaultValue (newarray.typeOf aty))) → own_Go p e below P (T'.setTop (mkF m (pc + 2) Ls (.ref b :: st)))) : own_Go p e below P (T.setTop (mkF m pc Ls (.int n :: st))) := by
  obtain ⟨hx, hby, hml, hown, hnm, hret, hlk, hZ⟩ := cx
  exact own_newP X hx hZ w (g := mkF m pc Ls (.int n :: st)) rfl (hb hby hd) rfl hn hN hcap hb8 hc hl k
theorem o_stB (cx : own_Cx p s m meth c Z bytes maxL y ret) (X : own_Sd p l e R s m args below meth c n0 T h C S) {j : Int32} {x x' : Int32} (hd : decode bytes pc = .ok (.bastore, 1)) (A : own_Ar Z h a .byte vs) (i : Nat) (hj : ¬ j < 0) (hi : j.toNatClampNeg = i) (hl : i < vs.length) (hv : x.toInt8.toInt32 = x') (ga : n0 ≤ a) (k : ∀ T' h', own_Sd p l e R s m args below meth c n0 T' h' C S → Wr h h' a i (.int x') → own_Ar Z h' a .byte (vs.set i (.int x')) → own_Go p e below P (T'.setTop (mkF m (pc + 1) Ls st))) : own_Go p e below P (T.setTop (mkF m pc Ls (.int x :: .int j :: .ref a :: st))) := by
  obtain ⟨hx, hby, hml, hown, hnm, hret, hlk, hZ⟩ := cx
  exact own_stB X hx hZ A hj hi hl hv ga (g := mkF m pc Ls (.int x :: .int j :: .ref a :: st)) rfl rfl (hb hby hd) k
theorem o_stI (cx : own_Cx p s m meth c Z bytes maxL y ret) (X : own_Sd p l e R s m args below meth c n0 T h C S) {j : Int32} {x : Int32} (hd : decode bytes pc = .ok (.iastore, 1)) (A : own_Ar Z h a .int vs) (i : Nat) (hj : ¬ j < 0) (hi : j.toNatClampNeg = i) (hl : i < vs.length)  (ga : n0 ≤ a) (k : ∀ T' h', own_Sd p l e R s m args below meth c n0 T' h' C S → Wr h h' a i (.int x) → own_Ar Z h' a .int (vs.set i (.int x)) → own_Go p e below P (T'.setTop (mkF m (pc + 1) Ls st))) : own_Go p e below P (T.setTop (mkF m pc Ls (.int x :: .int j :: .ref a :: st))) := by
  obtain ⟨hx, hby, hml, hown, hnm, hret, hlk, hZ⟩ := cx
  exact own_stI X hx hZ A hj hi hl ga (g := mkF m pc Ls (.int x :: .int j :: .ref a :: st)) rfl rfl (hb hby hd) k
theorem o_stJ (cx : own_Cx p s m meth c Z bytes maxL y ret) (X : own_Sd p l e R s m args below meth c n0 T h C S) {j : Int32} {x : Int64} (hd : decode bytes pc = .ok (.lastore, 1)) (A : own_Ar Z h a .long vs) (i : Nat) (hj : ¬ j < 0) (hi : j.toNatClampNeg = i) (hl : i < vs.length)  (ga : n0 ≤ a) (k : ∀ T' h', own_Sd p l e R s m args below meth c n0 T' h' C S → Wr h h' a i (.long x) → own_Ar Z h' a .long (vs.set i (.long x)) → own_Go p e below P (T'.setTop (mkF m (pc + 1) Ls st))) : own_Go p e below P (T.setTop (mkF m pc Ls (.long x :: .int j :: .ref a :: st))) := by
  obtain ⟨hx, hby, hml, hown, hnm, hret, hlk, hZ⟩ := cx
  exact own_stJ X hx hZ A hj hi hl ga (g := mkF m pc Ls (.long x :: .int j :: .ref a :: st)) rfl rfl (hb hby hd) k
theorem o_ldB (cx : own_Cx p s m meth c Z bytes maxL y ret) (X : own_Sd p l e R s m args below meth c n0 T h C S) {j : Int32} (hd : decode bytes pc = .ok (.baload, 1)) (A : own_Ar Z h a .byte vs) (i : Nat) (hj : ¬ j < 0) (hi : j.toNatClampNeg = i) (hv : vs[i]? = some v) (k : own_Go p e below P (T.setTop (mkF m (pc + 1) Ls (v :: st)))) : own_Go p e below P (T.setTop (mkF m pc Ls (.int j :: .ref a :: st))) := by
  obtain ⟨hx, hby, hml, hown, hnm, hret, hlk, hZ⟩ := cx
  exact own_ldB X hx hZ A hj hi hv (g := mkF m pc Ls (.int j :: .ref a :: st)) rfl rfl (hb hby hd) k
theorem o_ldI (cx : own_Cx p s m meth c Z bytes maxL y ret) (X : own_Sd p l e R s m args below meth c n0 T h C S) {j : Int32} (hd : decode bytes pc = .ok (.iaload, 1)) (A : own_Ar Z h a .int vs) (i : Nat) (hj : ¬ j < 0) (hi : j.toNatClampNeg = i) (hv : vs[i]? = some v) (k : own_Go p e below P (T.setTop (mkF m (pc + 1) Ls (v :: st)))) : own_Go p e below P (T.setTop (mkF m pc Ls (.int j :: .ref a :: st))) := by
  obtain ⟨hx, hby, hml, hown, hnm, hret, hlk, hZ⟩ := cx
  exact own_ldI X hx hZ A hj hi hv (g := mkF m pc Ls (.int j :: .ref a :: st)) rfl rfl (hb hby hd) k
theorem o_ldJ (cx : own_Cx p s m meth c Z bytes maxL y ret) (X : own_Sd p l e R s m args below meth c n0 T h C S) {j : Int32} (hd : decode bytes pc = .ok (.laload, 1)) (A : own_Ar Z h a .long vs) (i : Nat) (hj : ¬ j < 0) (hi : j.toNatClampNeg = i) (hv : vs[i]? = some v) (k : own_Go p e below P (T.setTop (mkF m (pc + 1) Ls (v :: st)))) : own_Go p e below P (T.setTop (mkF m pc Ls (.int j :: .ref a :: st))) := by
  obtain ⟨hx, hby, hml, hown, hnm, hret, hlk, hZ⟩ := cx
  exact own_ldJ X hx hZ A hj hi hv (g := mkF m pc Ls (.int j :: .ref a :: st)) rfl rfl (hb hby hd) k
theorem o_len (cx : own_Cx p s m meth c Z bytes maxL y ret) (X : own_Sd p l e R s m args below meth c n0 T h C S) {z : Int32} (hd : decode bytes pc = .ok (.arraylength, 1)) (A : own_Ar Z h a ty vs) (hz : vs.length.toInt32 = z) (k : own_Go p e below P (T.setTop (mkF m (pc + 1) Ls (.int z :: st)))) : own_Go p e below P (T.setTop (mkF m pc Ls (.ref a :: st))) := by
  obtain ⟨hx, hby, hml, hown, hnm, hret, hlk, hZ⟩ := cx
  exact own_len X hx hZ A hz (g := mkF m pc Ls (.ref a :: st)) rfl rfl (hb hby hd) k
end OwnT
theorem own_or6 (y z : Int32) (h1 : 0 ≤ y.toInt) (h2 : y.toInt < 16777216) (h3 : 0 ≤ z.toInt) (h4 : z.toInt < 64) : ((y <<< ((6 : Int32) &&& 31)) ||| z).toInt = y.toInt * 64 + z.toInt := by
  have ey : y.toInt = (y.toBitVec.toNat : Int) := by
    have := y.toBitVec.isLt
    have q : y.toInt = y.toBitVec.toInt := rfl
    rw [q, BitVec.toInt_eq_toNat_cond] at h1 ⊢; split at h1 <;> split <;> omega
  have ez : z.toInt = (z.toBitVec.toNat : Int) := by
    have := z.toBitVec.isLt
    have q : z.toInt = z.toBitVec.toInt := rfl
    rw [q, BitVec.toInt_eq_toNat_cond] at h3 ⊢; split at h3 <;> split <;> omega
  have hs : ((y <<< ((6 : Int32) &&& 31)) ||| z).toBitVec = (y.toBitVec <<< 6) ||| z.toBitVec := rfl
  have hn : ((y.toBitVec <<< 6) ||| z.toBitVec).toNat = y.toBitVec.toNat * 64 + z.toBitVec.toNat := by
    rw [BitVec.toNat_or, BitVec.toNat_shiftLeft, Nat.shiftLeft_eq, Nat.mod_eq_of_lt (by omega), ← Nat.shiftLeft_eq, ← Nat.shiftLeft_add_eq_or_of_lt (by omega), Nat.shiftLeft_eq]
  show ((y <<< ((6 : Int32) &&& 31)) ||| z).toBitVec.toInt = _
  rw [hs, BitVec.toInt_eq_toNat_cond, hn, if_pos (by omega), ey, ez]; omega
theorem own_b6 (y : Int32) : (y.toInt8.toInt32 &&& (63 : Int32)).toInt = y.toInt % 64 := by
  have e : (y.toInt8.toInt32 &&& (63 : Int32)).toInt = y.toInt8.toInt32.toInt % 64 := c_mask _ 63 6 (by decide) (by decide)
  have e3 := c_i2b y
  rw [e]; omega
theorem own_pin2 (p0 p1 p2 p3 : Int32) : ((((p0.toInt8.toInt32) &&& (31 : Int32)) <<< ((6 : Int32) &&& 31)) ||| ((p1.toInt8.toInt32) &&& (63 : Int32))) = ((((p0 &&& (255 : Int32)) &&& (31 : Int32)) * (64 : Int32)) + (p1 &&& (63 : Int32))) := by
  have m0 : (p0.toInt8.toInt32 &&& (31 : Int32)).toInt = p0.toInt8.toInt32.toInt % 32 := c_mask _ 31 5 (by decide) (by decide)
  have q0 := c_i2b p0
  have c0 : (p0 &&& (255 : Int32)).toInt = p0.toInt % 256 := c_mask _ 255 8 (by decide) (by decide)
  have c0' : ((p0 &&& (255 : Int32)) &&& (31 : Int32)).toInt = (p0 &&& (255 : Int32)).toInt % 32 := c_mask _ 31 5 (by decide) (by decide)
  have m1 := own_b6 p1
  have c1 : (p1 &&& (63 : Int32)).toInt = p1.toInt % 64 := c_mask _ 63 6 (by decide) (by decide)
  have o1 := own_or6 (p0.toInt8.toInt32 &&& (31 : Int32)) (p1.toInt8.toInt32 &&& (63 : Int32)) (by omega) (by omega) (by omega) (by omega)
  have l64 : (64 : Int32).toInt = 64 := by decide
  have l4096 : (4096 : Int32).toInt = 4096 := by decide
  have l262144 : (262144 : Int32).toInt = 262144 := by decide
  apply Int32.toInt_inj.mp
  have r := rng32 ((((p0 &&& (255 : Int32)) &&& (31 : Int32)) * (64 : Int32)) + (p1 &&& (63 : Int32)))
  simp only [Int32.toInt_add, Int32.toInt_mul, l64, l4096, l262144, c0', c0, c1] at r ⊢
  rw [o1]
  simp only [Int.bmod_def] at *
  omega
theorem own_pin3 (p0 p1 p2 p3 : Int32) : ((((((p0.toInt8.toInt32) &&& (15 : Int32)) <<< ((6 : Int32) &&& 31)) ||| ((p1.toInt8.toInt32) &&& (63 : Int32))) <<< ((6 : Int32) &&& 31)) ||| ((p2.toInt8.toInt32) &&& (63 : Int32))) = (((((p0 &&& (255 : Int32)) &&& (15 : Int32)) * (4096 : Int32)) + ((p1 &&& (63 : Int32)) * (64 : Int32))) + (p2 &&& (63 : Int32))) := by
  have m0 : (p0.toInt8.toInt32 &&& (15 : Int32)).toInt = p0.toInt8.toInt32.toInt % 16 := c_mask _ 15 4 (by decide) (by decide)
  have q0 := c_i2b p0
  have c0 : (p0 &&& (255 : Int32)).toInt = p0.toInt % 256 := c_mask _ 255 8 (by decide) (by decide)
  have c0' : ((p0 &&& (255 : Int32)) &&& (15 : Int32)).toInt = (p0 &&& (255 : Int32)).toInt % 16 := c_mask _ 15 4 (by decide) (by decide)
  have m1 := own_b6 p1
  have c1 : (p1 &&& (63 : Int32)).toInt = p1.toInt % 64 := c_mask _ 63 6 (by decide) (by decide)
  have m2 := own_b6 p2
  have c2 : (p2 &&& (63 : Int32)).toInt = p2.toInt % 64 := c_mask _ 63 6 (by decide) (by decide)
  have o1 := own_or6 (p0.toInt8.toInt32 &&& (15 : Int32)) (p1.toInt8.toInt32 &&& (63 : Int32)) (by omega) (by omega) (by omega) (by omega)
  have o2 := own_or6 (((p0.toInt8.toInt32 &&& (15 : Int32)) <<< ((6 : Int32) &&& 31)) ||| (p1.toInt8.toInt32 &&& (63 : Int32))) (p2.toInt8.toInt32 &&& (63 : Int32)) (by omega) (by omega) (by omega) (by omega)
  have l64 : (64 : Int32).toInt = 64 := by decide
  have l4096 : (4096 : Int32).toInt = 4096 := by decide
  have l262144 : (262144 : Int32).toInt = 262144 := by decide
  apply Int32.toInt_inj.mp
  have r := rng32 (((((p0 &&& (255 : Int32)) &&& (15 : Int32)) * (4096 : Int32)) + ((p1 &&& (63 : Int32)) * (64 : Int32))) + (p2 &&& (63 : Int32)))
  simp only [Int32.toInt_add, Int32.toInt_mul, l64, l4096, l262144, c0', c0, c1, c2] at r ⊢
  rw [o2]
  simp only [Int.bmod_def] at *
  omega
theorem own_pin4 (p0 p1 p2 p3 : Int32) : ((((((((p0.toInt8.toInt32) &&& (7 : Int32)) <<< ((6 : Int32) &&& 31)) ||| ((p1.toInt8.toInt32) &&& (63 : Int32))) <<< ((6 : Int32) &&& 31)) ||| ((p2.toInt8.toInt32) &&& (63 : Int32))) <<< ((6 : Int32) &&& 31)) ||| ((p3.toInt8.toInt32) &&& (63 : Int32))) = ((((((p0 &&& (255 : Int32)) &&& (7 : Int32)) * (262144 : Int32)) + ((p1 &&& (63 : Int32)) * (4096 : Int32))) + ((p2 &&& (63 : Int32)) * (64 : Int32))) + (p3 &&& (63 : Int32))) := by
  have m0 : (p0.toInt8.toInt32 &&& (7 : Int32)).toInt = p0.toInt8.toInt32.toInt % 8 := c_mask _ 7 3 (by decide) (by decide)
  have q0 := c_i2b p0
  have c0 : (p0 &&& (255 : Int32)).toInt = p0.toInt % 256 := c_mask _ 255 8 (by decide) (by decide)
  have c0' : ((p0 &&& (255 : Int32)) &&& (7 : Int32)).toInt = (p0 &&& (255 : Int32)).toInt % 8 := c_mask _ 7 3 (by decide) (by decide)
  have m1 := own_b6 p1
  have c1 : (p1 &&& (63 : Int32)).toInt = p1.toInt % 64 := c_mask _ 63 6 (by decide) (by decide)
  have m2 := own_b6 p2
  have c2 : (p2 &&& (63 : Int32)).toInt = p2.toInt % 64 := c_mask _ 63 6 (by decide) (by decide)
  have m3 := own_b6 p3
  have c3 : (p3 &&& (63 : Int32)).toInt = p3.toInt % 64 := c_mask _ 63 6 (by decide) (by decide)
  have o1 := own_or6 (p0.toInt8.toInt32 &&& (7 : Int32)) (p1.toInt8.toInt32 &&& (63 : Int32)) (by omega) (by omega) (by omega) (by omega)
  have o2 := own_or6 (((p0.toInt8.toInt32 &&& (7 : Int32)) <<< ((6 : Int32) &&& 31)) ||| (p1.toInt8.toInt32 &&& (63 : Int32))) (p2.toInt8.toInt32 &&& (63 : Int32)) (by omega) (by omega) (by omega) (by omega)
  have o3 := own_or6 (((((p0.toInt8.toInt32 &&& (7 : Int32)) <<< ((6 : Int32) &&& 31)) ||| (p1.toInt8.toInt32 &&& (63 : Int32))) <<< ((6 : Int32) &&& 31)) ||| (p2.toInt8.toInt32 &&& (63 : Int32))) (p3.toInt8.toInt32 &&& (63 : Int32)) (by omega) (by omega) (by omega) (by omega)
  have l64 : (64 : Int32).toInt = 64 := by decide
  have l4096 : (4096 : Int32).toInt = 4096 := by decide
  have l262144 : (262144 : Int32).toInt = 262144 := by decide
  apply Int32.toInt_inj.mp
  have r := rng32 ((((((p0 &&& (255 : Int32)) &&& (7 : Int32)) * (262144 : Int32)) + ((p1 &&& (63 : Int32)) * (4096 : Int32))) + ((p2 &&& (63 : Int32)) * (64 : Int32))) + (p3 &&& (63 : Int32)))
  simp only [Int32.toInt_add, Int32.toInt_mul, l64, l4096, l262144, c0', c0, c1, c2, c3] at r ⊢
  rw [o3]
  simp only [Int.bmod_def] at *
  omega
theorem own_and3 (y : Int32) : ((2 : Int32) + ((y &&& (3 : Int32)) % (3 : Int32))) = (2 : Int32) ∨ ((2 : Int32) + ((y &&& (3 : Int32)) % (3 : Int32))) = (3 : Int32) ∨ ((2 : Int32) + ((y &&& (3 : Int32)) % (3 : Int32))) = (4 : Int32) := by
  have e : (y &&& (3 : Int32)).toInt = y.toInt % 4 := c_mask y 3 2 (by decide) (by decide)
  have h : 0 ≤ (y &&& (3 : Int32)).toInt := by omega
  generalize (y &&& (3 : Int32)) = z at *
  have e1 := (c_irem z 3 3 (by decide)).1 h
  have e2 := c_iadd 2 (z % 3)
  have l2 : (2 : Int32).toInt = 2 := by decide
  have l3 : (3 : Int32).toInt = 3 := by decide
  have l4 : (4 : Int32).toInt = 4 := by decide
  have r := rng32 ((2 : Int32) + (z % (3 : Int32)))
  rw [l2] at e2
  simp only [← Int32.toInt_inj, l2, l3, l4]; omega
theorem own_at5 (y : Int32) : (((y.toUInt32 >>> ((2 : Int32) &&& 31).toUInt32).toInt32) % (5 : Int32)) = (0 : Int32) ∨ (((y.toUInt32 >>> ((2 : Int32) &&& 31).toUInt32).toInt32) % (5 : Int32)) = (1 : Int32) ∨ (((y.toUInt32 >>> ((2 : Int32) &&& 31).toUInt32).toInt32) % (5 : Int32)) = (2 : Int32) ∨ (((y.toUInt32 >>> ((2 : Int32) &&& 31).toUInt32).toInt32) % (5 : Int32)) = (3 : Int32) ∨ (((y.toUInt32 >>> ((2 : Int32) &&& 31).toUInt32).toInt32) % (5 : Int32)) = (4 : Int32) := by
  have h : 0 ≤ ((y.toUInt32 >>> ((2 : Int32) &&& 31).toUInt32).toInt32).toInt := by
    rw [c_iushr y 2 2 (by decide) (by decide)]; have := rng32 y; omega
  generalize ((y.toUInt32 >>> ((2 : Int32) &&& 31).toUInt32).toInt32) = z at *
  have e := (c_irem z 5 5 (by decide)).1 h
  have e0 : (0 : Int32).toInt = 0 := by decide
  have e1 : (1 : Int32).toInt = 1 := by decide
  have e2 : (2 : Int32).toInt = 2 := by decide
  have e3 : (3 : Int32).toInt = 3 := by decide
  have e4 : (4 : Int32).toInt = 4 := by decide
  simp only [← Int32.toInt_inj, e, e0, e1, e2, e3, e4]; omega
theorem d1_0 : decode prog_18_method_4_code 0 = .ok (.aload_n 0, 1) := by decide +kernel
theorem d1_1 : decode prog_18_method_4_code 1 = .ok (.iload_n 1, 1) := by decide +kernel
theorem d1_2 : decode prog_18_method_4_code 2 = .ok (.baload, 1) := by decide +kernel
theorem d1_3 : decode prog_18_method_4_code 3 = .ok (.sipush 255, 3) := by decide +kernel
theorem d1_6 : decode prog_18_method_4_code 6 = .ok (.iload_n 2, 1) := by decide +kernel
theorem d1_7 : decode prog_18_method_4_code 7 = .ok (.iconst 1, 1) := by decide +kernel
theorem d1_8 : decode prog_18_method_4_code 8 = .ok (.iadd, 1) := by decide +kernel
theorem d1_9 : decode prog_18_method_4_code 9 = .ok (.ishr, 1) := by decide +kernel
theorem d1_10 : decode prog_18_method_4_code 10 = .ok (.iand, 1) := by decide +kernel
theorem d1_11 : decode prog_18_method_4_code 11 = .ok (.istore_n 3, 1) := by decide +kernel
theorem d1_12 : decode prog_18_method_4_code 12 = .ok (.iconst 1, 1) := by decide +kernel
theorem d1_13 : decode prog_18_method_4_code 13 = .ok (.istore 4, 2) := by decide +kernel
theorem d1_15 : decode prog_18_method_4_code 15 = .ok (.iload 4, 2) := by decide +kernel
theorem d1_17 : decode prog_18_method_4_code 17 = .ok (.iload_n 2, 1) := by decide +kernel
theorem d1_18 : decode prog_18_method_4_code 18 = .ok (.if_icmp .ge 24, 3) := by decide +kernel
theorem d1_21 : decode prog_18_method_4_code 21 = .ok (.iload_n 3, 1) := by decide +kernel
theorem d1_22 : decode prog_18_method_4_code 22 = .ok (.bipush 6, 2) := by decide +kernel
theorem d1_24 : decode prog_18_method_4_code 24 = .ok (.ishl, 1) := by decide +kernel
theorem d1_25 : decode prog_18_method_4_code 25 = .ok (.aload_n 0, 1) := by decide +kernel
theorem d1_26 : decode prog_18_method_4_code 26 = .ok (.iload_n 1, 1) := by decide +kernel
theorem d1_27 : decode prog_18_method_4_code 27 = .ok (.iload 4, 2) := by decide +kernel
theorem d1_29 : decode prog_18_method_4_code 29 = .ok (.iadd, 1) := by decide +kernel
theorem d1_30 : decode prog_18_method_4_code 30 = .ok (.baload, 1) := by decide +kernel
theorem d1_31 : decode prog_18_method_4_code 31 = .ok (.bipush 63, 2) := by decide +kernel
theorem d1_33 : decode prog_18_method_4_code 33 = .ok (.iand, 1) := by decide +kernel
theorem d1_34 : decode prog_18_method_4_code 34 = .ok (.ior, 1) := by decide +kernel
theorem d1_35 : decode prog_18_method_4_code 35 = .ok (.istore_n 3, 1) := by decide +kernel
theorem d1_36 : decode prog_18_method_4_code 36 = .ok (.iinc 4 1, 3) := by decide +kernel
theorem d1_39 : decode prog_18_method_4_code 39 = .ok (.goto (-24), 3) := by decide +kernel
theorem d1_42 : decode prog_18_method_4_code 42 = .ok (.iload_n 3, 1) := by decide +kernel
theorem d1_43 : decode prog_18_method_4_code 43 = .ok (.ireturn, 1) := by decide +kernel
theorem pn_1 : plainName "com/example/vestwright/vestwright/io/Utf8" = true := by first | (simp [plainName, overriddenIn]; done) | decide +kernel
theorem ef_rm1_2 (m : MethodId) (aa : Addr) (jj : Int32) : entryFrame m #[(.ref aa), (.int jj), (.int (2 : Int32))] 5 = mkF m 0 #[.val (.ref aa), .val (.int jj), .val (.int (2 : Int32)), .unset, .unset] [] := by first | (simp [entryFrame, mkF, argsToLocals, Value.category]; done) | rfl
set_option maxRecDepth 65536 in
set_option maxHeartbeats 40000000 in
theorem rm1_2 (l : Launch) (Z : State) (a0 : Array Value) (hw : ∀ d ∈ tables_1, d.before a0 Z = true) (aa : Addr) (jj : Int32) (vs : List Value) (k0 : Nat) (k1 : Nat) (b0 : Int32) (b1 : Int32) (h0 : Heap) (n0 : Nat) (Z0 : n0 ≤ h0.size) (A0 : own_Ar Z h0 aa .byte vs) (hj0 : ¬ jj < 0) (hi0 : jj.toNatClampNeg = k0) (hv0 : vs[k0]? = some (.int b0)) (hj1 : ¬ (jj + (1 : Int32)) < 0) (hi1 : (jj + (1 : Int32)).toNatClampNeg = k1) (hv1 : vs[k1]? = some (.int b1)) :
    own_Met l Z (⟨"com/example/vestwright/vestwright/io/Utf8", "codePoint", "([BII)I"⟩ : MethodName) prog_18_method_4_code 5 (some .int) ({ frames := 0, cells := 0, slots := 0, locals := 0 } : Room) #[(.ref aa), (.int jj), (.int (2 : Int32))] h0 n0 (fun v' h' => v' = some (.int (((b0 &&& (31 : Int32)) <<< ((6 : Int32) &&& 31)) ||| (b1 &&& (63 : Int32)))) ∧ h' = h0) := by
  refine own_body (plainFor_of_name pn_1) (fun m => ef_rm1_2 m aa jj) Z0 ?_
  intro p e s m below meth c T0 cx X0
  show own_Go p e below _ (T0.setTop (mkF m 0 #[.val (.ref aa), .val (.int jj), .val (.int (2 : Int32)), .unset, .unset] []))
  refine o_aloadN cx X0 d1_0 rfl rfl ?_
  refine o_iloadN cx X0 d1_1 rfl ?_
  refine o_ldB cx X0 (v := (.int b0)) d1_2 A0 k0 hj0 hi0 hv0 ?_
  refine o_sipush cx X0 (z := (255 : Int32)) d1_3 rfl ?_
  refine o_iloadN cx X0 d1_6 rfl ?_
  refine o_iconst cx X0 (z := (1 : Int32)) d1_7 rfl ?_
  refine o_iadd cx X0 (z := (3 : Int32)) d1_8 rfl ?_
  refine o_ishr cx X0 (z := (31 : Int32)) d1_9 rfl ?_
  refine o_iand cx X0 d1_10 rfl ?_
  refine o_istoreN cx X0 (Ls' := #[.val (.ref aa), .val (.int jj), .val (.int (2 : Int32)), .val (.int (b0 &&& (31 : Int32))), .unset]) d1_11 rfl ?_
  refine o_iconst cx X0 (z := (1 : Int32)) d1_12 rfl ?_
  refine o_istore cx X0 (Ls' := #[.val (.ref aa), .val (.int jj), .val (.int (2 : Int32)), .val (.int (b0 &&& (31 : Int32))), .val (.int (1 : Int32))]) d1_13 rfl ?_
  refine o_iload cx X0 d1_15 rfl ?_
  refine o_iloadN cx X0 d1_17 rfl ?_
  refine o_icmpNo cx X0 d1_18 (by decide) ?_
  refine o_iloadN cx X0 d1_21 rfl ?_
  refine o_bipush cx X0 (z := (6 : Int32)) d1_22 rfl ?_
  refine o_ishl cx X0 d1_24 rfl ?_
  refine o_aloadN cx X0 d1_25 rfl rfl ?_
  refine o_iloadN cx X0 d1_26 rfl ?_
  refine o_iload cx X0 d1_27 rfl ?_
  refine o_iadd cx X0 d1_29 rfl ?_
  refine o_ldB cx X0 (v := (.int b1)) d1_30 A0 k1 hj1 hi1 hv1 ?_
  refine o_bipush cx X0 (z := (63 : Int32)) d1_31 rfl ?_
  refine o_iand cx X0 d1_33 rfl ?_
  refine o_ior cx X0 d1_34 rfl ?_
  refine o_istoreN cx X0 (Ls' := #[.val (.ref aa), .val (.int jj), .val (.int (2 : Int32)), .val (.int (((b0 &&& (31 : Int32)) <<< ((6 : Int32) &&& 31)) ||| (b1 &&& (63 : Int32)))), .val (.int (1 : Int32))]) d1_35 rfl ?_
  refine o_iinc cx X0 (z := (2 : Int32)) (Ls' := #[.val (.ref aa), .val (.int jj), .val (.int (2 : Int32)), .val (.int (((b0 &&& (31 : Int32)) <<< ((6 : Int32) &&& 31)) ||| (b1 &&& (63 : Int32)))), .val (.int (2 : Int32))]) d1_36 rfl rfl rfl ?_
  refine o_goto cx X0 15 d1_39 (by decide) (by decide) ?_
  refine o_iload cx X0 d1_15 rfl ?_
  refine o_iloadN cx X0 d1_17 rfl ?_
  refine o_icmpYes cx X0 42 d1_18 (by decide) (by decide) (by decide) ?_
  refine o_iloadN cx X0 d1_42 rfl ?_
  exact o_retI cx X0 d1_43 ⟨rfl, rfl⟩ (by decide) (by decide)
theorem ef_rm1_3 (m : MethodId) (aa : Addr) (jj : Int32) : entryFrame m #[(.ref aa), (.int jj), (.int (3 : Int32))] 5 = mkF m 0 #[.val (.ref aa), .val (.int jj), .val (.int (3 : Int32)), .unset, .unset] [] := by first | (simp [entryFrame, mkF, argsToLocals, Value.category]; done) | rfl
set_option maxRecDepth 65536 in
set_option maxHeartbeats 40000000 in
theorem rm1_3 (l : Launch) (Z : State) (a0 : Array Value) (hw : ∀ d ∈ tables_1, d.before a0 Z = true) (aa : Addr) (jj : Int32) (vs : List Value) (k0 : Nat) (k1 : Nat) (k2 : Nat) (b0 : Int32) (b1 : Int32) (b2 : Int32) (h0 : Heap) (n0 : Nat) (Z0 : n0 ≤ h0.size) (A0 : own_Ar Z h0 aa .byte vs) (hj0 : ¬ jj < 0) (hi0 : jj.toNatClampNeg = k0) (hv0 : vs[k0]? = some (.int b0)) (hj1 : ¬ (jj + (1 : Int32)) < 0) (hi1 : (jj + (1 : Int32)).toNatClampNeg = k1) (hv1 : vs[k1]? = some (.int b1)) (hj2 : ¬ (jj + (2 : Int32)) < 0) (hi2 : (jj + (2 : Int32)).toNatClampNeg = k2) (hv2 : vs[k2]? = some (.int b2)) :
    own_Met l Z (⟨"com/example/vestwright/vestwright/io/Utf8", "codePoint", "([BII)I"⟩ : MethodName) prog_18_method_4_code 5 (some .int) ({ frames := 0, cells := 0, slots := 0, locals := 0 } : Room) #[(.ref aa), (.int jj), (.int (3 : Int32))] h0 n0 (fun v' h' => v' = some (.int (((((b0 &&& (15 : Int32)) <<< ((6 : Int32) &&& 31)) ||| (b1 &&& (63 : Int32))) <<< ((6 : Int32) &&& 31)) ||| (b2 &&& (63 : Int32)))) ∧ h' = h0) := by
  refine own_body (plainFor_of_name pn_1) (fun m => ef_rm1_3 m aa jj) Z0 ?_
  intro p e s m below meth c T0 cx X0
  show own_Go p e below _ (T0.setTop (mkF m 0 #[.val (.ref aa), .val (.int jj), .val (.int (3 : Int32)), .unset, .unset] []))
  refine o_aloadN cx X0 d1_0 rfl rfl ?_
  refine o_iloadN cx X0 d1_1 rfl ?_
  refine o_ldB cx X0 (v := (.int b0)) d1_2 A0 k0 hj0 hi0 hv0 ?_
  refine o_sipush cx X0 (z := (255 : Int32)) d1_3 rfl ?_
  refine o_iloadN cx X0 d1_6 rfl ?_
  refine o_iconst cx X0 (z := (1 : Int32)) d1_7 rfl ?_
  refine o_iadd cx X0 (z := (4 : Int32)) d1_8 rfl ?_
  refine o_ishr cx X0 (z := (15 : Int32)) d1_9 rfl ?_
  refine o_iand cx X0 d1_10 rfl ?_
  refine o_istoreN cx X0 (Ls' := #[.val (.ref aa), .val (.int jj), .val (.int (3 : Int32)), .val (.int (b0 &&& (15 : Int32))), .unset]) d1_11 rfl ?_
  refine o_iconst cx X0 (z := (1 : Int32)) d1_12 rfl ?_
  refine o_istore cx X0 (Ls' := #[.val (.ref aa), .val (.int jj), .val (.int (3 : Int32)), .val (.int (b0 &&& (15 : Int32))), .val (.int (1 : Int32))]) d1_13 rfl ?_
  refine o_iload cx X0 d1_15 rfl ?_
  refine o_iloadN cx X0 d1_17 rfl ?_
  refine o_icmpNo cx X0 d1_18 (by decide) ?_
  refine o_iloadN cx X0 d1_21 rfl ?_
  refine o_bipush cx X0 (z := (6 : Int32)) d1_22 rfl ?_
  refine o_ishl cx X0 d1_24 rfl ?_
  refine o_aloadN cx X0 d1_25 rfl rfl ?_
  refine o_iloadN cx X0 d1_26 rfl ?_
  refine o_iload cx X0 d1_27 rfl ?_
  refine o_iadd cx X0 d1_29 rfl ?_
  refine o_ldB cx X0 (v := (.int b1)) d1_30 A0 k1 hj1 hi1 hv1 ?_
  refine o_bipush cx X0 (z := (63 : Int32)) d1_31 rfl ?_
  refine o_iand cx X0 d1_33 rfl ?_
  refine o_ior cx X0 d1_34 rfl ?_
  refine o_istoreN cx X0 (Ls' := #[.val (.ref aa), .val (.int jj), .val (.int (3 : Int32)), .val (.int (((b0 &&& (15 : Int32)) <<< ((6 : Int32) &&& 31)) ||| (b1 &&& (63 : Int32)))), .val (.int (1 : Int32))]) d1_35 rfl ?_
  refine o_iinc cx X0 (z := (2 : Int32)) (Ls' := #[.val (.ref aa), .val (.int jj), .val (.int (3 : Int32)), .val (.int (((b0 &&& (15 : Int32)) <<< ((6 : Int32) &&& 31)) ||| (b1 &&& (63 : Int32)))), .val (.int (2 : Int32))]) d1_36 rfl rfl rfl ?_
  refine o_goto cx X0 15 d1_39 (by decide) (by decide) ?_
  refine o_iload cx X0 d1_15 rfl ?_
  refine o_iloadN cx X0 d1_17 rfl ?_
  refine o_icmpNo cx X0 d1_18 (by decide) ?_
  refine o_iloadN cx X0 d1_21 rfl ?_
  refine o_bipush cx X0 (z := (6 : Int32)) d1_22 rfl ?_
  refine o_ishl cx X0 d1_24 rfl ?_
  refine o_aloadN cx X0 d1_25 rfl rfl ?_
  refine o_iloadN cx X0 d1_26 rfl ?_
  refine o_iload cx X0 d1_27 rfl ?_
  refine o_iadd cx X0 d1_29 rfl ?_
  refine o_ldB cx X0 (v := (.int b2)) d1_30 A0 k2 hj2 hi2 hv2 ?_
  refine o_bipush cx X0 (z := (63 : Int32)) d1_31 rfl ?_
  refine o_iand cx X0 d1_33 rfl ?_
  refine o_ior cx X0 d1_34 rfl ?_
  refine o_istoreN cx X0 (Ls' := #[.val (.ref aa), .val (.int jj), .val (.int (3 : Int32)), .val (.int (((((b0 &&& (15 : Int32)) <<< ((6 : Int32) &&& 31)) ||| (b1 &&& (63 : Int32))) <<< ((6 : Int32) &&& 31)) ||| (b2 &&& (63 : Int32)))), .val (.int (2 : Int32))]) d1_35 rfl ?_
  refine o_iinc cx X0 (z := (3 : Int32)) (Ls' := #[.val (.ref aa), .val (.int jj), .val (.int (3 : Int32)), .val (.int (((((b0 &&& (15 : Int32)) <<< ((6 : Int32) &&& 31)) ||| (b1 &&& (63 : Int32))) <<< ((6 : Int32) &&& 31)) ||| (b2 &&& (63 : Int32)))), .val (.int (3 : Int32))]) d1_36 rfl rfl rfl ?_
  refine o_goto cx X0 15 d1_39 (by decide) (by decide) ?_
  refine o_iload cx X0 d1_15 rfl ?_
  refine o_iloadN cx X0 d1_17 rfl ?_
  refine o_icmpYes cx X0 42 d1_18 (by decide) (by decide) (by decide) ?_
  refine o_iloadN cx X0 d1_42 rfl ?_
  exact o_retI cx X0 d1_43 ⟨rfl, rfl⟩ (by decide) (by decide)
theorem ef_rm1_4 (m : MethodId) (aa : Addr) (jj : Int32) : entryFrame m #[(.ref aa), (.int jj), (.int (4 : Int32))] 5 = mkF m 0 #[.val (.ref aa), .val (.int jj), .val (.int (4 : Int32)), .unset, .unset] [] := by first | (simp [entryFrame, mkF, argsToLocals, Value.category]; done) | rfl
set_option maxRecDepth 65536 in
set_option maxHeartbeats 40000000 in
theorem rm1_4 (l : Launch) (Z : State) (a0 : Array Value) (hw : ∀ d ∈ tables_1, d.before a0 Z = true) (aa : Addr) (jj : Int32) (vs : List Value) (k0 : Nat) (k1 : Nat) (k2 : Nat) (k3 : Nat) (b0 : Int32) (b1 : Int32) (b2 : Int32) (b3 : Int32) (h0 : Heap) (n0 : Nat) (Z0 : n0 ≤ h0.size) (A0 : own_Ar Z h0 aa .byte vs) (hj0 : ¬ jj < 0) (hi0 : jj.toNatClampNeg = k0) (hv0 : vs[k0]? = some (.int b0)) (hj1 : ¬ (jj + (1 : Int32)) < 0) (hi1 : (jj + (1 : Int32)).toNatClampNeg = k1) (hv1 : vs[k1]? = some (.int b1)) (hj2 : ¬ (jj + (2 : Int32)) < 0) (hi2 : (jj + (2 : Int32)).toNatClampNeg = k2) (hv2 : vs[k2]? = some (.int b2)) (hj3 : ¬ (jj + (3 : Int32)) < 0) (hi3 : (jj + (3 : Int32)).toNatClampNeg = k3) (hv3 : vs[k3]? = some (.int b3)) :
    own_Met l Z (⟨"com/example/vestwright/vestwright/io/Utf8", "codePoint", "([BII)I"⟩ : MethodName) prog_18_method_4_code 5 (some .int) ({ frames := 0, cells := 0, slots := 0, locals := 0 } : Room) #[(.ref aa), (.int jj), (.int (4 : Int32))] h0 n0 (fun v' h' => v' = some (.int (((((((b0 &&& (7 : Int32)) <<< ((6 : Int32) &&& 31)) ||| (b1 &&& (63 : Int32))) <<< ((6 : Int32) &&& 31)) ||| (b2 &&& (63 : Int32))) <<< ((6 : Int32) &&& 31)) ||| (b3 &&& (63 : Int32)))) ∧ h' = h0) := by
  refine own_body (plainFor_of_name pn_1) (fun m => ef_rm1_4 m aa jj) Z0 ?_
  intro p e s m below meth c T0 cx X0
  show own_Go p e below _ (T0.setTop (mkF m 0 #[.val (.ref aa), .val (.int jj), .val (.int (4 : Int32)), .unset, .unset] []))
  refine o_aloadN cx X0 d1_0 rfl rfl ?_
  refine o_iloadN cx X0 d1_1 rfl ?_
  refine o_ldB cx X0 (v := (.int b0)) d1_2 A0 k0 hj0 hi0 hv0 ?_
  refine o_sipush cx X0 (z := (255 : Int32)) d1_3 rfl ?_
  refine o_iloadN cx X0 d1_6 rfl ?_
  refine o_iconst cx X0 (z := (1 : Int32)) d1_7 rfl ?_
  refine o_iadd cx X0 (z := (5 : Int32)) d1_8 rfl ?_
  refine o_ishr cx X0 (z := (7 : Int32)) d1_9 rfl ?_
  refine o_iand cx X0 d1_10 rfl ?_
  refine o_istoreN cx X0 (Ls' := #[.val (.ref aa), .val (.int jj), .val (.int (4 : Int32)), .val (.int (b0 &&& (7 : Int32))), .unset]) d1_11 rfl ?_
  refine o_iconst cx X0 (z := (1 : Int32)) d1_12 rfl ?_
  refine o_istore cx X0 (Ls' := #[.val (.ref aa), .val (.int jj), .val (.int (4 : Int32)), .val (.int (b0 &&& (7 : Int32))), .val (.int (1 : Int32))]) d1_13 rfl ?_
  refine o_iload cx X0 d1_15 rfl ?_
  refine o_iloadN cx X0 d1_17 rfl ?_
  refine o_icmpNo cx X0 d1_18 (by decide) ?_
  refine o_iloadN cx X0 d1_21 rfl ?_
  refine o_bipush cx X0 (z := (6 : Int32)) d1_22 rfl ?_
  refine o_ishl cx X0 d1_24 rfl ?_
  refine o_aloadN cx X0 d1_25 rfl rfl ?_
  refine o_iloadN cx X0 d1_26 rfl ?_
  refine o_iload cx X0 d1_27 rfl ?_
  refine o_iadd cx X0 d1_29 rfl ?_
  refine o_ldB cx X0 (v := (.int b1)) d1_30 A0 k1 hj1 hi1 hv1 ?_
  refine o_bipush cx X0 (z := (63 : Int32)) d1_31 rfl ?_
  refine o_iand cx X0 d1_33 rfl ?_
  refine o_ior cx X0 d1_34 rfl ?_
  refine o_istoreN cx X0 (Ls' := #[.val (.ref aa), .val (.int jj), .val (.int (4 : Int32)), .val (.int (((b0 &&& (7 : Int32)) <<< ((6 : Int32) &&& 31)) ||| (b1 &&& (63 : Int32)))), .val (.int (1 : Int32))]) d1_35 rfl ?_
  refine o_iinc cx X0 (z := (2 : Int32)) (Ls' := #[.val (.ref aa), .val (.int jj), .val (.int (4 : Int32)), .val (.int (((b0 &&& (7 : Int32)) <<< ((6 : Int32) &&& 31)) ||| (b1 &&& (63 : Int32)))), .val (.int (2 : Int32))]) d1_36 rfl rfl rfl ?_
  refine o_goto cx X0 15 d1_39 (by decide) (by decide) ?_
  refine o_iload cx X0 d1_15 rfl ?_
  refine o_iloadN cx X0 d1_17 rfl ?_
  refine o_icmpNo cx X0 d1_18 (by decide) ?_
  refine o_iloadN cx X0 d1_21 rfl ?_
  refine o_bipush cx X0 (z := (6 : Int32)) d1_22 rfl ?_
  refine o_ishl cx X0 d1_24 rfl ?_
  refine o_aloadN cx X0 d1_25 rfl rfl ?_
  refine o_iloadN cx X0 d1_26 rfl ?_
  refine o_iload cx X0 d1_27 rfl ?_
  refine o_iadd cx X0 d1_29 rfl ?_
  refine o_ldB cx X0 (v := (.int b2)) d1_30 A0 k2 hj2 hi2 hv2 ?_
  refine o_bipush cx X0 (z := (63 : Int32)) d1_31 rfl ?_
  refine o_iand cx X0 d1_33 rfl ?_
  refine o_ior cx X0 d1_34 rfl ?_
  refine o_istoreN cx X0 (Ls' := #[.val (.ref aa), .val (.int jj), .val (.int (4 : Int32)), .val (.int (((((b0 &&& (7 : Int32)) <<< ((6 : Int32) &&& 31)) ||| (b1 &&& (63 : Int32))) <<< ((6 : Int32) &&& 31)) ||| (b2 &&& (63 : Int32)))), .val (.int (2 : Int32))]) d1_35 rfl ?_
  refine o_iinc cx X0 (z := (3 : Int32)) (Ls' := #[.val (.ref aa), .val (.int jj), .val (.int (4 : Int32)), .val (.int (((((b0 &&& (7 : Int32)) <<< ((6 : Int32) &&& 31)) ||| (b1 &&& (63 : Int32))) <<< ((6 : Int32) &&& 31)) ||| (b2 &&& (63 : Int32)))), .val (.int (3 : Int32))]) d1_36 rfl rfl rfl ?_
  refine o_goto cx X0 15 d1_39 (by decide) (by decide) ?_
  refine o_iload cx X0 d1_15 rfl ?_
  refine o_iloadN cx X0 d1_17 rfl ?_
  refine o_icmpNo cx X0 d1_18 (by decide) ?_
  refine o_iloadN cx X0 d1_21 rfl ?_
  refine o_bipush cx X0 (z := (6 : Int32)) d1_22 rfl ?_
  refine o_ishl cx X0 d1_24 rfl ?_
  refine o_aloadN cx X0 d1_25 rfl rfl ?_
  refine o_iloadN cx X0 d1_26 rfl ?_
  refine o_iload cx X0 d1_27 rfl ?_
  refine o_iadd cx X0 d1_29 rfl ?_
  refine o_ldB cx X0 (v := (.int b3)) d1_30 A0 k3 hj3 hi3 hv3 ?_
  refine o_bipush cx X0 (z := (63 : Int32)) d1_31 rfl ?_
  refine o_iand cx X0 d1_33 rfl ?_
  refine o_ior cx X0 d1_34 rfl ?_
  refine o_istoreN cx X0 (Ls' := #[.val (.ref aa), .val (.int jj), .val (.int (4 : Int32)), .val (.int (((((((b0 &&& (7 : Int32)) <<< ((6 : Int32) &&& 31)) ||| (b1 &&& (63 : Int32))) <<< ((6 : Int32) &&& 31)) ||| (b2 &&& (63 : Int32))) <<< ((6 : Int32) &&& 31)) ||| (b3 &&& (63 : Int32)))), .val (.int (3 : Int32))]) d1_35 rfl ?_
  refine o_iinc cx X0 (z := (4 : Int32)) (Ls' := #[.val (.ref aa), .val (.int jj), .val (.int (4 : Int32)), .val (.int (((((((b0 &&& (7 : Int32)) <<< ((6 : Int32) &&& 31)) ||| (b1 &&& (63 : Int32))) <<< ((6 : Int32) &&& 31)) ||| (b2 &&& (63 : Int32))) <<< ((6 : Int32) &&& 31)) ||| (b3 &&& (63 : Int32)))), .val (.int (4 : Int32))]) d1_36 rfl rfl rfl ?_
  refine o_goto cx X0 15 d1_39 (by decide) (by decide) ?_
  refine o_iload cx X0 d1_15 rfl ?_
  refine o_iloadN cx X0 d1_17 rfl ?_
  refine o_icmpYes cx X0 42 d1_18 (by decide) (by decide) (by decide) ?_
  refine o_iloadN cx X0 d1_42 rfl ?_
  exact o_retI cx X0 d1_43 ⟨rfl, rfl⟩ (by decide) (by decide)
theorem pd_1 : parseMethodDescriptor "([BII)I" = some ⟨[(.array .byte), .int, .int], some .int⟩ := by decide +kernel
theorem pn_0 : plainName "com/example/vestwright/vestwright/io/Utf8CodePointPinLaw" = true := by first | (simp [plainName, overriddenIn]; done) | decide +kernel
theorem ef_rm0 (m : MethodId) (p0 : Int32) (p1 : Int32) (p2 : Int32) (p3 : Int32) (p4 : Int32) (p5 : Int32) : entryFrame m #[(.int p0), (.int p1), (.int p2), (.int p3), (.int p4), (.int p5)] maxLocals = mkF m 0 #[.val (.int p0), .val (.int p1), .val (.int p2), .val (.int p3), .val (.int p4), .val (.int p5), .unset, .unset, .unset, .unset, .unset, .unset, .unset, .unset, .unset] [] := by first | (simp [entryFrame, mkF, argsToLocals, Value.category, maxLocals]; done) | rfl
set_option maxRecDepth 65536 in
set_option maxHeartbeats 40000000 in
theorem rm0 (l : Launch) (Z : State) (a0 : Array Value) (hw : ∀ d ∈ tables_1, d.before a0 Z = true) (p0 : Int32) (p1 : Int32) (p2 : Int32) (p3 : Int32) (p4 : Int32) (p5 : Int32) (h0 : Heap) (n0 : Nat) (Z0 : n0 ≤ h0.size) :
    own_Met l Z x code maxLocals ret room_1 #[(.int p0), (.int p1), (.int p2), (.int p3), (.int p4), (.int p5)] h0 n0 (fun v' _ => v' = some (.int 1)) := by
  refine own_body (plainFor_of_name pn_0) (fun m => ef_rm0 m p0 p1 p2 p3 p4 p5) Z0 ?_
  intro p e s m below meth c T0 cx X0
  show own_Go p e below _ (T0.setTop (mkF m 0 #[.val (.int p0), .val (.int p1), .val (.int p2), .val (.int p3), .val (.int p4), .val (.int p5), .unset, .unset, .unset, .unset, .unset, .unset, .unset, .unset, .unset] []))
  refine o_iconst cx X0 (z := (2 : Int32)) at_0 rfl ?_
  refine o_iload cx X0 at_1 rfl ?_
  refine o_iconst cx X0 (z := (3 : Int32)) at_3 rfl ?_
  refine o_iand cx X0 at_4 rfl ?_
  refine o_iconst cx X0 (z := (3 : Int32)) at_5 rfl ?_
  refine o_irem cx X0 at_6 (by decide) rfl ?_
  refine o_iadd cx X0 at_7 rfl ?_
  refine o_istore cx X0 (Ls' := #[.val (.int p0), .val (.int p1), .val (.int p2), .val (.int p3), .val (.int p4), .val (.int p5), .val (.int ((2 : Int32) + ((p5 &&& (3 : Int32)) % (3 : Int32)))), .unset, .unset, .unset, .unset, .unset, .unset, .unset, .unset]) at_8 rfl ?_
  refine o_iload cx X0 at_10 rfl ?_
  refine o_iconst cx X0 (z := (2 : Int32)) at_12 rfl ?_
  refine o_iushr cx X0 at_13 rfl ?_
  refine o_iconst cx X0 (z := (5 : Int32)) at_14 rfl ?_
  refine o_irem cx X0 at_15 (by decide) rfl ?_
  refine o_istore cx X0 (Ls' := #[.val (.int p0), .val (.int p1), .val (.int p2), .val (.int p3), .val (.int p4), .val (.int p5), .val (.int ((2 : Int32) + ((p5 &&& (3 : Int32)) % (3 : Int32)))), .val (.int (((p5.toUInt32 >>> ((2 : Int32) &&& 31).toUInt32).toInt32) % (5 : Int32))), .unset, .unset, .unset, .unset, .unset, .unset, .unset]) at_16 rfl ?_
  refine o_iload cx X0 at_18 rfl ?_
  refine o_i2b cx X0 at_20 rfl ?_
  refine o_istore cx X0 (Ls' := #[.val (.int p0), .val (.int p1), .val (.int p2), .val (.int p3), .val (.int p4), .val (.int p5), .val (.int ((2 : Int32) + ((p5 &&& (3 : Int32)) % (3 : Int32)))), .val (.int (((p5.toUInt32 >>> ((2 : Int32) &&& 31).toUInt32).toInt32) % (5 : Int32))), .val (.int (p4.toInt8.toInt32)), .unset, .unset, .unset, .unset, .unset, .unset]) at_21 rfl ?_
  refine o_bipush cx X0 (z := (8 : Int32)) at_23 rfl ?_
  refine o_newP cx X0 at_25 (o_w hw 0 rfl) (by decide) 8 8 rfl (Nat.le_refl _) (by decide) (by decide) (by decide) fun T2 h4 b1 gb7 ge8 X3 E5 A6 => ?_
  have A6 : own_Ar Z h4 b1 .byte [(.int (0 : Int32)), (.int (0 : Int32)), (.int (0 : Int32)), (.int (0 : Int32)), (.int (0 : Int32)), (.int (0 : Int32)), (.int (0 : Int32)), (.int (0 : Int32))] := A6
  refine o_astore cx X3 (Ls' := #[.val (.int p0), .val (.int p1), .val (.int p2), .val (.int p3), .val (.int p4), .val (.int p5), .val (.int ((2 : Int32) + ((p5 &&& (3 : Int32)) % (3 : Int32)))), .val (.int (((p5.toUInt32 >>> ((2 : Int32) &&& 31).toUInt32).toInt32) % (5 : Int32))), .val (.int (p4.toInt8.toInt32)), .val (.ref b1), .unset, .unset, .unset, .unset, .unset]) at_27 rfl rfl ?_
  refine o_aload cx X3 at_29 rfl rfl ?_
  refine o_iconst cx X3 (z := (0 : Int32)) at_31 rfl ?_
  refine o_iload cx X3 at_32 rfl ?_
  refine o_stB cx X3 (x' := (p4.toInt8.toInt32)) at_34 A6 0 (by decide) rfl (Nat.le_of_ble_eq_true rfl) (own_i8 _) ge8 fun T9 h11 X10 W12 A6 => ?_
  have A6 : own_Ar Z h11 b1 .byte [(.int (p4.toInt8.toInt32)), (.int (0 : Int32)), (.int (0 : Int32)), (.int (0 : Int32)), (.int (0 : Int32)), (.int (0 : Int32)), (.int (0 : Int32)), (.int (0 : Int32))] := A6
  refine o_aload cx X10 at_35 rfl rfl ?_
  refine o_iconst cx X10 (z := (1 : Int32)) at_37 rfl ?_
  refine o_iload cx X10 at_38 rfl ?_
  refine o_stB cx X10 (x' := (p4.toInt8.toInt32)) at_40 A6 1 (by decide) rfl (Nat.le_of_ble_eq_true rfl) (own_i8 _) ge8 fun T13 h15 X14 W16 A6 => ?_
  have A6 : own_Ar Z h15 b1 .byte [(.int (p4.toInt8.toInt32)), (.int (p4.toInt8.toInt32)), (.int (0 : Int32)), (.int (0 : Int32)), (.int (0 : Int32)), (.int (0 : Int32)), (.int (0 : Int32)), (.int (0 : Int32))] := A6
  refine o_aload cx X14 at_41 rfl rfl ?_
  refine o_iconst cx X14 (z := (2 : Int32)) at_43 rfl ?_
  refine o_iload cx X14 at_44 rfl ?_
  refine o_stB cx X14 (x' := (p4.toInt8.toInt32)) at_46 A6 2 (by decide) rfl (Nat.le_of_ble_eq_true rfl) (own_i8 _) ge8 fun T17 h19 X18 W20 A6 => ?_
  have A6 : own_Ar Z h19 b1 .byte [(.int (p4.toInt8.toInt32)), (.int (p4.toInt8.toInt32)), (.int (p4.toInt8.toInt32)), (.int (0 : Int32)), (.int (0 : Int32)), (.int (0 : Int32)), (.int (0 : Int32)), (.int (0 : Int32))] := A6
  refine o_aload cx X18 at_47 rfl rfl ?_
  refine o_iconst cx X18 (z := (3 : Int32)) at_49 rfl ?_
  refine o_iload cx X18 at_50 rfl ?_
  refine o_stB cx X18 (x' := (p4.toInt8.toInt32)) at_52 A6 3 (by decide) rfl (Nat.le_of_ble_eq_true rfl) (own_i8 _) ge8 fun T21 h23 X22 W24 A6 => ?_
  have A6 : own_Ar Z h23 b1 .byte [(.int (p4.toInt8.toInt32)), (.int (p4.toInt8.toInt32)), (.int (p4.toInt8.toInt32)), (.int (p4.toInt8.toInt32)), (.int (0 : Int32)), (.int (0 : Int32)), (.int (0 : Int32)), (.int (0 : Int32))] := A6
  refine o_aload cx X22 at_53 rfl rfl ?_
  refine o_iconst cx X22 (z := (4 : Int32)) at_55 rfl ?_
  refine o_iload cx X22 at_56 rfl ?_
  refine o_stB cx X22 (x' := (p4.toInt8.toInt32)) at_58 A6 4 (by decide) rfl (Nat.le_of_ble_eq_true rfl) (own_i8 _) ge8 fun T25 h27 X26 W28 A6 => ?_
  have A6 : own_Ar Z h27 b1 .byte [(.int (p4.toInt8.toInt32)), (.int (p4.toInt8.toInt32)), (.int (p4.toInt8.toInt32)), (.int (p4.toInt8.toInt32)), (.int (p4.toInt8.toInt32)), (.int (0 : Int32)), (.int (0 : Int32)), (.int (0 : Int32))] := A6
  refine o_aload cx X26 at_59 rfl rfl ?_
  refine o_iconst cx X26 (z := (5 : Int32)) at_61 rfl ?_
  refine o_iload cx X26 at_62 rfl ?_
  refine o_stB cx X26 (x' := (p4.toInt8.toInt32)) at_64 A6 5 (by decide) rfl (Nat.le_of_ble_eq_true rfl) (own_i8 _) ge8 fun T29 h31 X30 W32 A6 => ?_
  have A6 : own_Ar Z h31 b1 .byte [(.int (p4.toInt8.toInt32)), (.int (p4.toInt8.toInt32)), (.int (p4.toInt8.toInt32)), (.int (p4.toInt8.toInt32)), (.int (p4.toInt8.toInt32)), (.int (p4.toInt8.toInt32)), (.int (0 : Int32)), (.int (0 : Int32))] := A6
  refine o_aload cx X30 at_65 rfl rfl ?_
  refine o_bipush cx X30 (z := (6 : Int32)) at_67 rfl ?_
  refine o_iload cx X30 at_69 rfl ?_
  refine o_stB cx X30 (x' := (p4.toInt8.toInt32)) at_71 A6 6 (by decide) rfl (Nat.le_of_ble_eq_true rfl) (own_i8 _) ge8 fun T33 h35 X34 W36 A6 => ?_
  have A6 : own_Ar Z h35 b1 .byte [(.int (p4.toInt8.toInt32)), (.int (p4.toInt8.toInt32)), (.int (p4.toInt8.toInt32)), (.int (p4.toInt8.toInt32)), (.int (p4.toInt8.toInt32)), (.int (p4.toInt8.toInt32)), (.int (p4.toInt8.toInt32)), (.int (0 : Int32))] := A6
  refine o_aload cx X34 at_72 rfl rfl ?_
  refine o_bipush cx X34 (z := (7 : Int32)) at_74 rfl ?_
  refine o_iload cx X34 at_76 rfl ?_
  refine o_stB cx X34 (x' := (p4.toInt8.toInt32)) at_78 A6 7 (by decide) rfl (Nat.le_of_ble_eq_true rfl) (own_i8 _) ge8 fun T37 h39 X38 W40 A6 => ?_
  have A6 : own_Ar Z h39 b1 .byte [(.int (p4.toInt8.toInt32)), (.int (p4.toInt8.toInt32)), (.int (p4.toInt8.toInt32)), (.int (p4.toInt8.toInt32)), (.int (p4.toInt8.toInt32)), (.int (p4.toInt8.toInt32)), (.int (p4.toInt8.toInt32)), (.int (p4.toInt8.toInt32))] := A6
  rcases own_at5 p5 with hat | hat | hat | hat | hat
  · rw [hat]
    show own_Go p e below _ (T37.setTop (mkF m 79 #[.val (.int p0), .val (.int p1), .val (.int p2), .val (.int p3), .val (.int p4), .val (.int p5), .val (.int ((2 : Int32) + ((p5 &&& (3 : Int32)) % (3 : Int32)))), .val (.int (0 : Int32)), .val (.int (p4.toInt8.toInt32)), .val (.ref b1), .unset, .unset, .unset, .unset, .unset] []))
    refine o_aload cx X38 at_79 rfl rfl ?_
    refine o_iload cx X38 at_81 rfl ?_
    refine o_iloadN cx X38 at_83 rfl ?_
    refine o_i2b cx X38 at_84 rfl ?_
    refine o_stB cx X38 (x' := (p0.toInt8.toInt32)) at_85 A6 0 (by decide) rfl (Nat.le_of_ble_eq_true rfl) (own_i8 _) ge8 fun T41 h43 X42 W44 A6 => ?_
    have A6 : own_Ar Z h43 b1 .byte [(.int (p0.toInt8.toInt32)), (.int (p4.toInt8.toInt32)), (.int (p4.toInt8.toInt32)), (.int (p4.toInt8.toInt32)), (.int (p4.toInt8.toInt32)), (.int (p4.toInt8.toInt32)), (.int (p4.toInt8.toInt32)), (.int (p4.toInt8.toInt32))] := A6
    refine o_aload cx X42 at_86 rfl rfl ?_
    refine o_iload cx X42 at_88 rfl ?_
    refine o_iconst cx X42 (z := (1 : Int32)) at_90 rfl ?_
    refine o_iadd cx X42 (z := (1 : Int32)) at_91 rfl ?_
    refine o_iloadN cx X42 at_92 rfl ?_
    refine o_i2b cx X42 at_93 rfl ?_
    refine o_stB cx X42 (x' := (p1.toInt8.toInt32)) at_94 A6 1 (by decide) rfl (Nat.le_of_ble_eq_true rfl) (own_i8 _) ge8 fun T45 h47 X46 W48 A6 => ?_
    have A6 : own_Ar Z h47 b1 .byte [(.int (p0.toInt8.toInt32)), (.int (p1.toInt8.toInt32)), (.int (p4.toInt8.toInt32)), (.int (p4.toInt8.toInt32)), (.int (p4.toInt8.toInt32)), (.int (p4.toInt8.toInt32)), (.int (p4.toInt8.toInt32)), (.int (p4.toInt8.toInt32))] := A6
    refine o_aload cx X46 at_95 rfl rfl ?_
    refine o_iload cx X46 at_97 rfl ?_
    refine o_iconst cx X46 (z := (2 : Int32)) at_99 rfl ?_
    refine o_iadd cx X46 (z := (2 : Int32)) at_100 rfl ?_
    refine o_iloadN cx X46 at_101 rfl ?_
    refine o_i2b cx X46 at_102 rfl ?_
    refine o_stB cx X46 (x' := (p2.toInt8.toInt32)) at_103 A6 2 (by decide) rfl (Nat.le_of_ble_eq_true rfl) (own_i8 _) ge8 fun T49 h51 X50 W52 A6 => ?_
    have A6 : own_Ar Z h51 b1 .byte [(.int (p0.toInt8.toInt32)), (.int (p1.toInt8.toInt32)), (.int (p2.toInt8.toInt32)), (.int (p4.toInt8.toInt32)), (.int (p4.toInt8.toInt32)), (.int (p4.toInt8.toInt32)), (.int (p4.toInt8.toInt32)), (.int (p4.toInt8.toInt32))] := A6
    refine o_aload cx X50 at_104 rfl rfl ?_
    refine o_iload cx X50 at_106 rfl ?_
    refine o_iconst cx X50 (z := (3 : Int32)) at_108 rfl ?_
    refine o_iadd cx X50 (z := (3 : Int32)) at_109 rfl ?_
    refine o_iloadN cx X50 at_110 rfl ?_
    refine o_i2b cx X50 at_111 rfl ?_
    refine o_stB cx X50 (x' := (p3.toInt8.toInt32)) at_112 A6 3 (by decide) rfl (Nat.le_of_ble_eq_true rfl) (own_i8 _) ge8 fun T53 h55 X54 W56 A6 => ?_
    have A6 : own_Ar Z h55 b1 .byte [(.int (p0.toInt8.toInt32)), (.int (p1.toInt8.toInt32)), (.int (p2.toInt8.toInt32)), (.int (p3.toInt8.toInt32)), (.int (p4.toInt8.toInt32)), (.int (p4.toInt8.toInt32)), (.int (p4.toInt8.toInt32)), (.int (p4.toInt8.toInt32))] := A6
    refine o_iloadN cx X54 at_113 rfl ?_
    refine o_sipush cx X54 (z := (255 : Int32)) at_114 rfl ?_
    refine o_iand cx X54 at_117 rfl ?_
    refine o_istore cx X54 (Ls' := #[.val (.int p0), .val (.int p1), .val (.int p2), .val (.int p3), .val (.int p4), .val (.int p5), .val (.int ((2 : Int32) + ((p5 &&& (3 : Int32)) % (3 : Int32)))), .val (.int (0 : Int32)), .val (.int (p4.toInt8.toInt32)), .val (.ref b1), .val (.int (p0 &&& (255 : Int32))), .unset, .unset, .unset, .unset]) at_118 rfl ?_
    refine o_iloadN cx X54 at_120 rfl ?_
    refine o_bipush cx X54 (z := (63 : Int32)) at_121 rfl ?_
    refine o_iand cx X54 at_123 rfl ?_
    refine o_istore cx X54 (Ls' := #[.val (.int p0), .val (.int p1), .val (.int p2), .val (.int p3), .val (.int p4), .val (.int p5), .val (.int ((2 : Int32) + ((p5 &&& (3 : Int32)) % (3 : Int32)))), .val (.int (0 : Int32)), .val (.int (p4.toInt8.toInt32)), .val (.ref b1), .val (.int (p0 &&& (255 : Int32))), .val (.int (p1 &&& (63 : Int32))), .unset, .unset, .unset]) at_124 rfl ?_
    refine o_iloadN cx X54 at_126 rfl ?_
    refine o_bipush cx X54 (z := (63 : Int32)) at_127 rfl ?_
    refine o_iand cx X54 at_129 rfl ?_
    refine o_istore cx X54 (Ls' := #[.val (.int p0), .val (.int p1), .val (.int p2), .val (.int p3), .val (.int p4), .val (.int p5), .val (.int ((2 : Int32) + ((p5 &&& (3 : Int32)) % (3 : Int32)))), .val (.int (0 : Int32)), .val (.int (p4.toInt8.toInt32)), .val (.ref b1), .val (.int (p0 &&& (255 : Int32))), .val (.int (p1 &&& (63 : Int32))), .val (.int (p2 &&& (63 : Int32))), .unset, .unset]) at_130 rfl ?_
    refine o_iloadN cx X54 at_132 rfl ?_
    refine o_bipush cx X54 (z := (63 : Int32)) at_133 rfl ?_
    refine o_iand cx X54 at_135 rfl ?_
    refine o_istore cx X54 (Ls' := #[.val (.int p0), .val (.int p1), .val (.int p2), .val (.int p3), .val (.int p4), .val (.int p5), .val (.int ((2 : Int32) + ((p5 &&& (3 : Int32)) % (3 : Int32)))), .val (.int (0 : Int32)), .val (.int (p4.toInt8.toInt32)), .val (.ref b1), .val (.int (p0 &&& (255 : Int32))), .val (.int (p1 &&& (63 : Int32))), .val (.int (p2 &&& (63 : Int32))), .val (.int (p3 &&& (63 : Int32))), .unset]) at_136 rfl ?_
    rcases own_and3 p5 with hsz | hsz | hsz
    · rw [hsz]
      show own_Go p e below _ (T53.setTop (mkF m 138 #[.val (.int p0), .val (.int p1), .val (.int p2), .val (.int p3), .val (.int p4), .val (.int p5), .val (.int (2 : Int32)), .val (.int (0 : Int32)), .val (.int (p4.toInt8.toInt32)), .val (.ref b1), .val (.int (p0 &&& (255 : Int32))), .val (.int (p1 &&& (63 : Int32))), .val (.int (p2 &&& (63 : Int32))), .val (.int (p3 &&& (63 : Int32))), .unset] []))
      refine o_iload cx X54 at_138 rfl ?_
      refine o_iconst cx X54 (z := (2 : Int32)) at_140 rfl ?_
      refine o_icmpNo cx X54 at_141 (by decide) ?_
      refine o_iload cx X54 at_144 rfl ?_
      refine o_bipush cx X54 (z := (31 : Int32)) at_146 rfl ?_
      refine o_iand cx X54 at_148 rfl ?_
      refine o_bipush cx X54 (z := (64 : Int32)) at_149 rfl ?_
      refine o_imul cx X54 at_151 rfl ?_
      refine o_iload cx X54 at_152 rfl ?_
      refine o_iadd cx X54 at_154 rfl ?_
      refine o_istore cx X54 (Ls' := #[.val (.int p0), .val (.int p1), .val (.int p2), .val (.int p3), .val (.int p4), .val (.int p5), .val (.int (2 : Int32)), .val (.int (0 : Int32)), .val (.int (p4.toInt8.toInt32)), .val (.ref b1), .val (.int (p0 &&& (255 : Int32))), .val (.int (p1 &&& (63 : Int32))), .val (.int (p2 &&& (63 : Int32))), .val (.int (p3 &&& (63 : Int32))), .val (.int ((((p0 &&& (255 : Int32)) &&& (31 : Int32)) * (64 : Int32)) + (p1 &&& (63 : Int32))))]) at_155 rfl ?_
      refine o_goto cx X54 215 at_157 (by decide) (by decide) ?_
      refine o_aload cx X54 at_215 rfl rfl ?_
      refine o_iload cx X54 at_217 rfl ?_
      refine o_iload cx X54 at_219 rfl ?_
      refine o_callSp cx X54 (y' := (⟨"com/example/vestwright/vestwright/io/Utf8", "codePoint", "([BII)I"⟩ : MethodName)) (argsL := [(.ref b1), (.int (0 : Int32)), (.int (2 : Int32))]) (st := []) at_221 (o_w hw 1 rfl) (o_w hw 2 rfl) (o_w hw 3 rfl) (o_w hw 4 rfl) (by decide) (rm1_2 l Z a0 hw b1 (0 : Int32) [(.int (p0.toInt8.toInt32)), (.int (p1.toInt8.toInt32)), (.int (p2.toInt8.toInt32)), (.int (p3.toInt8.toInt32)), (.int (p4.toInt8.toInt32)), (.int (p4.toInt8.toInt32)), (.int (p4.toInt8.toInt32)), (.int (p4.toInt8.toInt32))] 0 1 (p0.toInt8.toInt32) (p1.toInt8.toInt32) h55 n0 X54.ge0 A6 (by decide) (by decide) rfl (by decide) (by decide) rfl) (by decide) 0 rfl (by decide) rfl (lenOf pd_1 rfl) rfl rfl (by decide) (by decide) fun T57 X58 => ?_
      show own_Go p e below _ (T57.setTop (mkF m 224 #[.val (.int p0), .val (.int p1), .val (.int p2), .val (.int p3), .val (.int p4), .val (.int p5), .val (.int (2 : Int32)), .val (.int (0 : Int32)), .val (.int (p4.toInt8.toInt32)), .val (.ref b1), .val (.int (p0 &&& (255 : Int32))), .val (.int (p1 &&& (63 : Int32))), .val (.int (p2 &&& (63 : Int32))), .val (.int (p3 &&& (63 : Int32))), .val (.int ((((p0 &&& (255 : Int32)) &&& (31 : Int32)) * (64 : Int32)) + (p1 &&& (63 : Int32))))] [(.int ((((p0.toInt8.toInt32) &&& (31 : Int32)) <<< ((6 : Int32) &&& 31)) ||| ((p1.toInt8.toInt32) &&& (63 : Int32))))]))
      refine o_iload cx X58 at_224 rfl ?_
      refine o_icmpNo cx X58 at_226 (teq (own_pin2 p0 p1 p2 p3 : ((((p0.toInt8.toInt32) &&& (31 : Int32)) <<< ((6 : Int32) &&& 31)) ||| ((p1.toInt8.toInt32) &&& (63 : Int32))) = ((((p0 &&& (255 : Int32)) &&& (31 : Int32)) * (64 : Int32)) + (p1 &&& (63 : Int32))))).2 ?_
      refine o_iconst cx X58 (z := (1 : Int32)) at_229 rfl ?_
      refine o_goto cx X58 234 at_230 (by decide) (by decide) ?_
      exact o_retN cx X58 (z' := (1 : Int32)) at_234 (by simp) rfl rfl (by decide) (by decide)
    · rw [hsz]
      show own_Go p e below _ (T53.setTop (mkF m 138 #[.val (.int p0), .val (.int p1), .val (.int p2), .val (.int p3), .val (.int p4), .val (.int p5), .val (.int (3 : Int32)), .val (.int (0 : Int32)), .val (.int (p4.toInt8.toInt32)), .val (.ref b1), .val (.int (p0 &&& (255 : Int32))), .val (.int (p1 &&& (63 : Int32))), .val (.int (p2 &&& (63 : Int32))), .val (.int (p3 &&& (63 : Int32))), .unset] []))
      refine o_iload cx X54 at_138 rfl ?_
      refine o_iconst cx X54 (z := (2 : Int32)) at_140 rfl ?_
      refine o_icmpYes cx X54 160 at_141 (by decide) (by decide) (by decide) ?_
      refine o_iload cx X54 at_160 rfl ?_
      refine o_iconst cx X54 (z := (3 : Int32)) at_162 rfl ?_
      refine o_icmpNo cx X54 at_163 (by decide) ?_
      refine o_iload cx X54 at_166 rfl ?_
      refine o_bipush cx X54 (z := (15 : Int32)) at_168 rfl ?_
      refine o_iand cx X54 at_170 rfl ?_
      refine o_sipush cx X54 (z := (4096 : Int32)) at_171 rfl ?_
      refine o_imul cx X54 at_174 rfl ?_
      refine o_iload cx X54 at_175 rfl ?_
      refine o_bipush cx X54 (z := (64 : Int32)) at_177 rfl ?_
      refine o_imul cx X54 at_179 rfl ?_
      refine o_iadd cx X54 at_180 rfl ?_
      refine o_iload cx X54 at_181 rfl ?_
      refine o_iadd cx X54 at_183 rfl ?_
      refine o_istore cx X54 (Ls' := #[.val (.int p0), .val (.int p1), .val (.int p2), .val (.int p3), .val (.int p4), .val (.int p5), .val (.int (3 : Int32)), .val (.int (0 : Int32)), .val (.int (p4.toInt8.toInt32)), .val (.ref b1), .val (.int (p0 &&& (255 : Int32))), .val (.int (p1 &&& (63 : Int32))), .val (.int (p2 &&& (63 : Int32))), .val (.int (p3 &&& (63 : Int32))), .val (.int (((((p0 &&& (255 : Int32)) &&& (15 : Int32)) * (4096 : Int32)) + ((p1 &&& (63 : Int32)) * (64 : Int32))) + (p2 &&& (63 : Int32))))]) at_184 rfl ?_
      refine o_goto cx X54 215 at_186 (by decide) (by decide) ?_
      refine o_aload cx X54 at_215 rfl rfl ?_
      refine o_iload cx X54 at_217 rfl ?_
      refine o_iload cx X54 at_219 rfl ?_
      refine o_callSp cx X54 (y' := (⟨"com/example/vestwright/vestwright/io/Utf8", "codePoint", "([BII)I"⟩ : MethodName)) (argsL := [(.ref b1), (.int (0 : Int32)), (.int (3 : Int32))]) (st := []) at_221 (o_w hw 1 rfl) (o_w hw 2 rfl) (o_w hw 3 rfl) (o_w hw 4 rfl) (by decide) (rm1_3 l Z a0 hw b1 (0 : Int32) [(.int (p0.toInt8.toInt32)), (.int (p1.toInt8.toInt32)), (.int (p2.toInt8.toInt32)), (.int (p3.toInt8.toInt32)), (.int (p4.toInt8.toInt32)), (.int (p4.toInt8.toInt32)), (.int (p4.toInt8.toInt32)), (.int (p4.toInt8.toInt32))] 0 1 2 (p0.toInt8.toInt32) (p1.toInt8.toInt32) (p2.toInt8.toInt32) h55 n0 X54.ge0 A6 (by decide) (by decide) rfl (by decide) (by decide) rfl (by decide) (by decide) rfl) (by decide) 0 rfl (by decide) rfl (lenOf pd_1 rfl) rfl rfl (by decide) (by decide) fun T62 X63 => ?_
      show own_Go p e below _ (T62.setTop (mkF m 224 #[.val (.int p0), .val (.int p1), .val (.int p2), .val (.int p3), .val (.int p4), .val (.int p5), .val (.int (3 : Int32)), .val (.int (0 : Int32)), .val (.int (p4.toInt8.toInt32)), .val (.ref b1), .val (.int (p0 &&& (255 : Int32))), .val (.int (p1 &&& (63 : Int32))), .val (.int (p2 &&& (63 : Int32))), .val (.int (p3 &&& (63 : Int32))), .val (.int (((((p0 &&& (255 : Int32)) &&& (15 : Int32)) * (4096 : Int32)) + ((p1 &&& (63 : Int32)) * (64 : Int32))) + (p2 &&& (63 : Int32))))] [(.int ((((((p0.toInt8.toInt32) &&& (15 : Int32)) <<< ((6 : Int32) &&& 31)) ||| ((p1.toInt8.toInt32) &&& (63 : Int32))) <<< ((6 : Int32) &&& 31)) ||| ((p2.toInt8.toInt32) &&& (63 : Int32))))]))
      refine o_iload cx X63 at_224 rfl ?_
      refine o_icmpNo cx X63 at_226 (teq (own_pin3 p0 p1 p2 p3 : ((((((p0.toInt8.toInt32) &&& (15 : Int32)) <<< ((6 : Int32) &&& 31)) ||| ((p1.toInt8.toInt32) &&& (63 : Int32))) <<< ((6 : Int32) &&& 31)) ||| ((p2.toInt8.toInt32) &&& (63 : Int32))) = (((((p0 &&& (255 : Int32)) &&& (15 : Int32)) * (4096 : Int32)) + ((p1 &&& (63 : Int32)) * (64 : Int32))) + (p2 &&& (63 : Int32))))).2 ?_
      refine o_iconst cx X63 (z := (1 : Int32)) at_229 rfl ?_
      refine o_goto cx X63 234 at_230 (by decide) (by decide) ?_
      exact o_retN cx X63 (z' := (1 : Int32)) at_234 (by simp) rfl rfl (by decide) (by decide)
    · rw [hsz]
      show own_Go p e below _ (T53.setTop (mkF m 138 #[.val (.int p0), .val (.int p1), .val (.int p2), .val (.int p3), .val (.int p4), .val (.int p5), .val (.int (4 : Int32)), .val (.int (0 : Int32)), .val (.int (p4.toInt8.toInt32)), .val (.ref b1), .val (.int (p0 &&& (255 : Int32))), .val (.int (p1 &&& (63 : Int32))), .val (.int (p2 &&& (63 : Int32))), .val (.int (p3 &&& (63 : Int32))), .unset] []))
      refine o_iload cx X54 at_138 rfl ?_
      refine o_iconst cx X54 (z := (2 : Int32)) at_140 rfl ?_
      refine o_icmpYes cx X54 160 at_141 (by decide) (by decide) (by decide) ?_
      refine o_iload cx X54 at_160 rfl ?_
      refine o_iconst cx X54 (z := (3 : Int32)) at_162 rfl ?_
      refine o_icmpYes cx X54 189 at_163 (by decide) (by decide) (by decide) ?_
      refine o_iload cx X54 at_189 rfl ?_
      refine o_bipush cx X54 (z := (7 : Int32)) at_191 rfl ?_
      refine o_iand cx X54 at_193 rfl ?_
      refine o_ldc cx X54 (z := (262144 : Int32)) at_194 (o_w hw 5 rfl) ?_
      refine o_imul cx X54 at_196 rfl ?_
      refine o_iload cx X54 at_197 rfl ?_
      refine o_sipush cx X54 (z := (4096 : Int32)) at_199 rfl ?_
      refine o_imul cx X54 at_202 rfl ?_
      refine o_iadd cx X54 at_203 rfl ?_
      refine o_iload cx X54 at_204 rfl ?_
      refine o_bipush cx X54 (z := (64 : Int32)) at_206 rfl ?_
      refine o_imul cx X54 at_208 rfl ?_
      refine o_iadd cx X54 at_209 rfl ?_
      refine o_iload cx X54 at_210 rfl ?_
      refine o_iadd cx X54 at_212 rfl ?_
      refine o_istore cx X54 (Ls' := #[.val (.int p0), .val (.int p1), .val (.int p2), .val (.int p3), .val (.int p4), .val (.int p5), .val (.int (4 : Int32)), .val (.int (0 : Int32)), .val (.int (p4.toInt8.toInt32)), .val (.ref b1), .val (.int (p0 &&& (255 : Int32))), .val (.int (p1 &&& (63 : Int32))), .val (.int (p2 &&& (63 : Int32))), .val (.int (p3 &&& (63 : Int32))), .val (.int ((((((p0 &&& (255 : Int32)) &&& (7 : Int32)) * (262144 : Int32)) + ((p1 &&& (63 : Int32)) * (4096 : Int32))) + ((p2 &&& (63 : Int32)) * (64 : Int32))) + (p3 &&& (63 : Int32))))]) at_213 rfl ?_
      refine o_aload cx X54 at_215 rfl rfl ?_
      refine o_iload cx X54 at_217 rfl ?_
      refine o_iload cx X54 at_219 rfl ?_
      refine o_callSp cx X54 (y' := (⟨"com/example/vestwright/vestwright/io/Utf8", "codePoint", "([BII)I"⟩ : MethodName)) (argsL := [(.ref b1), (.int (0 : Int32)), (.int (4 : Int32))]) (st := []) at_221 (o_w hw 1 rfl) (o_w hw 2 rfl) (o_w hw 3 rfl) (o_w hw 4 rfl) (by decide) (rm1_4 l Z a0 hw b1 (0 : Int32) [(.int (p0.toInt8.toInt32)), (.int (p1.toInt8.toInt32)), (.int (p2.toInt8.toInt32)), (.int (p3.toInt8.toInt32)), (.int (p4.toInt8.toInt32)), (.int (p4.toInt8.toInt32)), (.int (p4.toInt8.toInt32)), (.int (p4.toInt8.toInt32))] 0 1 2 3 (p0.toInt8.toInt32) (p1.toInt8.toInt32) (p2.toInt8.toInt32) (p3.toInt8.toInt32) h55 n0 X54.ge0 A6 (by decide) (by decide) rfl (by decide) (by decide) rfl (by decide) (by decide) rfl (by decide) (by decide) rfl) (by decide) 0 rfl (by decide) rfl (lenOf pd_1 rfl) rfl rfl (by decide) (by decide) fun T67 X68 => ?_
      show own_Go p e below _ (T67.setTop (mkF m 224 #[.val (.int p0), .val (.int p1), .val (.int p2), .val (.int p3), .val (.int p4), .val (.int p5), .val (.int (4 : Int32)), .val (.int (0 : Int32)), .val (.int (p4.toInt8.toInt32)), .val (.ref b1), .val (.int (p0 &&& (255 : Int32))), .val (.int (p1 &&& (63 : Int32))), .val (.int (p2 &&& (63 : Int32))), .val (.int (p3 &&& (63 : Int32))), .val (.int ((((((p0 &&& (255 : Int32)) &&& (7 : Int32)) * (262144 : Int32)) + ((p1 &&& (63 : Int32)) * (4096 : Int32))) + ((p2 &&& (63 : Int32)) * (64 : Int32))) + (p3 &&& (63 : Int32))))] [(.int ((((((((p0.toInt8.toInt32) &&& (7 : Int32)) <<< ((6 : Int32) &&& 31)) ||| ((p1.toInt8.toInt32) &&& (63 : Int32))) <<< ((6 : Int32) &&& 31)) ||| ((p2.toInt8.toInt32) &&& (63 : Int32))) <<< ((6 : Int32) &&& 31)) ||| ((p3.toInt8.toInt32) &&& (63 : Int32))))]))
      refine o_iload cx X68 at_224 rfl ?_
      refine o_icmpNo cx X68 at_226 (teq (own_pin4 p0 p1 p2 p3 : ((((((((p0.toInt8.toInt32) &&& (7 : Int32)) <<< ((6 : Int32) &&& 31)) ||| ((p1.toInt8.toInt32) &&& (63 : Int32))) <<< ((6 : Int32) &&& 31)) ||| ((p2.toInt8.toInt32) &&& (63 : Int32))) <<< ((6 : Int32) &&& 31)) ||| ((p3.toInt8.toInt32) &&& (63 : Int32))) = ((((((p0 &&& (255 : Int32)) &&& (7 : Int32)) * (262144 : Int32)) + ((p1 &&& (63 : Int32)) * (4096 : Int32))) + ((p2 &&& (63 : Int32)) * (64 : Int32))) + (p3 &&& (63 : Int32))))).2 ?_
      refine o_iconst cx X68 (z := (1 : Int32)) at_229 rfl ?_
      refine o_goto cx X68 234 at_230 (by decide) (by decide) ?_
      exact o_retN cx X68 (z' := (1 : Int32)) at_234 (by simp) rfl rfl (by decide) (by decide)
  · rw [hat]
    show own_Go p e below _ (T37.setTop (mkF m 79 #[.val (.int p0), .val (.int p1), .val (.int p2), .val (.int p3), .val (.int p4), .val (.int p5), .val (.int ((2 : Int32) + ((p5 &&& (3 : Int32)) % (3 : Int32)))), .val (.int (1 : Int32)), .val (.int (p4.toInt8.toInt32)), .val (.ref b1), .unset, .unset, .unset, .unset, .unset] []))
    refine o_aload cx X38 at_79 rfl rfl ?_
    refine o_iload cx X38 at_81 rfl ?_
    refine o_iloadN cx X38 at_83 rfl ?_
    refine o_i2b cx X38 at_84 rfl ?_
    refine o_stB cx X38 (x' := (p0.toInt8.toInt32)) at_85 A6 1 (by decide) rfl (Nat.le_of_ble_eq_true rfl) (own_i8 _) ge8 fun T72 h74 X73 W75 A6 => ?_
    have A6 : own_Ar Z h74 b1 .byte [(.int (p4.toInt8.toInt32)), (.int (p0.toInt8.toInt32)), (.int (p4.toInt8.toInt32)), (.int (p4.toInt8.toInt32)), (.int (p4.toInt8.toInt32)), (.int (p4.toInt8.toInt32)), (.int (p4.toInt8.toInt32)), (.int (p4.toInt8.toInt32))] := A6
    refine o_aload cx X73 at_86 rfl rfl ?_
    refine o_iload cx X73 at_88 rfl ?_
    refine o_iconst cx X73 (z := (1 : Int32)) at_90 rfl ?_
    refine o_iadd cx X73 (z := (2 : Int32)) at_91 rfl ?_
    refine o_iloadN cx X73 at_92 rfl ?_
    refine o_i2b cx X73 at_93 rfl ?_
    refine o_stB cx X73 (x' := (p1.toInt8.toInt32)) at_94 A6 2 (by decide) rfl (Nat.le_of_ble_eq_true rfl) (own_i8 _) ge8 fun T76 h78 X77 W79 A6 => ?_
    have A6 : own_Ar Z h78 b1 .byte [(.int (p4.toInt8.toInt32)), (.int (p0.toInt8.toInt32)), (.int (p1.toInt8.toInt32)), (.int (p4.toInt8.toInt32)), (.int (p4.toInt8.toInt32)), (.int (p4.toInt8.toInt32)), (.int (p4.toInt8.toInt32)), (.int (p4.toInt8.toInt32))] := A6
    refine o_aload cx X77 at_95 rfl rfl ?_
    refine o_iload cx X77 at_97 rfl ?_
    refine o_iconst cx X77 (z := (2 : Int32)) at_99 rfl ?_
    refine o_iadd cx X77 (z := (3 : Int32)) at_100 rfl ?_
    refine o_iloadN cx X77 at_101 rfl ?_
    refine o_i2b cx X77 at_102 rfl ?_
    refine o_stB cx X77 (x' := (p2.toInt8.toInt32)) at_103 A6 3 (by decide) rfl (Nat.le_of_ble_eq_true rfl) (own_i8 _) ge8 fun T80 h82 X81 W83 A6 => ?_
    have A6 : own_Ar Z h82 b1 .byte [(.int (p4.toInt8.toInt32)), (.int (p0.toInt8.toInt32)), (.int (p1.toInt8.toInt32)), (.int (p2.toInt8.toInt32)), (.int (p4.toInt8.toInt32)), (.int (p4.toInt8.toInt32)), (.int (p4.toInt8.toInt32)), (.int (p4.toInt8.toInt32))] := A6
    refine o_aload cx X81 at_104 rfl rfl ?_
    refine o_iload cx X81 at_106 rfl ?_
    refine o_iconst cx X81 (z := (3 : Int32)) at_108 rfl ?_
    refine o_iadd cx X81 (z := (4 : Int32)) at_109 rfl ?_
    refine o_iloadN cx X81 at_110 rfl ?_
    refine o_i2b cx X81 at_111 rfl ?_
    refine o_stB cx X81 (x' := (p3.toInt8.toInt32)) at_112 A6 4 (by decide) rfl (Nat.le_of_ble_eq_true rfl) (own_i8 _) ge8 fun T84 h86 X85 W87 A6 => ?_
    have A6 : own_Ar Z h86 b1 .byte [(.int (p4.toInt8.toInt32)), (.int (p0.toInt8.toInt32)), (.int (p1.toInt8.toInt32)), (.int (p2.toInt8.toInt32)), (.int (p3.toInt8.toInt32)), (.int (p4.toInt8.toInt32)), (.int (p4.toInt8.toInt32)), (.int (p4.toInt8.toInt32))] := A6
    refine o_iloadN cx X85 at_113 rfl ?_
    refine o_sipush cx X85 (z := (255 : Int32)) at_114 rfl ?_
    refine o_iand cx X85 at_117 rfl ?_
    refine o_istore cx X85 (Ls' := #[.val (.int p0), .val (.int p1), .val (.int p2), .val (.int p3), .val (.int p4), .val (.int p5), .val (.int ((2 : Int32) + ((p5 &&& (3 : Int32)) % (3 : Int32)))), .val (.int (1 : Int32)), .val (.int (p4.toInt8.toInt32)), .val (.ref b1), .val (.int (p0 &&& (255 : Int32))), .unset, .unset, .unset, .unset]) at_118 rfl ?_
    refine o_iloadN cx X85 at_120 rfl ?_
    refine o_bipush cx X85 (z := (63 : Int32)) at_121 rfl ?_
    refine o_iand cx X85 at_123 rfl ?_
    refine o_istore cx X85 (Ls' := #[.val (.int p0), .val (.int p1), .val (.int p2), .val (.int p3), .val (.int p4), .val (.int p5), .val (.int ((2 : Int32) + ((p5 &&& (3 : Int32)) % (3 : Int32)))), .val (.int (1 : Int32)), .val (.int (p4.toInt8.toInt32)), .val (.ref b1), .val (.int (p0 &&& (255 : Int32))), .val (.int (p1 &&& (63 : Int32))), .unset, .unset, .unset]) at_124 rfl ?_
    refine o_iloadN cx X85 at_126 rfl ?_
    refine o_bipush cx X85 (z := (63 : Int32)) at_127 rfl ?_
    refine o_iand cx X85 at_129 rfl ?_
    refine o_istore cx X85 (Ls' := #[.val (.int p0), .val (.int p1), .val (.int p2), .val (.int p3), .val (.int p4), .val (.int p5), .val (.int ((2 : Int32) + ((p5 &&& (3 : Int32)) % (3 : Int32)))), .val (.int (1 : Int32)), .val (.int (p4.toInt8.toInt32)), .val (.ref b1), .val (.int (p0 &&& (255 : Int32))), .val (.int (p1 &&& (63 : Int32))), .val (.int (p2 &&& (63 : Int32))), .unset, .unset]) at_130 rfl ?_
    refine o_iloadN cx X85 at_132 rfl ?_
    refine o_bipush cx X85 (z := (63 : Int32)) at_133 rfl ?_
    refine o_iand cx X85 at_135 rfl ?_
    refine o_istore cx X85 (Ls' := #[.val (.int p0), .val (.int p1), .val (.int p2), .val (.int p3), .val (.int p4), .val (.int p5), .val (.int ((2 : Int32) + ((p5 &&& (3 : Int32)) % (3 : Int32)))), .val (.int (1 : Int32)), .val (.int (p4.toInt8.toInt32)), .val (.ref b1), .val (.int (p0 &&& (255 : Int32))), .val (.int (p1 &&& (63 : Int32))), .val (.int (p2 &&& (63 : Int32))), .val (.int (p3 &&& (63 : Int32))), .unset]) at_136 rfl ?_
    rcases own_and3 p5 with hsz | hsz | hsz
    · rw [hsz]
      show own_Go p e below _ (T84.setTop (mkF m 138 #[.val (.int p0), .val (.int p1), .val (.int p2), .val (.int p3), .val (.int p4), .val (.int p5), .val (.int (2 : Int32)), .val (.int (1 : Int32)), .val (.int (p4.toInt8.toInt32)), .val (.ref b1), .val (.int (p0 &&& (255 : Int32))), .val (.int (p1 &&& (63 : Int32))), .val (.int (p2 &&& (63 : Int32))), .val (.int (p3 &&& (63 : Int32))), .unset] []))
      refine o_iload cx X85 at_138 rfl ?_
      refine o_iconst cx X85 (z := (2 : Int32)) at_140 rfl ?_
      refine o_icmpNo cx X85 at_141 (by decide) ?_
      refine o_iload cx X85 at_144 rfl ?_
      refine o_bipush cx X85 (z := (31 : Int32)) at_146 rfl ?_
      refine o_iand cx X85 at_148 rfl ?_
      refine o_bipush cx X85 (z := (64 : Int32)) at_149 rfl ?_
      refine o_imul cx X85 at_151 rfl ?_
      refine o_iload cx X85 at_152 rfl ?_
      refine o_iadd cx X85 at_154 rfl ?_
      refine o_istore cx X85 (Ls' := #[.val (.int p0), .val (.int p1), .val (.int p2), .val (.int p3), .val (.int p4), .val (.int p5), .val (.int (2 : Int32)), .val (.int (1 : Int32)), .val (.int (p4.toInt8.toInt32)), .val (.ref b1), .val (.int (p0 &&& (255 : Int32))), .val (.int (p1 &&& (63 : Int32))), .val (.int (p2 &&& (63 : Int32))), .val (.int (p3 &&& (63 : Int32))), .val (.int ((((p0 &&& (255 : Int32)) &&& (31 : Int32)) * (64 : Int32)) + (p1 &&& (63 : Int32))))]) at_155 rfl ?_
      refine o_goto cx X85 215 at_157 (by decide) (by decide) ?_
      refine o_aload cx X85 at_215 rfl rfl ?_
      refine o_iload cx X85 at_217 rfl ?_
      refine o_iload cx X85 at_219 rfl ?_
      refine o_callSp cx X85 (y' := (⟨"com/example/vestwright/vestwright/io/Utf8", "codePoint", "([BII)I"⟩ : MethodName)) (argsL := [(.ref b1), (.int (1 : Int32)), (.int (2 : Int32))]) (st := []) at_221 (o_w hw 1 rfl) (o_w hw 2 rfl) (o_w hw 3 rfl) (o_w hw 4 rfl) (by decide) (rm1_2 l Z a0 hw b1 (1 : Int32) [(.int (p4.toInt8.toInt32)), (.int (p0.toInt8.toInt32)), (.int (p1.toInt8.toInt32)), (.int (p2.toInt8.toInt32)), (.int (p3.toInt8.toInt32)), (.int (p4.toInt8.toInt32)), (.int (p4.toInt8.toInt32)), (.int (p4.toInt8.toInt32))] 1 2 (p0.toInt8.toInt32) (p1.toInt8.toInt32) h86 n0 X85.ge0 A6 (by decide) (by decide) rfl (by decide) (by decide) rfl) (by decide) 0 rfl (by decide) rfl (lenOf pd_1 rfl) rfl rfl (by decide) (by decide) fun T88 X89 => ?_
      show own_Go p e below _ (T88.setTop (mkF m 224 #[.val (.int p0), .val (.int p1), .val (.int p2), .val (.int p3), .val (.int p4), .val (.int p5), .val (.int (2 : Int32)), .val (.int (1 : Int32)), .val (.int (p4.toInt8.toInt32)), .val (.ref b1), .val (.int (p0 &&& (255 : Int32))), .val (.int (p1 &&& (63 : Int32))), .val (.int (p2 &&& (63 : Int32))), .val (.int (p3 &&& (63 : Int32))), .val (.int ((((p0 &&& (255 : Int32)) &&& (31 : Int32)) * (64 : Int32)) + (p1 &&& (63 : Int32))))] [(.int ((((p0.toInt8.toInt32) &&& (31 : Int32)) <<< ((6 : Int32) &&& 31)) ||| ((p1.toInt8.toInt32) &&& (63 : Int32))))]))
      refine o_iload cx X89 at_224 rfl ?_
      refine o_icmpNo cx X89 at_226 (teq (own_pin2 p0 p1 p2 p3 : ((((p0.toInt8.toInt32) &&& (31 : Int32)) <<< ((6 : Int32) &&& 31)) ||| ((p1.toInt8.toInt32) &&& (63 : Int32))) = ((((p0 &&& (255 : Int32)) &&& (31 : Int32)) * (64 : Int32)) + (p1 &&& (63 : Int32))))).2 ?_
      refine o_iconst cx X89 (z := (1 : Int32)) at_229 rfl ?_
      refine o_goto cx X89 234 at_230 (by decide) (by decide) ?_
      exact o_retN cx X89 (z' := (1 : Int32)) at_234 (by simp) rfl rfl (by decide) (by decide)
    · rw [hsz]
      show own_Go p e below _ (T84.setTop (mkF m 138 #[.val (.int p0), .val (.int p1), .val (.int p2), .val (.int p3), .val (.int p4), .val (.int p5), .val (.int (3 : Int32)), .val (.int (1 : Int32)), .val (.int (p4.toInt8.toInt32)), .val (.ref b1), .val (.int (p0 &&& (255 : Int32))), .val (.int (p1 &&& (63 : Int32))), .val (.int (p2 &&& (63 : Int32))), .val (.int (p3 &&& (63 : Int32))), .unset] []))
      refine o_iload cx X85 at_138 rfl ?_
      refine o_iconst cx X85 (z := (2 : Int32)) at_140 rfl ?_
      refine o_icmpYes cx X85 160 at_141 (by decide) (by decide) (by decide) ?_
      refine o_iload cx X85 at_160 rfl ?_
      refine o_iconst cx X85 (z := (3 : Int32)) at_162 rfl ?_
      refine o_icmpNo cx X85 at_163 (by decide) ?_
      refine o_iload cx X85 at_166 rfl ?_
      refine o_bipush cx X85 (z := (15 : Int32)) at_168 rfl ?_
      refine o_iand cx X85 at_170 rfl ?_
      refine o_sipush cx X85 (z := (4096 : Int32)) at_171 rfl ?_
      refine o_imul cx X85 at_174 rfl ?_
      refine o_iload cx X85 at_175 rfl ?_
      refine o_bipush cx X85 (z := (64 : Int32)) at_177 rfl ?_
      refine o_imul cx X85 at_179 rfl ?_
      refine o_iadd cx X85 at_180 rfl ?_
      refine o_iload cx X85 at_181 rfl ?_
      refine o_iadd cx X85 at_183 rfl ?_
      refine o_istore cx X85 (Ls' := #[.val (.int p0), .val (.int p1), .val (.int p2), .val (.int p3), .val (.int p4), .val (.int p5), .val (.int (3 : Int32)), .val (.int (1 : Int32)), .val (.int (p4.toInt8.toInt32)), .val (.ref b1), .val (.int (p0 &&& (255 : Int32))), .val (.int (p1 &&& (63 : Int32))), .val (.int (p2 &&& (63 : Int32))), .val (.int (p3 &&& (63 : Int32))), .val (.int (((((p0 &&& (255 : Int32)) &&& (15 : Int32)) * (4096 : Int32)) + ((p1 &&& (63 : Int32)) * (64 : Int32))) + (p2 &&& (63 : Int32))))]) at_184 rfl ?_
      refine o_goto cx X85 215 at_186 (by decide) (by decide) ?_
      refine o_aload cx X85 at_215 rfl rfl ?_
      refine o_iload cx X85 at_217 rfl ?_
      refine o_iload cx X85 at_219 rfl ?_
      refine o_callSp cx X85 (y' := (⟨"com/example/vestwright/vestwright/io/Utf8", "codePoint", "([BII)I"⟩ : MethodName)) (argsL := [(.ref b1), (.int (1 : Int32)), (.int (3 : Int32))]) (st := []) at_221 (o_w hw 1 rfl) (o_w hw 2 rfl) (o_w hw 3 rfl) (o_w hw 4 rfl) (by decide) (rm1_3 l Z a0 hw b1 (1 : Int32) [(.int (p4.toInt8.toInt32)), (.int (p0.toInt8.toInt32)), (.int (p1.toInt8.toInt32)), (.int (p2.toInt8.toInt32)), (.int (p3.toInt8.toInt32)), (.int (p4.toInt8.toInt32)), (.int (p4.toInt8.toInt32)), (.int (p4.toInt8.toInt32))] 1 2 3 (p0.toInt8.toInt32) (p1.toInt8.toInt32) (p2.toInt8.toInt32) h86 n0 X85.ge0 A6 (by decide) (by decide) rfl (by decide) (by decide) rfl (by decide) (by decide) rfl) (by decide) 0 rfl (by decide) rfl (lenOf pd_1 rfl) rfl rfl (by decide) (by decide) fun T93 X94 => ?_
      show own_Go p e below _ (T93.setTop (mkF m 224 #[.val (.int p0), .val (.int p1), .val (.int p2), .val (.int p3), .val (.int p4), .val (.int p5), .val (.int (3 : Int32)), .val (.int (1 : Int32)), .val (.int (p4.toInt8.toInt32)), .val (.ref b1), .val (.int (p0 &&& (255 : Int32))), .val (.int (p1 &&& (63 : Int32))), .val (.int (p2 &&& (63 : Int32))), .val (.int (p3 &&& (63 : Int32))), .val (.int (((((p0 &&& (255 : Int32)) &&& (15 : Int32)) * (4096 : Int32)) + ((p1 &&& (63 : Int32)) * (64 : Int32))) + (p2 &&& (63 : Int32))))] [(.int ((((((p0.toInt8.toInt32) &&& (15 : Int32)) <<< ((6 : Int32) &&& 31)) ||| ((p1.toInt8.toInt32) &&& (63 : Int32))) <<< ((6 : Int32) &&& 31)) ||| ((p2.toInt8.toInt32) &&& (63 : Int32))))]))
      refine o_iload cx X94 at_224 rfl ?_
      refine o_icmpNo cx X94 at_226 (teq (own_pin3 p0 p1 p2 p3 : ((((((p0.toInt8.toInt32) &&& (15 : Int32)) <<< ((6 : Int32) &&& 31)) ||| ((p1.toInt8.toInt32) &&& (63 : Int32))) <<< ((6 : Int32) &&& 31)) ||| ((p2.toInt8.toInt32) &&& (63 : Int32))) = (((((p0 &&& (255 : Int32)) &&& (15 : Int32)) * (4096 : Int32)) + ((p1 &&& (63 : Int32)) * (64 : Int32))) + (p2 &&& (63 : Int32))))).2 ?_
      refine o_iconst cx X94 (z := (1 : Int32)) at_229 rfl ?_
      refine o_goto cx X94 234 at_230 (by decide) (by decide) ?_
      exact o_retN cx X94 (z' := (1 : Int32)) at_234 (by simp) rfl rfl (by decide) (by decide)
    · rw [hsz]
      show own_Go p e below _ (T84.setTop (mkF m 138 #[.val (.int p0), .val (.int p1), .val (.int p2), .val (.int p3), .val (.int p4), .val (.int p5), .val (.int (4 : Int32)), .val (.int (1 : Int32)), .val (.int (p4.toInt8.toInt32)), .val (.ref b1), .val (.int (p0 &&& (255 : Int32))), .val (.int (p1 &&& (63 : Int32))), .val (.int (p2 &&& (63 : Int32))), .val (.int (p3 &&& (63 : Int32))), .unset] []))
      refine o_iload cx X85 at_138 rfl ?_
      refine o_iconst cx X85 (z := (2 : Int32)) at_140 rfl ?_
      refine o_icmpYes cx X85 160 at_141 (by decide) (by decide) (by decide) ?_
      refine o_iload cx X85 at_160 rfl ?_
      refine o_iconst cx X85 (z := (3 : Int32)) at_162 rfl ?_
      refine o_icmpYes cx X85 189 at_163 (by decide) (by decide) (by decide) ?_
      refine o_iload cx X85 at_189 rfl ?_
      refine o_bipush cx X85 (z := (7 : Int32)) at_191 rfl ?_
      refine o_iand cx X85 at_193 rfl ?_
      refine o_ldc cx X85 (z := (262144 : Int32)) at_194 (o_w hw 5 rfl) ?_
      refine o_imul cx X85 at_196 rfl ?_
      refine o_iload cx X85 at_197 rfl ?_
      refine o_sipush cx X85 (z := (4096 : Int32)) at_199 rfl ?_
      refine o_imul cx X85 at_202 rfl ?_
      refine o_iadd cx X85 at_203 rfl ?_
      refine o_iload cx X85 at_204 rfl ?_
      refine o_bipush cx X85 (z := (64 : Int32)) at_206 rfl ?_
      refine o_imul cx X85 at_208 rfl ?_
      refine o_iadd cx X85 at_209 rfl ?_
      refine o_iload cx X85 at_210 rfl ?_
      refine o_iadd cx X85 at_212 rfl ?_
      refine o_istore cx X85 (Ls' := #[.val (.int p0), .val (.int p1), .val (.int p2), .val (.int p3), .val (.int p4), .val (.int p5), .val (.int (4 : Int32)), .val (.int (1 : Int32)), .val (.int (p4.toInt8.toInt32)), .val (.ref b1), .val (.int (p0 &&& (255 : Int32))), .val (.int (p1 &&& (63 : Int32))), .val (.int (p2 &&& (63 : Int32))), .val (.int (p3 &&& (63 : Int32))), .val (.int ((((((p0 &&& (255 : Int32)) &&& (7 : Int32)) * (262144 : Int32)) + ((p1 &&& (63 : Int32)) * (4096 : Int32))) + ((p2 &&& (63 : Int32)) * (64 : Int32))) + (p3 &&& (63 : Int32))))]) at_213 rfl ?_
      refine o_aload cx X85 at_215 rfl rfl ?_
      refine o_iload cx X85 at_217 rfl ?_
      refine o_iload cx X85 at_219 rfl ?_
      refine o_callSp cx X85 (y' := (⟨"com/example/vestwright/vestwright/io/Utf8", "codePoint", "([BII)I"⟩ : MethodName)) (argsL := [(.ref b1), (.int (1 : Int32)), (.int (4 : Int32))]) (st := []) at_221 (o_w hw 1 rfl) (o_w hw 2 rfl) (o_w hw 3 rfl) (o_w hw 4 rfl) (by decide) (rm1_4 l Z a0 hw b1 (1 : Int32) [(.int (p4.toInt8.toInt32)), (.int (p0.toInt8.toInt32)), (.int (p1.toInt8.toInt32)), (.int (p2.toInt8.toInt32)), (.int (p3.toInt8.toInt32)), (.int (p4.toInt8.toInt32)), (.int (p4.toInt8.toInt32)), (.int (p4.toInt8.toInt32))] 1 2 3 4 (p0.toInt8.toInt32) (p1.toInt8.toInt32) (p2.toInt8.toInt32) (p3.toInt8.toInt32) h86 n0 X85.ge0 A6 (by decide) (by decide) rfl (by decide) (by decide) rfl (by decide) (by decide) rfl (by decide) (by decide) rfl) (by decide) 0 rfl (by decide) rfl (lenOf pd_1 rfl) rfl rfl (by decide) (by decide) fun T98 X99 => ?_
      show own_Go p e below _ (T98.setTop (mkF m 224 #[.val (.int p0), .val (.int p1), .val (.int p2), .val (.int p3), .val (.int p4), .val (.int p5), .val (.int (4 : Int32)), .val (.int (1 : Int32)), .val (.int (p4.toInt8.toInt32)), .val (.ref b1), .val (.int (p0 &&& (255 : Int32))), .val (.int (p1 &&& (63 : Int32))), .val (.int (p2 &&& (63 : Int32))), .val (.int (p3 &&& (63 : Int32))), .val (.int ((((((p0 &&& (255 : Int32)) &&& (7 : Int32)) * (262144 : Int32)) + ((p1 &&& (63 : Int32)) * (4096 : Int32))) + ((p2 &&& (63 : Int32)) * (64 : Int32))) + (p3 &&& (63 : Int32))))] [(.int ((((((((p0.toInt8.toInt32) &&& (7 : Int32)) <<< ((6 : Int32) &&& 31)) ||| ((p1.toInt8.toInt32) &&& (63 : Int32))) <<< ((6 : Int32) &&& 31)) ||| ((p2.toInt8.toInt32) &&& (63 : Int32))) <<< ((6 : Int32) &&& 31)) ||| ((p3.toInt8.toInt32) &&& (63 : Int32))))]))
      refine o_iload cx X99 at_224 rfl ?_
      refine o_icmpNo cx X99 at_226 (teq (own_pin4 p0 p1 p2 p3 : ((((((((p0.toInt8.toInt32) &&& (7 : Int32)) <<< ((6 : Int32) &&& 31)) ||| ((p1.toInt8.toInt32) &&& (63 : Int32))) <<< ((6 : Int32) &&& 31)) ||| ((p2.toInt8.toInt32) &&& (63 : Int32))) <<< ((6 : Int32) &&& 31)) ||| ((p3.toInt8.toInt32) &&& (63 : Int32))) = ((((((p0 &&& (255 : Int32)) &&& (7 : Int32)) * (262144 : Int32)) + ((p1 &&& (63 : Int32)) * (4096 : Int32))) + ((p2 &&& (63 : Int32)) * (64 : Int32))) + (p3 &&& (63 : Int32))))).2 ?_
      refine o_iconst cx X99 (z := (1 : Int32)) at_229 rfl ?_
      refine o_goto cx X99 234 at_230 (by decide) (by decide) ?_
      exact o_retN cx X99 (z' := (1 : Int32)) at_234 (by simp) rfl rfl (by decide) (by decide)
  · rw [hat]
    show own_Go p e below _ (T37.setTop (mkF m 79 #[.val (.int p0), .val (.int p1), .val (.int p2), .val (.int p3), .val (.int p4), .val (.int p5), .val (.int ((2 : Int32) + ((p5 &&& (3 : Int32)) % (3 : Int32)))), .val (.int (2 : Int32)), .val (.int (p4.toInt8.toInt32)), .val (.ref b1), .unset, .unset, .unset, .unset, .unset] []))
    refine o_aload cx X38 at_79 rfl rfl ?_
    refine o_iload cx X38 at_81 rfl ?_
    refine o_iloadN cx X38 at_83 rfl ?_
    refine o_i2b cx X38 at_84 rfl ?_
    refine o_stB cx X38 (x' := (p0.toInt8.toInt32)) at_85 A6 2 (by decide) rfl (Nat.le_of_ble_eq_true rfl) (own_i8 _) ge8 fun T103 h105 X104 W106 A6 => ?_
    have A6 : own_Ar Z h105 b1 .byte [(.int (p4.toInt8.toInt32)), (.int (p4.toInt8.toInt32)), (.int (p0.toInt8.toInt32)), (.int (p4.toInt8.toInt32)), (.int (p4.toInt8.toInt32)), (.int (p4.toInt8.toInt32)), (.int (p4.toInt8.toInt32)), (.int (p4.toInt8.toInt32))] := A6
    refine o_aload cx X104 at_86 rfl rfl ?_
    refine o_iload cx X104 at_88 rfl ?_
    refine o_iconst cx X104 (z := (1 : Int32)) at_90 rfl ?_
    refine o_iadd cx X104 (z := (3 : Int32)) at_91 rfl ?_
    refine o_iloadN cx X104 at_92 rfl ?_
    refine o_i2b cx X104 at_93 rfl ?_
    refine o_stB cx X104 (x' := (p1.toInt8.toInt32)) at_94 A6 3 (by decide) rfl (Nat.le_of_ble_eq_true rfl) (own_i8 _) ge8 fun T107 h109 X108 W110 A6 => ?_
    have A6 : own_Ar Z h109 b1 .byte [(.int (p4.toInt8.toInt32)), (.int (p4.toInt8.toInt32)), (.int (p0.toInt8.toInt32)), (.int (p1.toInt8.toInt32)), (.int (p4.toInt8.toInt32)), (.int (p4.toInt8.toInt32)), (.int (p4.toInt8.toInt32)), (.int (p4.toInt8.toInt32))] := A6
    refine o_aload cx X108 at_95 rfl rfl ?_
    refine o_iload cx X108 at_97 rfl ?_
    refine o_iconst cx X108 (z := (2 : Int32)) at_99 rfl ?_
    refine o_iadd cx X108 (z := (4 : Int32)) at_100 rfl ?_
    refine o_iloadN cx X108 at_101 rfl ?_
    refine o_i2b cx X108 at_102 rfl ?_
    refine o_stB cx X108 (x' := (p2.toInt8.toInt32)) at_103 A6 4 (by decide) rfl (Nat.le_of_ble_eq_true rfl) (own_i8 _) ge8 fun T111 h113 X112 W114 A6 => ?_
    have A6 : own_Ar Z h113 b1 .byte [(.int (p4.toInt8.toInt32)), (.int (p4.toInt8.toInt32)), (.int (p0.toInt8.toInt32)), (.int (p1.toInt8.toInt32)), (.int (p2.toInt8.toInt32)), (.int (p4.toInt8.toInt32)), (.int (p4.toInt8.toInt32)), (.int (p4.toInt8.toInt32))] := A6
    refine o_aload cx X112 at_104 rfl rfl ?_
    refine o_iload cx X112 at_106 rfl ?_
    refine o_iconst cx X112 (z := (3 : Int32)) at_108 rfl ?_
    refine o_iadd cx X112 (z := (5 : Int32)) at_109 rfl ?_
    refine o_iloadN cx X112 at_110 rfl ?_
    refine o_i2b cx X112 at_111 rfl ?_
    refine o_stB cx X112 (x' := (p3.toInt8.toInt32)) at_112 A6 5 (by decide) rfl (Nat.le_of_ble_eq_true rfl) (own_i8 _) ge8 fun T115 h117 X116 W118 A6 => ?_
    have A6 : own_Ar Z h117 b1 .byte [(.int (p4.toInt8.toInt32)), (.int (p4.toInt8.toInt32)), (.int (p0.toInt8.toInt32)), (.int (p1.toInt8.toInt32)), (.int (p2.toInt8.toInt32)), (.int (p3.toInt8.toInt32)), (.int (p4.toInt8.toInt32)), (.int (p4.toInt8.toInt32))] := A6
    refine o_iloadN cx X116 at_113 rfl ?_
    refine o_sipush cx X116 (z := (255 : Int32)) at_114 rfl ?_
    refine o_iand cx X116 at_117 rfl ?_
    refine o_istore cx X116 (Ls' := #[.val (.int p0), .val (.int p1), .val (.int p2), .val (.int p3), .val (.int p4), .val (.int p5), .val (.int ((2 : Int32) + ((p5 &&& (3 : Int32)) % (3 : Int32)))), .val (.int (2 : Int32)), .val (.int (p4.toInt8.toInt32)), .val (.ref b1), .val (.int (p0 &&& (255 : Int32))), .unset, .unset, .unset, .unset]) at_118 rfl ?_
    refine o_iloadN cx X116 at_120 rfl ?_
    refine o_bipush cx X116 (z := (63 : Int32)) at_121 rfl ?_
    refine o_iand cx X116 at_123 rfl ?_
    refine o_istore cx X116 (Ls' := #[.val (.int p0), .val (.int p1), .val (.int p2), .val (.int p3), .val (.int p4), .val (.int p5), .val (.int ((2 : Int32) + ((p5 &&& (3 : Int32)) % (3 : Int32)))), .val (.int (2 : Int32)), .val (.int (p4.toInt8.toInt32)), .val (.ref b1), .val (.int (p0 &&& (255 : Int32))), .val (.int (p1 &&& (63 : Int32))), .unset, .unset, .unset]) at_124 rfl ?_
    refine o_iloadN cx X116 at_126 rfl ?_
    refine o_bipush cx X116 (z := (63 : Int32)) at_127 rfl ?_
    refine o_iand cx X116 at_129 rfl ?_
    refine o_istore cx X116 (Ls' := #[.val (.int p0), .val (.int p1), .val (.int p2), .val (.int p3), .val (.int p4), .val (.int p5), .val (.int ((2 : Int32) + ((p5 &&& (3 : Int32)) % (3 : Int32)))), .val (.int (2 : Int32)), .val (.int (p4.toInt8.toInt32)), .val (.ref b1), .val (.int (p0 &&& (255 : Int32))), .val (.int (p1 &&& (63 : Int32))), .val (.int (p2 &&& (63 : Int32))), .unset, .unset]) at_130 rfl ?_
    refine o_iloadN cx X116 at_132 rfl ?_
    refine o_bipush cx X116 (z := (63 : Int32)) at_133 rfl ?_
    refine o_iand cx X116 at_135 rfl ?_
    refine o_istore cx X116 (Ls' := #[.val (.int p0), .val (.int p1), .val (.int p2), .val (.int p3), .val (.int p4), .val (.int p5), .val (.int ((2 : Int32) + ((p5 &&& (3 : Int32)) % (3 : Int32)))), .val (.int (2 : Int32)), .val (.int (p4.toInt8.toInt32)), .val (.ref b1), .val (.int (p0 &&& (255 : Int32))), .val (.int (p1 &&& (63 : Int32))), .val (.int (p2 &&& (63 : Int32))), .val (.int (p3 &&& (63 : Int32))), .unset]) at_136 rfl ?_
    rcases own_and3 p5 with hsz | hsz | hsz
    · rw [hsz]
      show own_Go p e below _ (T115.setTop (mkF m 138 #[.val (.int p0), .val (.int p1), .val (.int p2), .val (.int p3), .val (.int p4), .val (.int p5), .val (.int (2 : Int32)), .val (.int (2 : Int32)), .val (.int (p4.toInt8.toInt32)), .val (.ref b1), .val (.int (p0 &&& (255 : Int32))), .val (.int (p1 &&& (63 : Int32))), .val (.int (p2 &&& (63 : Int32))), .val (.int (p3 &&& (63 : Int32))), .unset] []))
      refine o_iload cx X116 at_138 rfl ?_
      refine o_iconst cx X116 (z := (2 : Int32)) at_140 rfl ?_
      refine o_icmpNo cx X116 at_141 (by decide) ?_
      refine o_iload cx X116 at_144 rfl ?_
      refine o_bipush cx X116 (z := (31 : Int32)) at_146 rfl ?_
      refine o_iand cx X116 at_148 rfl ?_
      refine o_bipush cx X116 (z := (64 : Int32)) at_149 rfl ?_
      refine o_imul cx X116 at_151 rfl ?_
      refine o_iload cx X116 at_152 rfl ?_
      refine o_iadd cx X116 at_154 rfl ?_
      refine o_istore cx X116 (Ls' := #[.val (.int p0), .val (.int p1), .val (.int p2), .val (.int p3), .val (.int p4), .val (.int p5), .val (.int (2 : Int32)), .val (.int (2 : Int32)), .val (.int (p4.toInt8.toInt32)), .val (.ref b1), .val (.int (p0 &&& (255 : Int32))), .val (.int (p1 &&& (63 : Int32))), .val (.int (p2 &&& (63 : Int32))), .val (.int (p3 &&& (63 : Int32))), .val (.int ((((p0 &&& (255 : Int32)) &&& (31 : Int32)) * (64 : Int32)) + (p1 &&& (63 : Int32))))]) at_155 rfl ?_
      refine o_goto cx X116 215 at_157 (by decide) (by decide) ?_
      refine o_aload cx X116 at_215 rfl rfl ?_
      refine o_iload cx X116 at_217 rfl ?_
      refine o_iload cx X116 at_219 rfl ?_
      refine o_callSp cx X116 (y' := (⟨"com/example/vestwright/vestwright/io/Utf8", "codePoint", "([BII)I"⟩ : MethodName)) (argsL := [(.ref b1), (.int (2 : Int32)), (.int (2 : Int32))]) (st := []) at_221 (o_w hw 1 rfl) (o_w hw 2 rfl) (o_w hw 3 rfl) (o_w hw 4 rfl) (by decide) (rm1_2 l Z a0 hw b1 (2 : Int32) [(.int (p4.toInt8.toInt32)), (.int (p4.toInt8.toInt32)), (.int (p0.toInt8.toInt32)), (.int (p1.toInt8.toInt32)), (.int (p2.toInt8.toInt32)), (.int (p3.toInt8.toInt32)), (.int (p4.toInt8.toInt32)), (.int (p4.toInt8.toInt32))] 2 3 (p0.toInt8.toInt32) (p1.toInt8.toInt32) h117 n0 X116.ge0 A6 (by decide) (by decide) rfl (by decide) (by decide) rfl) (by decide) 0 rfl (by decide) rfl (lenOf pd_1 rfl) rfl rfl (by decide) (by decide) fun T119 X120 => ?_
      show own_Go p e below _ (T119.setTop (mkF m 224 #[.val (.int p0), .val (.int p1), .val (.int p2), .val (.int p3), .val (.int p4), .val (.int p5), .val (.int (2 : Int32)), .val (.int (2 : Int32)), .val (.int (p4.toInt8.toInt32)), .val (.ref b1), .val (.int (p0 &&& (255 : Int32))), .val (.int (p1 &&& (63 : Int32))), .val (.int (p2 &&& (63 : Int32))), .val (.int (p3 &&& (63 : Int32))), .val (.int ((((p0 &&& (255 : Int32)) &&& (31 : Int32)) * (64 : Int32)) + (p1 &&& (63 : Int32))))] [(.int ((((p0.toInt8.toInt32) &&& (31 : Int32)) <<< ((6 : Int32) &&& 31)) ||| ((p1.toInt8.toInt32) &&& (63 : Int32))))]))
      refine o_iload cx X120 at_224 rfl ?_
      refine o_icmpNo cx X120 at_226 (teq (own_pin2 p0 p1 p2 p3 : ((((p0.toInt8.toInt32) &&& (31 : Int32)) <<< ((6 : Int32) &&& 31)) ||| ((p1.toInt8.toInt32) &&& (63 : Int32))) = ((((p0 &&& (255 : Int32)) &&& (31 : Int32)) * (64 : Int32)) + (p1 &&& (63 : Int32))))).2 ?_
      refine o_iconst cx X120 (z := (1 : Int32)) at_229 rfl ?_
      refine o_goto cx X120 234 at_230 (by decide) (by decide) ?_
      exact o_retN cx X120 (z' := (1 : Int32)) at_234 (by simp) rfl rfl (by decide) (by decide)
    · rw [hsz]
      show own_Go p e below _ (T115.setTop (mkF m 138 #[.val (.int p0), .val (.int p1), .val (.int p2), .val (.int p3), .val (.int p4), .val (.int p5), .val (.int (3 : Int32)), .val (.int (2 : Int32)), .val (.int (p4.toInt8.toInt32)), .val (.ref b1), .val (.int (p0 &&& (255 : Int32))), .val (.int (p1 &&& (63 : Int32))), .val (.int (p2 &&& (63 : Int32))), .val (.int (p3 &&& (63 : Int32))), .unset] []))
      refine o_iload cx X116 at_138 rfl ?_
      refine o_iconst cx X116 (z := (2 : Int32)) at_140 rfl ?_
      refine o_icmpYes cx X116 160 at_141 (by decide) (by decide) (by decide) ?_
      refine o_iload cx X116 at_160 rfl ?_
      refine o_iconst cx X116 (z := (3 : Int32)) at_162 rfl ?_
      refine o_icmpNo cx X116 at_163 (by decide) ?_
      refine o_iload cx X116 at_166 rfl ?_
      refine o_bipush cx X116 (z := (15 : Int32)) at_168 rfl ?_
      refine o_iand cx X116 at_170 rfl ?_
      refine o_sipush cx X116 (z := (4096 : Int32)) at_171 rfl ?_
      refine o_imul cx X116 at_174 rfl ?_
      refine o_iload cx X116 at_175 rfl ?_
      refine o_bipush cx X116 (z := (64 : Int32)) at_177 rfl ?_
      refine o_imul cx X116 at_179 rfl ?_
      refine o_iadd cx X116 at_180 rfl ?_
      refine o_iload cx X116 at_181 rfl ?_
      refine o_iadd cx X116 at_183 rfl ?_
      refine o_istore cx X116 (Ls' := #[.val (.int p0), .val (.int p1), .val (.int p2), .val (.int p3), .val (.int p4), .val (.int p5), .val (.int (3 : Int32)), .val (.int (2 : Int32)), .val (.int (p4.toInt8.toInt32)), .val (.ref b1), .val (.int (p0 &&& (255 : Int32))), .val (.int (p1 &&& (63 : Int32))), .val (.int (p2 &&& (63 : Int32))), .val (.int (p3 &&& (63 : Int32))), .val (.int (((((p0 &&& (255 : Int32)) &&& (15 : Int32)) * (4096 : Int32)) + ((p1 &&& (63 : Int32)) * (64 : Int32))) + (p2 &&& (63 : Int32))))]) at_184 rfl ?_
      refine o_goto cx X116 215 at_186 (by decide) (by decide) ?_
      refine o_aload cx X116 at_215 rfl rfl ?_
      refine o_iload cx X116 at_217 rfl ?_
      refine o_iload cx X116 at_219 rfl ?_
      refine o_callSp cx X116 (y' := (⟨"com/example/vestwright/vestwright/io/Utf8", "codePoint", "([BII)I"⟩ : MethodName)) (argsL := [(.ref b1), (.int (2 : Int32)), (.int (3 : Int32))]) (st := []) at_221 (o_w hw 1 rfl) (o_w hw 2 rfl) (o_w hw 3 rfl) (o_w hw 4 rfl) (by decide) (rm1_3 l Z a0 hw b1 (2 : Int32) [(.int (p4.toInt8.toInt32)), (.int (p4.toInt8.toInt32)), (.int (p0.toInt8.toInt32)), (.int (p1.toInt8.toInt32)), (.int (p2.toInt8.toInt32)), (.int (p3.toInt8.toInt32)), (.int (p4.toInt8.toInt32)), (.int (p4.toInt8.toInt32))] 2 3 4 (p0.toInt8.toInt32) (p1.toInt8.toInt32) (p2.toInt8.toInt32) h117 n0 X116.ge0 A6 (by decide) (by decide) rfl (by decide) (by decide) rfl (by decide) (by decide) rfl) (by decide) 0 rfl (by decide) rfl (lenOf pd_1 rfl) rfl rfl (by decide) (by decide) fun T124 X125 => ?_
      show own_Go p e below _ (T124.setTop (mkF m 224 #[.val (.int p0), .val (.int p1), .val (.int p2), .val (.int p3), .val (.int p4), .val (.int p5), .val (.int (3 : Int32)), .val (.int (2 : Int32)), .val (.int (p4.toInt8.toInt32)), .val (.ref b1), .val (.int (p0 &&& (255 : Int32))), .val (.int (p1 &&& (63 : Int32))), .val (.int (p2 &&& (63 : Int32))), .val (.int (p3 &&& (63 : Int32))), .val (.int (((((p0 &&& (255 : Int32)) &&& (15 : Int32)) * (4096 : Int32)) + ((p1 &&& (63 : Int32)) * (64 : Int32))) + (p2 &&& (63 : Int32))))] [(.int ((((((p0.toInt8.toInt32) &&& (15 : Int32)) <<< ((6 : Int32) &&& 31)) ||| ((p1.toInt8.toInt32) &&& (63 : Int32))) <<< ((6 : Int32) &&& 31)) ||| ((p2.toInt8.toInt32) &&& (63 : Int32))))]))
      refine o_iload cx X125 at_224 rfl ?_
      refine o_icmpNo cx X125 at_226 (teq (own_pin3 p0 p1 p2 p3 : ((((((p0.toInt8.toInt32) &&& (15 : Int32)) <<< ((6 : Int32) &&& 31)) ||| ((p1.toInt8.toInt32) &&& (63 : Int32))) <<< ((6 : Int32) &&& 31)) ||| ((p2.toInt8.toInt32) &&& (63 : Int32))) = (((((p0 &&& (255 : Int32)) &&& (15 : Int32)) * (4096 : Int32)) + ((p1 &&& (63 : Int32)) * (64 : Int32))) + (p2 &&& (63 : Int32))))).2 ?_
      refine o_iconst cx X125 (z := (1 : Int32)) at_229 rfl ?_
      refine o_goto cx X125 234 at_230 (by decide) (by decide) ?_
      exact o_retN cx X125 (z' := (1 : Int32)) at_234 (by simp) rfl rfl (by decide) (by decide)
    · rw [hsz]
      show own_Go p e below _ (T115.setTop (mkF m 138 #[.val (.int p0), .val (.int p1), .val (.int p2), .val (.int p3), .val (.int p4), .val (.int p5), .val (.int (4 : Int32)), .val (.int (2 : Int32)), .val (.int (p4.toInt8.toInt32)), .val (.ref b1), .val (.int (p0 &&& (255 : Int32))), .val (.int (p1 &&& (63 : Int32))), .val (.int (p2 &&& (63 : Int32))), .val (.int (p3 &&& (63 : Int32))), .unset] []))
      refine o_iload cx X116 at_138 rfl ?_
      refine o_iconst cx X116 (z := (2 : Int32)) at_140 rfl ?_
      refine o_icmpYes cx X116 160 at_141 (by decide) (by decide) (by decide) ?_
      refine o_iload cx X116 at_160 rfl ?_
      refine o_iconst cx X116 (z := (3 : Int32)) at_162 rfl ?_
      refine o_icmpYes cx X116 189 at_163 (by decide) (by decide) (by decide) ?_
      refine o_iload cx X116 at_189 rfl ?_
      refine o_bipush cx X116 (z := (7 : Int32)) at_191 rfl ?_
      refine o_iand cx X116 at_193 rfl ?_
      refine o_ldc cx X116 (z := (262144 : Int32)) at_194 (o_w hw 5 rfl) ?_
      refine o_imul cx X116 at_196 rfl ?_
      refine o_iload cx X116 at_197 rfl ?_
      refine o_sipush cx X116 (z := (4096 : Int32)) at_199 rfl ?_
      refine o_imul cx X116 at_202 rfl ?_
      refine o_iadd cx X116 at_203 rfl ?_
      refine o_iload cx X116 at_204 rfl ?_
      refine o_bipush cx X116 (z := (64 : Int32)) at_206 rfl ?_
      refine o_imul cx X116 at_208 rfl ?_
      refine o_iadd cx X116 at_209 rfl ?_
      refine o_iload cx X116 at_210 rfl ?_
      refine o_iadd cx X116 at_212 rfl ?_
      refine o_istore cx X116 (Ls' := #[.val (.int p0), .val (.int p1), .val (.int p2), .val (.int p3), .val (.int p4), .val (.int p5), .val (.int (4 : Int32)), .val (.int (2 : Int32)), .val (.int (p4.toInt8.toInt32)), .val (.ref b1), .val (.int (p0 &&& (255 : Int32))), .val (.int (p1 &&& (63 : Int32))), .val (.int (p2 &&& (63 : Int32))), .val (.int (p3 &&& (63 : Int32))), .val (.int ((((((p0 &&& (255 : Int32)) &&& (7 : Int32)) * (262144 : Int32)) + ((p1 &&& (63 : Int32)) * (4096 : Int32))) + ((p2 &&& (63 : Int32)) * (64 : Int32))) + (p3 &&& (63 : Int32))))]) at_213 rfl ?_
      refine o_aload cx X116 at_215 rfl rfl ?_
      refine o_iload cx X116 at_217 rfl ?_
      refine o_iload cx X116 at_219 rfl ?_
      refine o_callSp cx X116 (y' := (⟨"com/example/vestwright/vestwright/io/Utf8", "codePoint", "([BII)I"⟩ : MethodName)) (argsL := [(.ref b1), (.int (2 : Int32)), (.int (4 : Int32))]) (st := []) at_221 (o_w hw 1 rfl) (o_w hw 2 rfl) (o_w hw 3 rfl) (o_w hw 4 rfl) (by decide) (rm1_4 l Z a0 hw b1 (2 : Int32) [(.int (p4.toInt8.toInt32)), (.int (p4.toInt8.toInt32)), (.int (p0.toInt8.toInt32)), (.int (p1.toInt8.toInt32)), (.int (p2.toInt8.toInt32)), (.int (p3.toInt8.toInt32)), (.int (p4.toInt8.toInt32)), (.int (p4.toInt8.toInt32))] 2 3 4 5 (p0.toInt8.toInt32) (p1.toInt8.toInt32) (p2.toInt8.toInt32) (p3.toInt8.toInt32) h117 n0 X116.ge0 A6 (by decide) (by decide) rfl (by decide) (by decide) rfl (by decide) (by decide) rfl (by decide) (by decide) rfl) (by decide) 0 rfl (by decide) rfl (lenOf pd_1 rfl) rfl rfl (by decide) (by decide) fun T129 X130 => ?_
      show own_Go p e below _ (T129.setTop (mkF m 224 #[.val (.int p0), .val (.int p1), .val (.int p2), .val (.int p3), .val (.int p4), .val (.int p5), .val (.int (4 : Int32)), .val (.int (2 : Int32)), .val (.int (p4.toInt8.toInt32)), .val (.ref b1), .val (.int (p0 &&& (255 : Int32))), .val (.int (p1 &&& (63 : Int32))), .val (.int (p2 &&& (63 : Int32))), .val (.int (p3 &&& (63 : Int32))), .val (.int ((((((p0 &&& (255 : Int32)) &&& (7 : Int32)) * (262144 : Int32)) + ((p1 &&& (63 : Int32)) * (4096 : Int32))) + ((p2 &&& (63 : Int32)) * (64 : Int32))) + (p3 &&& (63 : Int32))))] [(.int ((((((((p0.toInt8.toInt32) &&& (7 : Int32)) <<< ((6 : Int32) &&& 31)) ||| ((p1.toInt8.toInt32) &&& (63 : Int32))) <<< ((6 : Int32) &&& 31)) ||| ((p2.toInt8.toInt32) &&& (63 : Int32))) <<< ((6 : Int32) &&& 31)) ||| ((p3.toInt8.toInt32) &&& (63 : Int32))))]))
      refine o_iload cx X130 at_224 rfl ?_
      refine o_icmpNo cx X130 at_226 (teq (own_pin4 p0 p1 p2 p3 : ((((((((p0.toInt8.toInt32) &&& (7 : Int32)) <<< ((6 : Int32) &&& 31)) ||| ((p1.toInt8.toInt32) &&& (63 : Int32))) <<< ((6 : Int32) &&& 31)) ||| ((p2.toInt8.toInt32) &&& (63 : Int32))) <<< ((6 : Int32) &&& 31)) ||| ((p3.toInt8.toInt32) &&& (63 : Int32))) = ((((((p0 &&& (255 : Int32)) &&& (7 : Int32)) * (262144 : Int32)) + ((p1 &&& (63 : Int32)) * (4096 : Int32))) + ((p2 &&& (63 : Int32)) * (64 : Int32))) + (p3 &&& (63 : Int32))))).2 ?_
      refine o_iconst cx X130 (z := (1 : Int32)) at_229 rfl ?_
      refine o_goto cx X130 234 at_230 (by decide) (by decide) ?_
      exact o_retN cx X130 (z' := (1 : Int32)) at_234 (by simp) rfl rfl (by decide) (by decide)
  · rw [hat]
    show own_Go p e below _ (T37.setTop (mkF m 79 #[.val (.int p0), .val (.int p1), .val (.int p2), .val (.int p3), .val (.int p4), .val (.int p5), .val (.int ((2 : Int32) + ((p5 &&& (3 : Int32)) % (3 : Int32)))), .val (.int (3 : Int32)), .val (.int (p4.toInt8.toInt32)), .val (.ref b1), .unset, .unset, .unset, .unset, .unset] []))
    refine o_aload cx X38 at_79 rfl rfl ?_
    refine o_iload cx X38 at_81 rfl ?_
    refine o_iloadN cx X38 at_83 rfl ?_
    refine o_i2b cx X38 at_84 rfl ?_
    refine o_stB cx X38 (x' := (p0.toInt8.toInt32)) at_85 A6 3 (by decide) rfl (Nat.le_of_ble_eq_true rfl) (own_i8 _) ge8 fun T134 h136 X135 W137 A6 => ?_
    have A6 : own_Ar Z h136 b1 .byte [(.int (p4.toInt8.toInt32)), (.int (p4.toInt8.toInt32)), (.int (p4.toInt8.toInt32)), (.int (p0.toInt8.toInt32)), (.int (p4.toInt8.toInt32)), (.int (p4.toInt8.toInt32)), (.int (p4.toInt8.toInt32)), (.int (p4.toInt8.toInt32))] := A6
    refine o_aload cx X135 at_86 rfl rfl ?_
    refine o_iload cx X135 at_88 rfl ?_
    refine o_iconst cx X135 (z := (1 : Int32)) at_90 rfl ?_
    refine o_iadd cx X135 (z := (4 : Int32)) at_91 rfl ?_
    refine o_iloadN cx X135 at_92 rfl ?_
    refine o_i2b cx X135 at_93 rfl ?_
    refine o_stB cx X135 (x' := (p1.toInt8.toInt32)) at_94 A6 4 (by decide) rfl (Nat.le_of_ble_eq_true rfl) (own_i8 _) ge8 fun T138 h140 X139 W141 A6 => ?_
    have A6 : own_Ar Z h140 b1 .byte [(.int (p4.toInt8.toInt32)), (.int (p4.toInt8.toInt32)), (.int (p4.toInt8.toInt32)), (.int (p0.toInt8.toInt32)), (.int (p1.toInt8.toInt32)), (.int (p4.toInt8.toInt32)), (.int (p4.toInt8.toInt32)), (.int (p4.toInt8.toInt32))] := A6
    refine o_aload cx X139 at_95 rfl rfl ?_
    refine o_iload cx X139 at_97 rfl ?_
    refine o_iconst cx X139 (z := (2 : Int32)) at_99 rfl ?_
    refine o_iadd cx X139 (z := (5 : Int32)) at_100 rfl ?_
    refine o_iloadN cx X139 at_101 rfl ?_
    refine o_i2b cx X139 at_102 rfl ?_
    refine o_stB cx X139 (x' := (p2.toInt8.toInt32)) at_103 A6 5 (by decide) rfl (Nat.le_of_ble_eq_true rfl) (own_i8 _) ge8 fun T142 h144 X143 W145 A6 => ?_
    have A6 : own_Ar Z h144 b1 .byte [(.int (p4.toInt8.toInt32)), (.int (p4.toInt8.toInt32)), (.int (p4.toInt8.toInt32)), (.int (p0.toInt8.toInt32)), (.int (p1.toInt8.toInt32)), (.int (p2.toInt8.toInt32)), (.int (p4.toInt8.toInt32)), (.int (p4.toInt8.toInt32))] := A6
    refine o_aload cx X143 at_104 rfl rfl ?_
    refine o_iload cx X143 at_106 rfl ?_
    refine o_iconst cx X143 (z := (3 : Int32)) at_108 rfl ?_
    refine o_iadd cx X143 (z := (6 : Int32)) at_109 rfl ?_
    refine o_iloadN cx X143 at_110 rfl ?_
    refine o_i2b cx X143 at_111 rfl ?_
    refine o_stB cx X143 (x' := (p3.toInt8.toInt32)) at_112 A6 6 (by decide) rfl (Nat.le_of_ble_eq_true rfl) (own_i8 _) ge8 fun T146 h148 X147 W149 A6 => ?_
    have A6 : own_Ar Z h148 b1 .byte [(.int (p4.toInt8.toInt32)), (.int (p4.toInt8.toInt32)), (.int (p4.toInt8.toInt32)), (.int (p0.toInt8.toInt32)), (.int (p1.toInt8.toInt32)), (.int (p2.toInt8.toInt32)), (.int (p3.toInt8.toInt32)), (.int (p4.toInt8.toInt32))] := A6
    refine o_iloadN cx X147 at_113 rfl ?_
    refine o_sipush cx X147 (z := (255 : Int32)) at_114 rfl ?_
    refine o_iand cx X147 at_117 rfl ?_
    refine o_istore cx X147 (Ls' := #[.val (.int p0), .val (.int p1), .val (.int p2), .val (.int p3), .val (.int p4), .val (.int p5), .val (.int ((2 : Int32) + ((p5 &&& (3 : Int32)) % (3 : Int32)))), .val (.int (3 : Int32)), .val (.int (p4.toInt8.toInt32)), .val (.ref b1), .val (.int (p0 &&& (255 : Int32))), .unset, .unset, .unset, .unset]) at_118 rfl ?_
    refine o_iloadN cx X147 at_120 rfl ?_
    refine o_bipush cx X147 (z := (63 : Int32)) at_121 rfl ?_
    refine o_iand cx X147 at_123 rfl ?_
    refine o_istore cx X147 (Ls' := #[.val (.int p0), .val (.int p1), .val (.int p2), .val (.int p3), .val (.int p4), .val (.int p5), .val (.int ((2 : Int32) + ((p5 &&& (3 : Int32)) % (3 : Int32)))), .val (.int (3 : Int32)), .val (.int (p4.toInt8.toInt32)), .val (.ref b1), .val (.int (p0 &&& (255 : Int32))), .val (.int (p1 &&& (63 : Int32))), .unset, .unset, .unset]) at_124 rfl ?_
    refine o_iloadN cx X147 at_126 rfl ?_
    refine o_bipush cx X147 (z := (63 : Int32)) at_127 rfl ?_
    refine o_iand cx X147 at_129 rfl ?_
    refine o_istore cx X147 (Ls' := #[.val (.int p0), .val (.int p1), .val (.int p2), .val (.int p3), .val (.int p4), .val (.int p5), .val (.int ((2 : Int32) + ((p5 &&& (3 : Int32)) % (3 : Int32)))), .val (.int (3 : Int32)), .val (.int (p4.toInt8.toInt32)), .val (.ref b1), .val (.int (p0 &&& (255 : Int32))), .val (.int (p1 &&& (63 : Int32))), .val (.int (p2 &&& (63 : Int32))), .unset, .unset]) at_130 rfl ?_
    refine o_iloadN cx X147 at_132 rfl ?_
    refine o_bipush cx X147 (z := (63 : Int32)) at_133 rfl ?_
    refine o_iand cx X147 at_135 rfl ?_
    refine o_istore cx X147 (Ls' := #[.val (.int p0), .val (.int p1), .val (.int p2), .val (.int p3), .val (.int p4), .val (.int p5), .val (.int ((2 : Int32) + ((p5 &&& (3 : Int32)) % (3 : Int32)))), .val (.int (3 : Int32)), .val (.int (p4.toInt8.toInt32)), .val (.ref b1), .val (.int (p0 &&& (255 : Int32))), .val (.int (p1 &&& (63 : Int32))), .val (.int (p2 &&& (63 : Int32))), .val (.int (p3 &&& (63 : Int32))), .unset]) at_136 rfl ?_
    rcases own_and3 p5 with hsz | hsz | hsz
    · rw [hsz]
      show own_Go p e below _ (T146.setTop (mkF m 138 #[.val (.int p0), .val (.int p1), .val (.int p2), .val (.int p3), .val (.int p4), .val (.int p5), .val (.int (2 : Int32)), .val (.int (3 : Int32)), .val (.int (p4.toInt8.toInt32)), .val (.ref b1), .val (.int (p0 &&& (255 : Int32))), .val (.int (p1 &&& (63 : Int32))), .val (.int (p2 &&& (63 : Int32))), .val (.int (p3 &&& (63 : Int32))), .unset] []))
      refine o_iload cx X147 at_138 rfl ?_
      refine o_iconst cx X147 (z := (2 : Int32)) at_140 rfl ?_
      refine o_icmpNo cx X147 at_141 (by decide) ?_
      refine o_iload cx X147 at_144 rfl ?_
      refine o_bipush cx X147 (z := (31 : Int32)) at_146 rfl ?_
      refine o_iand cx X147 at_148 rfl ?_
      refine o_bipush cx X147 (z := (64 : Int32)) at_149 rfl ?_
      refine o_imul cx X147 at_151 rfl ?_
      refine o_iload cx X147 at_152 rfl ?_
      refine o_iadd cx X147 at_154 rfl ?_
      refine o_istore cx X147 (Ls' := #[.val (.int p0), .val (.int p1), .val (.int p2), .val (.int p3), .val (.int p4), .val (.int p5), .val (.int (2 : Int32)), .val (.int (3 : Int32)), .val (.int (p4.toInt8.toInt32)), .val (.ref b1), .val (.int (p0 &&& (255 : Int32))), .val (.int (p1 &&& (63 : Int32))), .val (.int (p2 &&& (63 : Int32))), .val (.int (p3 &&& (63 : Int32))), .val (.int ((((p0 &&& (255 : Int32)) &&& (31 : Int32)) * (64 : Int32)) + (p1 &&& (63 : Int32))))]) at_155 rfl ?_
      refine o_goto cx X147 215 at_157 (by decide) (by decide) ?_
      refine o_aload cx X147 at_215 rfl rfl ?_
      refine o_iload cx X147 at_217 rfl ?_
      refine o_iload cx X147 at_219 rfl ?_
      refine o_callSp cx X147 (y' := (⟨"com/example/vestwright/vestwright/io/Utf8", "codePoint", "([BII)I"⟩ : MethodName)) (argsL := [(.ref b1), (.int (3 : Int32)), (.int (2 : Int32))]) (st := []) at_221 (o_w hw 1 rfl) (o_w hw 2 rfl) (o_w hw 3 rfl) (o_w hw 4 rfl) (by decide) (rm1_2 l Z a0 hw b1 (3 : Int32) [(.int (p4.toInt8.toInt32)), (.int (p4.toInt8.toInt32)), (.int (p4.toInt8.toInt32)), (.int (p0.toInt8.toInt32)), (.int (p1.toInt8.toInt32)), (.int (p2.toInt8.toInt32)), (.int (p3.toInt8.toInt32)), (.int (p4.toInt8.toInt32))] 3 4 (p0.toInt8.toInt32) (p1.toInt8.toInt32) h148 n0 X147.ge0 A6 (by decide) (by decide) rfl (by decide) (by decide) rfl) (by decide) 0 rfl (by decide) rfl (lenOf pd_1 rfl) rfl rfl (by decide) (by decide) fun T150 X151 => ?_
      show own_Go p e below _ (T150.setTop (mkF m 224 #[.val (.int p0), .val (.int p1), .val (.int p2), .val (.int p3), .val (.int p4), .val (.int p5), .val (.int (2 : Int32)), .val (.int (3 : Int32)), .val (.int (p4.toInt8.toInt32)), .val (.ref b1), .val (.int (p0 &&& (255 : Int32))), .val (.int (p1 &&& (63 : Int32))), .val (.int (p2 &&& (63 : Int32))), .val (.int (p3 &&& (63 : Int32))), .val (.int ((((p0 &&& (255 : Int32)) &&& (31 : Int32)) * (64 : Int32)) + (p1 &&& (63 : Int32))))] [(.int ((((p0.toInt8.toInt32) &&& (31 : Int32)) <<< ((6 : Int32) &&& 31)) ||| ((p1.toInt8.toInt32) &&& (63 : Int32))))]))
      refine o_iload cx X151 at_224 rfl ?_
      refine o_icmpNo cx X151 at_226 (teq (own_pin2 p0 p1 p2 p3 : ((((p0.toInt8.toInt32) &&& (31 : Int32)) <<< ((6 : Int32) &&& 31)) ||| ((p1.toInt8.toInt32) &&& (63 : Int32))) = ((((p0 &&& (255 : Int32)) &&& (31 : Int32)) * (64 : Int32)) + (p1 &&& (63 : Int32))))).2 ?_
      refine o_iconst cx X151 (z := (1 : Int32)) at_229 rfl ?_
      refine o_goto cx X151 234 at_230 (by decide) (by decide) ?_
      exact o_retN cx X151 (z' := (1 : Int32)) at_234 (by simp) rfl rfl (by decide) (by decide)
    · rw [hsz]
      show own_Go p e below _ (T146.setTop (mkF m 138 #[.val (.int p0), .val (.int p1), .val (.int p2), .val (.int p3), .val (.int p4), .val (.int p5), .val (.int (3 : Int32)), .val (.int (3 : Int32)), .val (.int (p4.toInt8.toInt32)), .val (.ref b1), .val (.int (p0 &&& (255 : Int32))), .val (.int (p1 &&& (63 : Int32))), .val (.int (p2 &&& (63 : Int32))), .val (.int (p3 &&& (63 : Int32))), .unset] []))
      refine o_iload cx X147 at_138 rfl ?_
      refine o_iconst cx X147 (z := (2 : Int32)) at_140 rfl ?_
      refine o_icmpYes cx X147 160 at_141 (by decide) (by decide) (by decide) ?_
      refine o_iload cx X147 at_160 rfl ?_
      refine o_iconst cx X147 (z := (3 : Int32)) at_162 rfl ?_
      refine o_icmpNo cx X147 at_163 (by decide) ?_
      refine o_iload cx X147 at_166 rfl ?_
      refine o_bipush cx X147 (z := (15 : Int32)) at_168 rfl ?_
      refine o_iand cx X147 at_170 rfl ?_
      refine o_sipush cx X147 (z := (4096 : Int32)) at_171 rfl ?_
      refine o_imul cx X147 at_174 rfl ?_
      refine o_iload cx X147 at_175 rfl ?_
      refine o_bipush cx X147 (z := (64 : Int32)) at_177 rfl ?_
      refine o_imul cx X147 at_179 rfl ?_
      refine o_iadd cx X147 at_180 rfl ?_
      refine o_iload cx X147 at_181 rfl ?_
      refine o_iadd cx X147 at_183 rfl ?_
      refine o_istore cx X147 (Ls' := #[.val (.int p0), .val (.int p1), .val (.int p2), .val (.int p3), .val (.int p4), .val (.int p5), .val (.int (3 : Int32)), .val (.int (3 : Int32)), .val (.int (p4.toInt8.toInt32)), .val (.ref b1), .val (.int (p0 &&& (255 : Int32))), .val (.int (p1 &&& (63 : Int32))), .val (.int (p2 &&& (63 : Int32))), .val (.int (p3 &&& (63 : Int32))), .val (.int (((((p0 &&& (255 : Int32)) &&& (15 : Int32)) * (4096 : Int32)) + ((p1 &&& (63 : Int32)) * (64 : Int32))) + (p2 &&& (63 : Int32))))]) at_184 rfl ?_
      refine o_goto cx X147 215 at_186 (by decide) (by decide) ?_
      refine o_aload cx X147 at_215 rfl rfl ?_
      refine o_iload cx X147 at_217 rfl ?_
      refine o_iload cx X147 at_219 rfl ?_
      refine o_callSp cx X147 (y' := (⟨"com/example/vestwright/vestwright/io/Utf8", "codePoint", "([BII)I"⟩ : MethodName)) (argsL := [(.ref b1), (.int (3 : Int32)), (.int (3 : Int32))]) (st := []) at_221 (o_w hw 1 rfl) (o_w hw 2 rfl) (o_w hw 3 rfl) (o_w hw 4 rfl) (by decide) (rm1_3 l Z a0 hw b1 (3 : Int32) [(.int (p4.toInt8.toInt32)), (.int (p4.toInt8.toInt32)), (.int (p4.toInt8.toInt32)), (.int (p0.toInt8.toInt32)), (.int (p1.toInt8.toInt32)), (.int (p2.toInt8.toInt32)), (.int (p3.toInt8.toInt32)), (.int (p4.toInt8.toInt32))] 3 4 5 (p0.toInt8.toInt32) (p1.toInt8.toInt32) (p2.toInt8.toInt32) h148 n0 X147.ge0 A6 (by decide) (by decide) rfl (by decide) (by decide) rfl (by decide) (by decide) rfl) (by decide) 0 rfl (by decide) rfl (lenOf pd_1 rfl) rfl rfl (by decide) (by decide) fun T155 X156 => ?_
      show own_Go p e below _ (T155.setTop (mkF m 224 #[.val (.int p0), .val (.int p1), .val (.int p2), .val (.int p3), .val (.int p4), .val (.int p5), .val (.int (3 : Int32)), .val (.int (3 : Int32)), .val (.int (p4.toInt8.toInt32)), .val (.ref b1), .val (.int (p0 &&& (255 : Int32))), .val (.int (p1 &&& (63 : Int32))), .val (.int (p2 &&& (63 : Int32))), .val (.int (p3 &&& (63 : Int32))), .val (.int (((((p0 &&& (255 : Int32)) &&& (15 : Int32)) * (4096 : Int32)) + ((p1 &&& (63 : Int32)) * (64 : Int32))) + (p2 &&& (63 : Int32))))] [(.int ((((((p0.toInt8.toInt32) &&& (15 : Int32)) <<< ((6 : Int32) &&& 31)) ||| ((p1.toInt8.toInt32) &&& (63 : Int32))) <<< ((6 : Int32) &&& 31)) ||| ((p2.toInt8.toInt32) &&& (63 : Int32))))]))
      refine o_iload cx X156 at_224 rfl ?_
      refine o_icmpNo cx X156 at_226 (teq (own_pin3 p0 p1 p2 p3 : ((((((p0.toInt8.toInt32) &&& (15 : Int32)) <<< ((6 : Int32) &&& 31)) ||| ((p1.toInt8.toInt32) &&& (63 : Int32))) <<< ((6 : Int32) &&& 31)) ||| ((p2.toInt8.toInt32) &&& (63 : Int32))) = (((((p0 &&& (255 : Int32)) &&& (15 : Int32)) * (4096 : Int32)) + ((p1 &&& (63 : Int32)) * (64 : Int32))) + (p2 &&& (63 : Int32))))).2 ?_
      refine o_iconst cx X156 (z := (1 : Int32)) at_229 rfl ?_
      refine o_goto cx X156 234 at_230 (by decide) (by decide) ?_
      exact o_retN cx X156 (z' := (1 : Int32)) at_234 (by simp) rfl rfl (by decide) (by decide)
    · rw [hsz]
      show own_Go p e below _ (T146.setTop (mkF m 138 #[.val (.int p0), .val (.int p1), .val (.int p2), .val (.int p3), .val (.int p4), .val (.int p5), .val (.int (4 : Int32)), .val (.int (3 : Int32)), .val (.int (p4.toInt8.toInt32)), .val (.ref b1), .val (.int (p0 &&& (255 : Int32))), .val (.int (p1 &&& (63 : Int32))), .val (.int (p2 &&& (63 : Int32))), .val (.int (p3 &&& (63 : Int32))), .unset] []))
      refine o_iload cx X147 at_138 rfl ?_
      refine o_iconst cx X147 (z := (2 : Int32)) at_140 rfl ?_
      refine o_icmpYes cx X147 160 at_141 (by decide) (by decide) (by decide) ?_
      refine o_iload cx X147 at_160 rfl ?_
      refine o_iconst cx X147 (z := (3 : Int32)) at_162 rfl ?_
      refine o_icmpYes cx X147 189 at_163 (by decide) (by decide) (by decide) ?_
      refine o_iload cx X147 at_189 rfl ?_
      refine o_bipush cx X147 (z := (7 : Int32)) at_191 rfl ?_
      refine o_iand cx X147 at_193 rfl ?_
      refine o_ldc cx X147 (z := (262144 : Int32)) at_194 (o_w hw 5 rfl) ?_
      refine o_imul cx X147 at_196 rfl ?_
      refine o_iload cx X147 at_197 rfl ?_
      refine o_sipush cx X147 (z := (4096 : Int32)) at_199 rfl ?_
      refine o_imul cx X147 at_202 rfl ?_
      refine o_iadd cx X147 at_203 rfl ?_
      refine o_iload cx X147 at_204 rfl ?_
      refine o_bipush cx X147 (z := (64 : Int32)) at_206 rfl ?_
      refine o_imul cx X147 at_208 rfl ?_
      refine o_iadd cx X147 at_209 rfl ?_
      refine o_iload cx X147 at_210 rfl ?_
      refine o_iadd cx X147 at_212 rfl ?_
      refine o_istore cx X147 (Ls' := #[.val (.int p0), .val (.int p1), .val (.int p2), .val (.int p3), .val (.int p4), .val (.int p5), .val (.int (4 : Int32)), .val (.int (3 : Int32)), .val (.int (p4.toInt8.toInt32)), .val (.ref b1), .val (.int (p0 &&& (255 : Int32))), .val (.int (p1 &&& (63 : Int32))), .val (.int (p2 &&& (63 : Int32))), .val (.int (p3 &&& (63 : Int32))), .val (.int ((((((p0 &&& (255 : Int32)) &&& (7 : Int32)) * (262144 : Int32)) + ((p1 &&& (63 : Int32)) * (4096 : Int32))) + ((p2 &&& (63 : Int32)) * (64 : Int32))) + (p3 &&& (63 : Int32))))]) at_213 rfl ?_
      refine o_aload cx X147 at_215 rfl rfl ?_
      refine o_iload cx X147 at_217 rfl ?_
      refine o_iload cx X147 at_219 rfl ?_
      refine o_callSp cx X147 (y' := (⟨"com/example/vestwright/vestwright/io/Utf8", "codePoint", "([BII)I"⟩ : MethodName)) (argsL := [(.ref b1), (.int (3 : Int32)), (.int (4 : Int32))]) (st := []) at_221 (o_w hw 1 rfl) (o_w hw 2 rfl) (o_w hw 3 rfl) (o_w hw 4 rfl) (by decide) (rm1_4 l Z a0 hw b1 (3 : Int32) [(.int (p4.toInt8.toInt32)), (.int (p4.toInt8.toInt32)), (.int (p4.toInt8.toInt32)), (.int (p0.toInt8.toInt32)), (.int (p1.toInt8.toInt32)), (.int (p2.toInt8.toInt32)), (.int (p3.toInt8.toInt32)), (.int (p4.toInt8.toInt32))] 3 4 5 6 (p0.toInt8.toInt32) (p1.toInt8.toInt32) (p2.toInt8.toInt32) (p3.toInt8.toInt32) h148 n0 X147.ge0 A6 (by decide) (by decide) rfl (by decide) (by decide) rfl (by decide) (by decide) rfl (by decide) (by decide) rfl) (by decide) 0 rfl (by decide) rfl (lenOf pd_1 rfl) rfl rfl (by decide) (by decide) fun T160 X161 => ?_
      show own_Go p e below _ (T160.setTop (mkF m 224 #[.val (.int p0), .val (.int p1), .val (.int p2), .val (.int p3), .val (.int p4), .val (.int p5), .val (.int (4 : Int32)), .val (.int (3 : Int32)), .val (.int (p4.toInt8.toInt32)), .val (.ref b1), .val (.int (p0 &&& (255 : Int32))), .val (.int (p1 &&& (63 : Int32))), .val (.int (p2 &&& (63 : Int32))), .val (.int (p3 &&& (63 : Int32))), .val (.int ((((((p0 &&& (255 : Int32)) &&& (7 : Int32)) * (262144 : Int32)) + ((p1 &&& (63 : Int32)) * (4096 : Int32))) + ((p2 &&& (63 : Int32)) * (64 : Int32))) + (p3 &&& (63 : Int32))))] [(.int ((((((((p0.toInt8.toInt32) &&& (7 : Int32)) <<< ((6 : Int32) &&& 31)) ||| ((p1.toInt8.toInt32) &&& (63 : Int32))) <<< ((6 : Int32) &&& 31)) ||| ((p2.toInt8.toInt32) &&& (63 : Int32))) <<< ((6 : Int32) &&& 31)) ||| ((p3.toInt8.toInt32) &&& (63 : Int32))))]))
      refine o_iload cx X161 at_224 rfl ?_
      refine o_icmpNo cx X161 at_226 (teq (own_pin4 p0 p1 p2 p3 : ((((((((p0.toInt8.toInt32) &&& (7 : Int32)) <<< ((6 : Int32) &&& 31)) ||| ((p1.toInt8.toInt32) &&& (63 : Int32))) <<< ((6 : Int32) &&& 31)) ||| ((p2.toInt8.toInt32) &&& (63 : Int32))) <<< ((6 : Int32) &&& 31)) ||| ((p3.toInt8.toInt32) &&& (63 : Int32))) = ((((((p0 &&& (255 : Int32)) &&& (7 : Int32)) * (262144 : Int32)) + ((p1 &&& (63 : Int32)) * (4096 : Int32))) + ((p2 &&& (63 : Int32)) * (64 : Int32))) + (p3 &&& (63 : Int32))))).2 ?_
      refine o_iconst cx X161 (z := (1 : Int32)) at_229 rfl ?_
      refine o_goto cx X161 234 at_230 (by decide) (by decide) ?_
      exact o_retN cx X161 (z' := (1 : Int32)) at_234 (by simp) rfl rfl (by decide) (by decide)
  · rw [hat]
    show own_Go p e below _ (T37.setTop (mkF m 79 #[.val (.int p0), .val (.int p1), .val (.int p2), .val (.int p3), .val (.int p4), .val (.int p5), .val (.int ((2 : Int32) + ((p5 &&& (3 : Int32)) % (3 : Int32)))), .val (.int (4 : Int32)), .val (.int (p4.toInt8.toInt32)), .val (.ref b1), .unset, .unset, .unset, .unset, .unset] []))
    refine o_aload cx X38 at_79 rfl rfl ?_
    refine o_iload cx X38 at_81 rfl ?_
    refine o_iloadN cx X38 at_83 rfl ?_
    refine o_i2b cx X38 at_84 rfl ?_
    refine o_stB cx X38 (x' := (p0.toInt8.toInt32)) at_85 A6 4 (by decide) rfl (Nat.le_of_ble_eq_true rfl) (own_i8 _) ge8 fun T165 h167 X166 W168 A6 => ?_
    have A6 : own_Ar Z h167 b1 .byte [(.int (p4.toInt8.toInt32)), (.int (p4.toInt8.toInt32)), (.int (p4.toInt8.toInt32)), (.int (p4.toInt8.toInt32)), (.int (p0.toInt8.toInt32)), (.int (p4.toInt8.toInt32)), (.int (p4.toInt8.toInt32)), (.int (p4.toInt8.toInt32))] := A6
    refine o_aload cx X166 at_86 rfl rfl ?_
    refine o_iload cx X166 at_88 rfl ?_
    refine o_iconst cx X166 (z := (1 : Int32)) at_90 rfl ?_
    refine o_iadd cx X166 (z := (5 : Int32)) at_91 rfl ?_
    refine o_iloadN cx X166 at_92 rfl ?_
    refine o_i2b cx X166 at_93 rfl ?_
    refine o_stB cx X166 (x' := (p1.toInt8.toInt32)) at_94 A6 5 (by decide) rfl (Nat.le_of_ble_eq_true rfl) (own_i8 _) ge8 fun T169 h171 X170 W172 A6 => ?_
    have A6 : own_Ar Z h171 b1 .byte [(.int (p4.toInt8.toInt32)), (.int (p4.toInt8.toInt32)), (.int (p4.toInt8.toInt32)), (.int (p4.toInt8.toInt32)), (.int (p0.toInt8.toInt32)), (.int (p1.toInt8.toInt32)), (.int (p4.toInt8.toInt32)), (.int (p4.toInt8.toInt32))] := A6
    refine o_aload cx X170 at_95 rfl rfl ?_
    refine o_iload cx X170 at_97 rfl ?_
    refine o_iconst cx X170 (z := (2 : Int32)) at_99 rfl ?_
    refine o_iadd cx X170 (z := (6 : Int32)) at_100 rfl ?_
    refine o_iloadN cx X170 at_101 rfl ?_
    refine o_i2b cx X170 at_102 rfl ?_
    refine o_stB cx X170 (x' := (p2.toInt8.toInt32)) at_103 A6 6 (by decide) rfl (Nat.le_of_ble_eq_true rfl) (own_i8 _) ge8 fun T173 h175 X174 W176 A6 => ?_
    have A6 : own_Ar Z h175 b1 .byte [(.int (p4.toInt8.toInt32)), (.int (p4.toInt8.toInt32)), (.int (p4.toInt8.toInt32)), (.int (p4.toInt8.toInt32)), (.int (p0.toInt8.toInt32)), (.int (p1.toInt8.toInt32)), (.int (p2.toInt8.toInt32)), (.int (p4.toInt8.toInt32))] := A6
    refine o_aload cx X174 at_104 rfl rfl ?_
    refine o_iload cx X174 at_106 rfl ?_
    refine o_iconst cx X174 (z := (3 : Int32)) at_108 rfl ?_
    refine o_iadd cx X174 (z := (7 : Int32)) at_109 rfl ?_
    refine o_iloadN cx X174 at_110 rfl ?_
    refine o_i2b cx X174 at_111 rfl ?_
    refine o_stB cx X174 (x' := (p3.toInt8.toInt32)) at_112 A6 7 (by decide) rfl (Nat.le_of_ble_eq_true rfl) (own_i8 _) ge8 fun T177 h179 X178 W180 A6 => ?_
    have A6 : own_Ar Z h179 b1 .byte [(.int (p4.toInt8.toInt32)), (.int (p4.toInt8.toInt32)), (.int (p4.toInt8.toInt32)), (.int (p4.toInt8.toInt32)), (.int (p0.toInt8.toInt32)), (.int (p1.toInt8.toInt32)), (.int (p2.toInt8.toInt32)), (.int (p3.toInt8.toInt32))] := A6
    refine o_iloadN cx X178 at_113 rfl ?_
    refine o_sipush cx X178 (z := (255 : Int32)) at_114 rfl ?_
    refine o_iand cx X178 at_117 rfl ?_
    refine o_istore cx X178 (Ls' := #[.val (.int p0), .val (.int p1), .val (.int p2), .val (.int p3), .val (.int p4), .val (.int p5), .val (.int ((2 : Int32) + ((p5 &&& (3 : Int32)) % (3 : Int32)))), .val (.int (4 : Int32)), .val (.int (p4.toInt8.toInt32)), .val (.ref b1), .val (.int (p0 &&& (255 : Int32))), .unset, .unset, .unset, .unset]) at_118 rfl ?_
    refine o_iloadN cx X178 at_120 rfl ?_
    refine o_bipush cx X178 (z := (63 : Int32)) at_121 rfl ?_
    refine o_iand cx X178 at_123 rfl ?_
    refine o_istore cx X178 (Ls' := #[.val (.int p0), .val (.int p1), .val (.int p2), .val (.int p3), .val (.int p4), .val (.int p5), .val (.int ((2 : Int32) + ((p5 &&& (3 : Int32)) % (3 : Int32)))), .val (.int (4 : Int32)), .val (.int (p4.toInt8.toInt32)), .val (.ref b1), .val (.int (p0 &&& (255 : Int32))), .val (.int (p1 &&& (63 : Int32))), .unset, .unset, .unset]) at_124 rfl ?_
    refine o_iloadN cx X178 at_126 rfl ?_
    refine o_bipush cx X178 (z := (63 : Int32)) at_127 rfl ?_
    refine o_iand cx X178 at_129 rfl ?_
    refine o_istore cx X178 (Ls' := #[.val (.int p0), .val (.int p1), .val (.int p2), .val (.int p3), .val (.int p4), .val (.int p5), .val (.int ((2 : Int32) + ((p5 &&& (3 : Int32)) % (3 : Int32)))), .val (.int (4 : Int32)), .val (.int (p4.toInt8.toInt32)), .val (.ref b1), .val (.int (p0 &&& (255 : Int32))), .val (.int (p1 &&& (63 : Int32))), .val (.int (p2 &&& (63 : Int32))), .unset, .unset]) at_130 rfl ?_
    refine o_iloadN cx X178 at_132 rfl ?_
    refine o_bipush cx X178 (z := (63 : Int32)) at_133 rfl ?_
    refine o_iand cx X178 at_135 rfl ?_
    refine o_istore cx X178 (Ls' := #[.val (.int p0), .val (.int p1), .val (.int p2), .val (.int p3), .val (.int p4), .val (.int p5), .val (.int ((2 : Int32) + ((p5 &&& (3 : Int32)) % (3 : Int32)))), .val (.int (4 : Int32)), .val (.int (p4.toInt8.toInt32)), .val (.ref b1), .val (.int (p0 &&& (255 : Int32))), .val (.int (p1 &&& (63 : Int32))), .val (.int (p2 &&& (63 : Int32))), .val (.int (p3 &&& (63 : Int32))), .unset]) at_136 rfl ?_
    rcases own_and3 p5 with hsz | hsz | hsz
    · rw [hsz]
      show own_Go p e below _ (T177.setTop (mkF m 138 #[.val (.int p0), .val (.int p1), .val (.int p2), .val (.int p3), .val (.int p4), .val (.int p5), .val (.int (2 : Int32)), .val (.int (4 : Int32)), .val (.int (p4.toInt8.toInt32)), .val (.ref b1), .val (.int (p0 &&& (255 : Int32))), .val (.int (p1 &&& (63 : Int32))), .val (.int (p2 &&& (63 : Int32))), .val (.int (p3 &&& (63 : Int32))), .unset] []))
      refine o_iload cx X178 at_138 rfl ?_
      refine o_iconst cx X178 (z := (2 : Int32)) at_140 rfl ?_
      refine o_icmpNo cx X178 at_141 (by decide) ?_
      refine o_iload cx X178 at_144 rfl ?_
      refine o_bipush cx X178 (z := (31 : Int32)) at_146 rfl ?_
      refine o_iand cx X178 at_148 rfl ?_
      refine o_bipush cx X178 (z := (64 : Int32)) at_149 rfl ?_
      refine o_imul cx X178 at_151 rfl ?_
      refine o_iload cx X178 at_152 rfl ?_
      refine o_iadd cx X178 at_154 rfl ?_
      refine o_istore cx X178 (Ls' := #[.val (.int p0), .val (.int p1), .val (.int p2), .val (.int p3), .val (.int p4), .val (.int p5), .val (.int (2 : Int32)), .val (.int (4 : Int32)), .val (.int (p4.toInt8.toInt32)), .val (.ref b1), .val (.int (p0 &&& (255 : Int32))), .val (.int (p1 &&& (63 : Int32))), .val (.int (p2 &&& (63 : Int32))), .val (.int (p3 &&& (63 : Int32))), .val (.int ((((p0 &&& (255 : Int32)) &&& (31 : Int32)) * (64 : Int32)) + (p1 &&& (63 : Int32))))]) at_155 rfl ?_
      refine o_goto cx X178 215 at_157 (by decide) (by decide) ?_
      refine o_aload cx X178 at_215 rfl rfl ?_
      refine o_iload cx X178 at_217 rfl ?_
      refine o_iload cx X178 at_219 rfl ?_
      refine o_callSp cx X178 (y' := (⟨"com/example/vestwright/vestwright/io/Utf8", "codePoint", "([BII)I"⟩ : MethodName)) (argsL := [(.ref b1), (.int (4 : Int32)), (.int (2 : Int32))]) (st := []) at_221 (o_w hw 1 rfl) (o_w hw 2 rfl) (o_w hw 3 rfl) (o_w hw 4 rfl) (by decide) (rm1_2 l Z a0 hw b1 (4 : Int32) [(.int (p4.toInt8.toInt32)), (.int (p4.toInt8.toInt32)), (.int (p4.toInt8.toInt32)), (.int (p4.toInt8.toInt32)), (.int (p0.toInt8.toInt32)), (.int (p1.toInt8.toInt32)), (.int (p2.toInt8.toInt32)), (.int (p3.toInt8.toInt32))] 4 5 (p0.toInt8.toInt32) (p1.toInt8.toInt32) h179 n0 X178.ge0 A6 (by decide) (by decide) rfl (by decide) (by decide) rfl) (by decide) 0 rfl (by decide) rfl (lenOf pd_1 rfl) rfl rfl (by decide) (by decide) fun T181 X182 => ?_
      show own_Go p e below _ (T181.setTop (mkF m 224 #[.val (.int p0), .val (.int p1), .val (.int p2), .val (.int p3), .val (.int p4), .val (.int p5), .val (.int (2 : Int32)), .val (.int (4 : Int32)), .val (.int (p4.toInt8.toInt32)), .val (.ref b1), .val (.int (p0 &&& (255 : Int32))), .val (.int (p1 &&& (63 : Int32))), .val (.int (p2 &&& (63 : Int32))), .val (.int (p3 &&& (63 : Int32))), .val (.int ((((p0 &&& (255 : Int32)) &&& (31 : Int32)) * (64 : Int32)) + (p1 &&& (63 : Int32))))] [(.int ((((p0.toInt8.toInt32) &&& (31 : Int32)) <<< ((6 : Int32) &&& 31)) ||| ((p1.toInt8.toInt32) &&& (63 : Int32))))]))
      refine o_iload cx X182 at_224 rfl ?_
      refine o_icmpNo cx X182 at_226 (teq (own_pin2 p0 p1 p2 p3 : ((((p0.toInt8.toInt32) &&& (31 : Int32)) <<< ((6 : Int32) &&& 31)) ||| ((p1.toInt8.toInt32) &&& (63 : Int32))) = ((((p0 &&& (255 : Int32)) &&& (31 : Int32)) * (64 : Int32)) + (p1 &&& (63 : Int32))))).2 ?_
      refine o_iconst cx X182 (z := (1 : Int32)) at_229 rfl ?_
      refine o_goto cx X182 234 at_230 (by decide) (by decide) ?_
      exact o_retN cx X182 (z' := (1 : Int32)) at_234 (by simp) rfl rfl (by decide) (by decide)
    · rw [hsz]
      show own_Go p e below _ (T177.setTop (mkF m 138 #[.val (.int p0), .val (.int p1), .val (.int p2), .val (.int p3), .val (.int p4), .val (.int p5), .val (.int (3 : Int32)), .val (.int (4 : Int32)), .val (.int (p4.toInt8.toInt32)), .val (.ref b1), .val (.int (p0 &&& (255 : Int32))), .val (.int (p1 &&& (63 : Int32))), .val (.int (p2 &&& (63 : Int32))), .val (.int (p3 &&& (63 : Int32))), .unset] []))
      refine o_iload cx X178 at_138 rfl ?_
      refine o_iconst cx X178 (z := (2 : Int32)) at_140 rfl ?_
      refine o_icmpYes cx X178 160 at_141 (by decide) (by decide) (by decide) ?_
      refine o_iload cx X178 at_160 rfl ?_
      refine o_iconst cx X178 (z := (3 : Int32)) at_162 rfl ?_
      refine o_icmpNo cx X178 at_163 (by decide) ?_
      refine o_iload cx X178 at_166 rfl ?_
      refine o_bipush cx X178 (z := (15 : Int32)) at_168 rfl ?_
      refine o_iand cx X178 at_170 rfl ?_
      refine o_sipush cx X178 (z := (4096 : Int32)) at_171 rfl ?_
      refine o_imul cx X178 at_174 rfl ?_
      refine o_iload cx X178 at_175 rfl ?_
      refine o_bipush cx X178 (z := (64 : Int32)) at_177 rfl ?_
      refine o_imul cx X178 at_179 rfl ?_
      refine o_iadd cx X178 at_180 rfl ?_
      refine o_iload cx X178 at_181 rfl ?_
      refine o_iadd cx X178 at_183 rfl ?_
      refine o_istore cx X178 (Ls' := #[.val (.int p0), .val (.int p1), .val (.int p2), .val (.int p3), .val (.int p4), .val (.int p5), .val (.int (3 : Int32)), .val (.int (4 : Int32)), .val (.int (p4.toInt8.toInt32)), .val (.ref b1), .val (.int (p0 &&& (255 : Int32))), .val (.int (p1 &&& (63 : Int32))), .val (.int (p2 &&& (63 : Int32))), .val (.int (p3 &&& (63 : Int32))), .val (.int (((((p0 &&& (255 : Int32)) &&& (15 : Int32)) * (4096 : Int32)) + ((p1 &&& (63 : Int32)) * (64 : Int32))) + (p2 &&& (63 : Int32))))]) at_184 rfl ?_
      refine o_goto cx X178 215 at_186 (by decide) (by decide) ?_
      refine o_aload cx X178 at_215 rfl rfl ?_
      refine o_iload cx X178 at_217 rfl ?_
      refine o_iload cx X178 at_219 rfl ?_
      refine o_callSp cx X178 (y' := (⟨"com/example/vestwright/vestwright/io/Utf8", "codePoint", "([BII)I"⟩ : MethodName)) (argsL := [(.ref b1), (.int (4 : Int32)), (.int (3 : Int32))]) (st := []) at_221 (o_w hw 1 rfl) (o_w hw 2 rfl) (o_w hw 3 rfl) (o_w hw 4 rfl) (by decide) (rm1_3 l Z a0 hw b1 (4 : Int32) [(.int (p4.toInt8.toInt32)), (.int (p4.toInt8.toInt32)), (.int (p4.toInt8.toInt32)), (.int (p4.toInt8.toInt32)), (.int (p0.toInt8.toInt32)), (.int (p1.toInt8.toInt32)), (.int (p2.toInt8.toInt32)), (.int (p3.toInt8.toInt32))] 4 5 6 (p0.toInt8.toInt32) (p1.toInt8.toInt32) (p2.toInt8.toInt32) h179 n0 X178.ge0 A6 (by decide) (by decide) rfl (by decide) (by decide) rfl (by decide) (by decide) rfl) (by decide) 0 rfl (by decide) rfl (lenOf pd_1 rfl) rfl rfl (by decide) (by decide) fun T186 X187 => ?_
      show own_Go p e below _ (T186.setTop (mkF m 224 #[.val (.int p0), .val (.int p1), .val (.int p2), .val (.int p3), .val (.int p4), .val (.int p5), .val (.int (3 : Int32)), .val (.int (4 : Int32)), .val (.int (p4.toInt8.toInt32)), .val (.ref b1), .val (.int (p0 &&& (255 : Int32))), .val (.int (p1 &&& (63 : Int32))), .val (.int (p2 &&& (63 : Int32))), .val (.int (p3 &&& (63 : Int32))), .val (.int (((((p0 &&& (255 : Int32)) &&& (15 : Int32)) * (4096 : Int32)) + ((p1 &&& (63 : Int32)) * (64 : Int32))) + (p2 &&& (63 : Int32))))] [(.int ((((((p0.toInt8.toInt32) &&& (15 : Int32)) <<< ((6 : Int32) &&& 31)) ||| ((p1.toInt8.toInt32) &&& (63 : Int32))) <<< ((6 : Int32) &&& 31)) ||| ((p2.toInt8.toInt32) &&& (63 : Int32))))]))
      refine o_iload cx X187 at_224 rfl ?_
      refine o_icmpNo cx X187 at_226 (teq (own_pin3 p0 p1 p2 p3 : ((((((p0.toInt8.toInt32) &&& (15 : Int32)) <<< ((6 : Int32) &&& 31)) ||| ((p1.toInt8.toInt32) &&& (63 : Int32))) <<< ((6 : Int32) &&& 31)) ||| ((p2.toInt8.toInt32) &&& (63 : Int32))) = (((((p0 &&& (255 : Int32)) &&& (15 : Int32)) * (4096 : Int32)) + ((p1 &&& (63 : Int32)) * (64 : Int32))) + (p2 &&& (63 : Int32))))).2 ?_
      refine o_iconst cx X187 (z := (1 : Int32)) at_229 rfl ?_
      refine o_goto cx X187 234 at_230 (by decide) (by decide) ?_
      exact o_retN cx X187 (z' := (1 : Int32)) at_234 (by simp) rfl rfl (by decide) (by decide)
    · rw [hsz]
      show own_Go p e below _ (T177.setTop (mkF m 138 #[.val (.int p0), .val (.int p1), .val (.int p2), .val (.int p3), .val (.int p4), .val (.int p5), .val (.int (4 : Int32)), .val (.int (4 : Int32)), .val (.int (p4.toInt8.toInt32)), .val (.ref b1), .val (.int (p0 &&& (255 : Int32))), .val (.int (p1 &&& (63 : Int32))), .val (.int (p2 &&& (63 : Int32))), .val (.int (p3 &&& (63 : Int32))), .unset] []))
      refine o_iload cx X178 at_138 rfl ?_
      refine o_iconst cx X178 (z := (2 : Int32)) at_140 rfl ?_
      refine o_icmpYes cx X178 160 at_141 (by decide) (by decide) (by decide) ?_
      refine o_iload cx X178 at_160 rfl ?_
      refine o_iconst cx X178 (z := (3 : Int32)) at_162 rfl ?_
      refine o_icmpYes cx X178 189 at_163 (by decide) (by decide) (by decide) ?_
      refine o_iload cx X178 at_189 rfl ?_
      refine o_bipush cx X178 (z := (7 : Int32)) at_191 rfl ?_
      refine o_iand cx X178 at_193 rfl ?_
      refine o_ldc cx X178 (z := (262144 : Int32)) at_194 (o_w hw 5 rfl) ?_
      refine o_imul cx X178 at_196 rfl ?_
      refine o_iload cx X178 at_197 rfl ?_
      refine o_sipush cx X178 (z := (4096 : Int32)) at_199 rfl ?_
      refine o_imul cx X178 at_202 rfl ?_
      refine o_iadd cx X178 at_203 rfl ?_
      refine o_iload cx X178 at_204 rfl ?_
      refine o_bipush cx X178 (z := (64 : Int32)) at_206 rfl ?_
      refine o_imul cx X178 at_208 rfl ?_
      refine o_iadd cx X178 at_209 rfl ?_
      refine o_iload cx X178 at_210 rfl ?_
      refine o_iadd cx X178 at_212 rfl ?_
      refine o_istore cx X178 (Ls' := #[.val (.int p0), .val (.int p1), .val (.int p2), .val (.int p3), .val (.int p4), .val (.int p5), .val (.int (4 : Int32)), .val (.int (4 : Int32)), .val (.int (p4.toInt8.toInt32)), .val (.ref b1), .val (.int (p0 &&& (255 : Int32))), .val (.int (p1 &&& (63 : Int32))), .val (.int (p2 &&& (63 : Int32))), .val (.int (p3 &&& (63 : Int32))), .val (.int ((((((p0 &&& (255 : Int32)) &&& (7 : Int32)) * (262144 : Int32)) + ((p1 &&& (63 : Int32)) * (4096 : Int32))) + ((p2 &&& (63 : Int32)) * (64 : Int32))) + (p3 &&& (63 : Int32))))]) at_213 rfl ?_
      refine o_aload cx X178 at_215 rfl rfl ?_
      refine o_iload cx X178 at_217 rfl ?_
      refine o_iload cx X178 at_219 rfl ?_
      refine o_callSp cx X178 (y' := (⟨"com/example/vestwright/vestwright/io/Utf8", "codePoint", "([BII)I"⟩ : MethodName)) (argsL := [(.ref b1), (.int (4 : Int32)), (.int (4 : Int32))]) (st := []) at_221 (o_w hw 1 rfl) (o_w hw 2 rfl) (o_w hw 3 rfl) (o_w hw 4 rfl) (by decide) (rm1_4 l Z a0 hw b1 (4 : Int32) [(.int (p4.toInt8.toInt32)), (.int (p4.toInt8.toInt32)), (.int (p4.toInt8.toInt32)), (.int (p4.toInt8.toInt32)), (.int (p0.toInt8.toInt32)), (.int (p1.toInt8.toInt32)), (.int (p2.toInt8.toInt32)), (.int (p3.toInt8.toInt32))] 4 5 6 7 (p0.toInt8.toInt32) (p1.toInt8.toInt32) (p2.toInt8.toInt32) (p3.toInt8.toInt32) h179 n0 X178.ge0 A6 (by decide) (by decide) rfl (by decide) (by decide) rfl (by decide) (by decide) rfl (by decide) (by decide) rfl) (by decide) 0 rfl (by decide) rfl (lenOf pd_1 rfl) rfl rfl (by decide) (by decide) fun T191 X192 => ?_
      show own_Go p e below _ (T191.setTop (mkF m 224 #[.val (.int p0), .val (.int p1), .val (.int p2), .val (.int p3), .val (.int p4), .val (.int p5), .val (.int (4 : Int32)), .val (.int (4 : Int32)), .val (.int (p4.toInt8.toInt32)), .val (.ref b1), .val (.int (p0 &&& (255 : Int32))), .val (.int (p1 &&& (63 : Int32))), .val (.int (p2 &&& (63 : Int32))), .val (.int (p3 &&& (63 : Int32))), .val (.int ((((((p0 &&& (255 : Int32)) &&& (7 : Int32)) * (262144 : Int32)) + ((p1 &&& (63 : Int32)) * (4096 : Int32))) + ((p2 &&& (63 : Int32)) * (64 : Int32))) + (p3 &&& (63 : Int32))))] [(.int ((((((((p0.toInt8.toInt32) &&& (7 : Int32)) <<< ((6 : Int32) &&& 31)) ||| ((p1.toInt8.toInt32) &&& (63 : Int32))) <<< ((6 : Int32) &&& 31)) ||| ((p2.toInt8.toInt32) &&& (63 : Int32))) <<< ((6 : Int32) &&& 31)) ||| ((p3.toInt8.toInt32) &&& (63 : Int32))))]))
      refine o_iload cx X192 at_224 rfl ?_
      refine o_icmpNo cx X192 at_226 (teq (own_pin4 p0 p1 p2 p3 : ((((((((p0.toInt8.toInt32) &&& (7 : Int32)) <<< ((6 : Int32) &&& 31)) ||| ((p1.toInt8.toInt32) &&& (63 : Int32))) <<< ((6 : Int32) &&& 31)) ||| ((p2.toInt8.toInt32) &&& (63 : Int32))) <<< ((6 : Int32) &&& 31)) ||| ((p3.toInt8.toInt32) &&& (63 : Int32))) = ((((((p0 &&& (255 : Int32)) &&& (7 : Int32)) * (262144 : Int32)) + ((p1 &&& (63 : Int32)) * (4096 : Int32))) + ((p2 &&& (63 : Int32)) * (64 : Int32))) + (p3 &&& (63 : Int32))))).2 ?_
      refine o_iconst cx X192 (z := (1 : Int32)) at_229 rfl ?_
      refine o_goto cx X192 234 at_230 (by decide) (by decide) ?_
      exact o_retN cx X192 (z' := (1 : Int32)) at_234 (by simp) rfl rfl (by decide) (by decide)
set_option maxRecDepth 65536 in
set_option maxHeartbeats 40000000 in
theorem comes_1 {Post : Tables → Env → Array Value → State → Outcome → State → Prop} (hpost : ∀ tb e args s v u, (limb_1_1.after args s (.returned v) u = true ∧ limb_1_2.after args s (.returned v) u = true ∧ True) → FrameEnd s (.returned v) u (Jvm.fieldLocs frame_1_writes args s ++ Jvm.arrayLocs frame_1_arrays args s ++ Jvm.staticLocs frame_1_statics s) 16 128 → Post tb e args s (.returned v) u) :
    ArmFor flags0 classFile x code maxLocals ret World_1 tables_1 room_1 Calls_1 rest_1 Pre_1 Post := by
  intro l hfl _ _ p e ha hc hk s m args below hf hA hF happ hP
  obtain ⟨hcalls, hrest, hpre⟩ := hP
  obtain ⟨-, -, -, hnamed, -, -, -, hat⟩ := (Spec.applies_iff hf).mp happ
  obtain ⟨hg, hn⟩ := and_e (Cond.before_iff.mp (show (Jvm.Cond.and given_1 narrow_1).before args s = true from hpre))
  obtain ⟨q0, g0⟩ := and_e hg
  obtain ⟨q1, g1⟩ := and_e g0
  obtain ⟨q2, g2⟩ := and_e g1
  obtain ⟨q3, g3⟩ := and_e g2
  obtain ⟨q4, g4⟩ := and_e g3
  obtain ⟨q5, g5⟩ := and_e g4
  obtain ⟨w0, w1, w2, w3, w4, w5, rfl⟩ : ∃ w0 w1 w2 w3 w4 w5 : Value, args = #[w0, w1, w2, w3, w4, w5] := by
    have hs : args.size = 6 := by simpa [Cond.value, given_1] using q0
    obtain ⟨L⟩ := args
    match L, hs with
    | [w0, w1, w2, w3, w4, w5], _ => exact ⟨w0, w1, w2, w3, w4, w5, rfl⟩
  have hw := fun d (hd : d ∈ tables_1) => atoms_spec (ws := Jvm.Cond.code x code maxLocals ret :: tables_1) hat d (List.mem_cons_of_mem _ hd)
  obtain ⟨i0, ei0⟩ := is_v q1
  obtain rfl : w0 = (.int i0) := Option.some.inj ei0
  obtain ⟨i1, ei1⟩ := is_v q2
  obtain rfl : w1 = (.int i1) := Option.some.inj ei1
  obtain ⟨i2, ei2⟩ := is_v q3
  obtain rfl : w2 = (.int i2) := Option.some.inj ei2
  obtain ⟨i3, ei3⟩ := is_v q4
  obtain rfl : w3 = (.int i3) := Option.some.inj ei3
  obtain ⟨i4, ei4⟩ := is_v q5
  obtain rfl : w4 = (.int i4) := Option.some.inj ei4
  obtain ⟨i5, ei5⟩ := is_v g5
  obtain rfl : w5 = (.int i5) := Option.some.inj ei5
  obtain ⟨n, o, h1, h2, h3, v, L, rfl, ⟨hv, _, N⟩, hq⟩ := rm0 l s _ hw i0 i1 i2 i3 i4 i5 s.heap s.heap.size (Nat.le_refl _) tables_1 p e ha hc hk s m _ below hf ((Spec.applies_iff_loose hf).mp happ).1 ⟨rfl, State.Warmed39.refl s, rfl⟩ trivial
  obtain rfl : v = some (.int 1) := hv
  refine ⟨n, _, h1, h2, h3, hpost _ _ _ _ _ _ ⟨Cond.after_iff.mpr rfl, Cond.after_iff.mpr (eq_i res_at (Term.int_eval (1)) rfl), trivial⟩ ⟨hq.1, hq.2.1, (hq.2.2.sift fun y hy => Or.inr (N y hy)).mono (by decide) (by decide)⟩⟩
theorem main_1_1 : Claimed_1_1 := comes_1 fun _ _ _ _ _ _ h hF => ⟨h.1, hF⟩
theorem main_1_2 : Claimed_1_2 := comes_1 fun _ _ _ _ _ _ h hF => ⟨h.2.1, hF⟩
end Jvm.Pilot.@@N@@
namespace Jvm.Pilot.@@N@@
open Jvm Jvm.ClassFile Sem Op Lib Jvm.Free Jvm.Stand Jvm.Pilot.@@N@@.Jvm.D
/-! MADE BY PROGRAM (witnessworld.py) out of the Statement's table words and the real class files: 9 classes; the members and pool entries that the words name. The judged class is class 1, her method 1. -/
namespace start1
open Jvm.ClassFile
def u (s : String) : CpInfo := .utf8 (stringToUtf16 s)
/-- a pool by its gaps: so many unusable entries, then the entry; so many at the end -/
def gap : Nat → List CpInfo → List CpInfo
  | 0, r => r
  | n + 1, r => .unusable :: gap n r
def poolList (es : List (Nat × CpInfo)) (last : Nat) : List CpInfo := es.foldr (fun e r => gap e.1 (e.2 :: r)) (gap last [])
def pool (es : List (Nat × CpInfo)) (last : Nat) : Array CpInfo := ⟨poolList es last⟩
def fileOf (pool : Array CpInfo) (this : Nat) (attrs : Array Attribute := #[]) (ms : Array MethodInfo := #[]) (fl : Nat := 33) (sup : Nat := 0) (ifs : Array Nat := #[]) (fds : Array FieldInfo := #[]) : ClassFile where
  minorVersion := 0
  majorVersion := 65
  constantPool := pool
  accessFlags := fl
  thisClass := this
  superClass := sup
  interfaces := ifs
  fields := fds
  methods := ms
  attributes := attrs
def plain (name : String) (sup : Option ClassId) : Class where
  name := name
  kind := .ordinary
  loader := none
  accessFlags := 33
  super := sup
  interfaces := #[]
  cf := none
  fields := #[]
  methods := #[]
  instanceTypes := #[]
  staticTypes := #[]
  resolved := #[]
  callSites := []
  init := .initialized
  statics := none
  mirror := none

def pool0 : Array CpInfo := pool [(5, u "<init>"), (0, u "()V"), (1, .class_ 10), (1, u "java/lang/Object")] 113

def k0m0 : Method := { name := "<init>", desc := "()V", sig := { parameters := [], returnType := none }, accessFlags := 1, code := none }
/-- java/lang/Object -/
def k0 : Class := { plain "java/lang/Object" none with
  accessFlags := 33
  interfaces := #[]
  cf := some (fileOf pool0 8 #[] #[{ accessFlags := 1, nameIndex := 5, descriptorIndex := 6, attributes := #[] }] 33 0 #[] #[])
  fields := #[]
  methods := #[k0m0]
  instanceTypes := #[]
  staticTypes := #[]
  resolved := Array.replicate 124 none
  statics := none }

def pool1 : Array CpInfo := pool [(2, .class_ 4), (1, u "java/lang/Object"), (0, u "<init>"), (0, u "()V"), (0, .integer 262144), (0, .methodref 9 10), (0, .class_ 11), (0, .nameAndType 12 13), (0, u "com/example/vestwright/vestwright/io/Utf8"), (0, u "codePoint"), (0, u "([BII)I"), (0, .class_ 15), (0, u "com/example/vestwright/vestwright/io/Utf8CodePointPinLaw"), (2, u "law"), (0, u "(IIIIII)Z")] 5

def k1m0 : Method := { name := "<init>", desc := "()V", sig := { parameters := [], returnType := none }, accessFlags := 2, code := none }
def k1c1 : Code := { maxStack := 3, maxLocals := 15, code := code, exceptionTable := #[], attributes := #[] }
def k1m1 : Method := { name := "law", desc := "(IIIIII)Z", sig := { parameters := [.int, .int, .int, .int, .int, .int], returnType := some .boolean }, accessFlags := 9, code := some k1c1 }
/-- com/example/vestwright/vestwright/io/Utf8CodePointPinLaw -/
def k1 : Class := { plain "com/example/vestwright/vestwright/io/Utf8CodePointPinLaw" (some 0) with
  accessFlags := 49
  interfaces := #[]
  cf := some (fileOf pool1 14 #[] #[{ accessFlags := 2, nameIndex := 5, descriptorIndex := 6, attributes := #[] }, { accessFlags := 9, nameIndex := 18, descriptorIndex := 19, attributes := #[] }] 49 2 #[] #[])
  fields := #[]
  methods := #[k1m0, k1m1]
  instanceTypes := #[]
  staticTypes := #[]
  resolved := Array.replicate 25 none
  statics := none }

def pool2 : Array CpInfo := pool [(2, .class_ 4), (1, u "java/lang/Object"), (0, u "<init>"), (0, u "()V"), (1, .class_ 10), (1, u "com/example/vestwright/vestwright/io/Utf8"), (18, u "HEX"), (0, u "Ljava/util/HexFormat;"), (19, u "codePoint"), (0, u "([BII)I"), (2, u "SMALLEST_BY_LENGTH"), (0, u "[I"), (18, .class_ 75), (0, u "com/example/vestwright/vestwright/io/Utf8$Fault"), (18, u "LOOKAHEAD"), (0, u "I")] 31

def k2m0 : Method := { name := "<init>", desc := "()V", sig := { parameters := [], returnType := none }, accessFlags := 2, code := none }
def k2c1 : Code := { maxStack := 4, maxLocals := 5, code := prog_18_method_4_code, exceptionTable := #[], attributes := #[] }
def k2m1 : Method := { name := "codePoint", desc := "([BII)I", sig := { parameters := [(.array .byte), .int, .int], returnType := some .int }, accessFlags := 8, code := some k2c1 }
/-- com/example/vestwright/vestwright/io/Utf8 -/
def k2 : Class := { plain "com/example/vestwright/vestwright/io/Utf8" (some 0) with
  accessFlags := 32
  interfaces := #[]
  cf := some (fileOf pool2 8 #[.nestMembers #[74]] #[{ accessFlags := 2, nameIndex := 5, descriptorIndex := 6, attributes := #[] }, { accessFlags := 8, nameIndex := 50, descriptorIndex := 51, attributes := #[] }] 32 2 #[] #[{ accessFlags := 24, nameIndex := 94, descriptorIndex := 95, attributes := #[] }, { accessFlags := 26, nameIndex := 54, descriptorIndex := 55, attributes := #[] }, { accessFlags := 26, nameIndex := 29, descriptorIndex := 30, attributes := #[] }])
  fields := #[{ name := "LOOKAHEAD", type := .int, accessFlags := 24, slot := 0, constantValue := 0 }, { name := "SMALLEST_BY_LENGTH", type := (.array .int), accessFlags := 26, slot := 1, constantValue := 0 }, { name := "HEX", type := (.object "java/util/HexFormat"), accessFlags := 26, slot := 2, constantValue := 0 }]
  methods := #[k2m0, k2m1]
  instanceTypes := #[]
  staticTypes := #[.int, (.array .int), (.object "java/util/HexFormat")]
  resolved := Array.replicate 127 none
  statics := none }

def pool3 : Array CpInfo := pool [(1, u "java/lang/Cloneable"), (0, .class_ 1), (0, u "java/lang/Object"), (0, .class_ 3)] 3

/-- java/lang/Cloneable -/
def k3 : Class := { plain "java/lang/Cloneable" (some 0) with
  accessFlags := 1537
  interfaces := #[]
  cf := some (fileOf pool3 2 #[] #[] 1537 4 #[] #[])
  fields := #[]
  methods := #[]
  instanceTypes := #[]
  staticTypes := #[]
  resolved := Array.replicate 8 none
  statics := none }

def pool4 : Array CpInfo := pool [(1, u "java/io/Serializable"), (0, .class_ 1), (0, u "java/lang/Object"), (0, .class_ 3)] 3

/-- java/io/Serializable -/
def k4 : Class := { plain "java/io/Serializable" (some 0) with
  accessFlags := 1537
  interfaces := #[]
  cf := some (fileOf pool4 2 #[] #[] 1537 4 #[] #[])
  fields := #[]
  methods := #[]
  instanceTypes := #[]
  staticTypes := #[]
  resolved := Array.replicate 8 none
  statics := none }

/-- the primitive byte -/
def k5 : Class := { plain "byte" none with kind := .primitive 'B', accessFlags := 0x411 }
/-- [B -/
def k6 : Class := { plain "[B" (some 0) with kind := .array 5 .byte, interfaces := #[3, 4], accessFlags := 1041 }

/-- the primitive int -/
def k7 : Class := { plain "int" none with kind := .primitive 'I', accessFlags := 0x411 }
/-- [I -/
def k8 : Class := { plain "[I" (some 0) with kind := .array 7 .int, interfaces := #[3, 4], accessFlags := 1041 }

def heap : Heap := #[]
def classes : Array Class := #[k0, k1, k2, k3, k4, k5, k6, k7, k8]
def interned : List (Array UInt16 × Addr) := []
def slotsUsed : Nat := 0
def theMethod : MethodId := ⟨1, 1⟩
def args0 : Array Value := #[.int 5, .int 3, .int 4, .int 2, .int 1, .int 9]
def aboutOver (below : List Frame) : State where
  vm := { classes := classes, interned := interned.toArray }
  heap := heap
  slotsUsed := slotsUsed
  threads := #[{ frames := .invoking theMethod args0 :: below }]
def below0 : List Frame := [.native { method := ⟨0, 0⟩, args := #[] }]
def about1 : State := aboutOver below0
def p0 : Program := .bare "" "" ""
def e0 : Env := launch0.env 0 0 0
theorem w_frames : about1.frames = Frame.invoking theMethod args0 :: below0 := rfl
set_option maxRecDepth 65536 in
theorem w_args : argsFit about1.vm theMethod args0 = true := by decide +kernel
set_option maxRecDepth 65536 in
theorem w_heap : heapFits about1 = true := by decide +kernel
set_option maxRecDepth 65536 in
theorem w_runnable : about1.curStatus? = some .runnable := by decide +kernel
set_option maxRecDepth 65536 in
theorem w_alone : about1.alone = true := by decide +kernel
set_option maxRecDepth 65536 in
theorem w_named : about1.methodNamed? x = some theMethod := by decide +kernel
set_option maxRecDepth 65536 in
theorem w_hears : about1.hears theMethod below0 = true := by decide +kernel
set_option maxRecDepth 65536 in
theorem w_ripe : about1.ripe theMethod args0 below0 = true := by decide +kernel
theorem w_running : about1.status = .running := rfl
set_option maxRecDepth 65536 in
theorem w_room : about1.hasRoom e0.platform room_1 = true :=
  launch0.hasRoom_least _ room_1 (by decide +kernel) (by decide +kernel) (by decide +kernel) (by decide +kernel) (by decide +kernel) (by decide +kernel)
theorem allAtoms_all (ts : List Jvm.Cond) (a : Array Jvm.Value) (st : Jvm.State) : (allAtoms ts).before a st = ts.all (fun c => c.before a st) := by
  induction ts with
  | nil => rfl
  | cons c t ih =>
    show (Jvm.Cond.and c (allAtoms t)).before a st = _
    rw [Jvm.Cond.before_and, ih, List.all_cons]
def words1 : List Jvm.Cond := Jvm.Cond.code x code maxLocals ret :: tables_1
/-- a 'code' word, met by the world's own term for the bytes: nothing is compared byte by byte -/
theorem code_word {y : MethodName} {bytes : ByteArray} {mx : Nat} {rt : Option FieldType} {a : Array Value} {s : State} {m : MethodId} {meth : Method} {c : Code} (h1 : s.methodNamed? y = some m) (h2 : s.vm.method? m = some meth) (h3 : meth.code = some c) (h4 : c.code = bytes)
    (h5 : (c.maxLocals == mx && c.exceptionTable.isEmpty && decide (c.maxStack ≤ mostOperands) && decide (meth.sig.returnType = rt) && !meth.locks && decide (parseMethodDescriptor y.desc = some meth.sig)) = true) : (Jvm.Cond.code y bytes mx rt).before a s = true := by
  simp only [Bool.and_eq_true, beq_iff_eq, Bool.not_eq_true', decide_eq_true_eq] at h5
  obtain ⟨⟨⟨⟨⟨g1, g2⟩, g3⟩, g4⟩, g5⟩, g6⟩ := h5
  simp [Cond.before, Cond.holds, Cond.value, h1, h2, h3, h4, g1, g2, g3, g4, g5, g6]
def isCode : Jvm.Cond → Bool
  | .code _ _ _ _ => true
  | _ => false
theorem all_split {L : List Jvm.Cond} {P : Jvm.Cond → Bool} (h1 : L.all (fun c => isCode c || P c) = true) (h2 : ∀ c ∈ L.filter isCode, P c = true) : L.all P = true := by
  refine List.all_eq_true.mpr fun c hc => ?_
  have h := List.all_eq_true.mp h1 c hc
  rcases Bool.eq_false_or_eq_true (isCode c) with hi | hi
  · exact h2 c (List.mem_filter.mpr ⟨hc, hi⟩)
  · simpa [hi] using h
set_option maxRecDepth 65536 in
theorem w_c0 : (Jvm.Cond.code x code maxLocals ret).before args0 about1 = true := code_word (m := ⟨1, 1⟩) (meth := k1m1) (c := k1c1) (by decide +kernel) rfl rfl rfl (by decide +kernel)
set_option maxRecDepth 65536 in
theorem w_c1 : (Jvm.Cond.code ({ cls := "com/example/vestwright/vestwright/io/Utf8", name := "codePoint", desc := "([BII)I" } : Jvm.MethodName) prog_18_method_4_code (5 : Nat) (Option.some Jvm.ClassFile.FieldType.int)).before args0 about1 = true := code_word (m := ⟨2, 1⟩) (meth := k2m1) (c := k2c1) (by decide +kernel) rfl rfl rfl (by decide +kernel)
def codes1 : List Jvm.Cond := [Jvm.Cond.code x code maxLocals ret, Jvm.Cond.code ({ cls := "com/example/vestwright/vestwright/io/Utf8", name := "codePoint", desc := "([BII)I" } : Jvm.MethodName) prog_18_method_4_code (5 : Nat) (Option.some Jvm.ClassFile.FieldType.int)]
set_option maxRecDepth 65536 in
theorem codes_eq : words1.filter isCode = codes1 := rfl
theorem w_codes : ∀ c ∈ words1.filter isCode, c.before args0 about1 = true := by
  rw [codes_eq]
  intro c hc
  simp only [codes1, List.mem_cons, List.not_mem_nil, or_false] at hc
  rcases hc with rfl | rfl
  · exact w_c0
  · exact w_c1
set_option maxRecDepth 65536 in
theorem w_t1 : words1.all (fun c => isCode c || c.before args0 about1) = true := by decide +kernel
theorem w_tables : (allAtoms (Jvm.Cond.code x code maxLocals ret :: tables_1)).before args0 about1 = true := by
  rw [allAtoms_all]
  show words1.all (fun c => c.before args0 about1) = true
  refine all_split ?_ w_codes
  rw [w_t1]
set_option maxRecDepth 65536 in
theorem w_case : (Jvm.Cond.and given_1 narrow_1).before args0 about1 = true := by decide +kernel
theorem w_applies : (headSpec (Jvm.Cond.code x code maxLocals ret :: tables_1) room_1).applies x e0.platform about1 = true :=
  (Spec.applies_iff w_frames).mpr ⟨w_running, w_runnable, w_alone, w_named, w_hears, w_ripe, w_room, w_tables⟩
theorem atStart : AtStart classFile x code maxLocals ret World_1 tables_1 room_1 Calls_1 rest_1 Pre_1 launch0 p0 e0 about1 theMethod args0 below0 :=
  ⟨lists_1, trivial, launch0.admits_env _ _ _, launch0.least_env, fairChoices_fair.cas, fairChoices_fair.clock, w_frames, w_args, w_heap, w_applies, trivial, trivial, w_case⟩
end start1
theorem witness_1 : WitnessClaimed_1 := ⟨start1.p0, start1.e0, start1.about1, start1.theMethod, start1.args0, start1.below0, start1.atStart⟩
end Jvm.Pilot.@@N@@
