import JvmDerived
import JvmDerived.Pilot.@@N@@Statement
import JvmDerived.Pilot.@@N@@Code
set_option linter.unusedVariables false
set_option linter.unusedSimpArgs false
namespace Jvm.RoadKit
open Sem ClassFile Op Lib Jvm.Stand Jvm.Free Jvm.LawKit
section New
variable {p : Program} {l : Launch} {e : Env} {R : Room} {s : State} {m : MethodId} {args : Array Value} {below : List Frame} {meth : Method} {c : Code} {T : State} {locs : List Loc} {cells slots : Nat}
theorem retI (X : Stand p l e R s m args below meth c T locs cells slots) (hx : p.tables.exec = Jvm.exec) {pc : Nat} {Ls : Array Slot} {z : Int32} {rest : List Value} (hret : meth.sig.returnType = some .int) (hd : decode c.code pc = .ok (.ireturn, 1)) {fs : List Frame}
    (hl : ∀ (f : JFrame) (acts : List Action), f.method = m → f.locked = none → f.entered = [] → (doReturn e (T.setTop f) acts (some (.int z))).1 = T.setFrames fs) : Steps p.tables e below (T.setTop (mkF m pc Ls (.int z :: rest))) (T.setFrames fs) := by
  have hm' : T.vm.method? m = some meth := X.method'
  have hn : narrow .int (.int z) = .int z := rfl
  show Steps p.tables e below (T.setTop { method := m, pc := pc, locals := Ls, stack := _ :: rest, locked := none }) _
  jvm_step X.here [X.here.top, hx, hd, hm', hret, hn]
  first | (intro acts; rw [hl _ acts rfl rfl rfl]) | rw [hl _ _ rfl rfl rfl]
  exact Steps.refl _
end New
end Jvm.RoadKit
namespace Jvm.Pilot.@@N@@
open Jvm Jvm.ClassFile Sem Op Lib Jvm.Free Jvm.Stand Jvm.LawKit Jvm.RoadKit Bundle Jvm.Pilot.@@N@@.Jvm.D
section Own
variable {p : Program} {l : Launch} {e : Env} {R : Room} {s : State} {m : MethodId} {args : Array Value} {below : List Frame} {meth : Method} {c : Code} {T : State} {n0 C S : Nat} {Z : State} {a0 : Array Value} {h h' : Heap} {P : State → Outcome → Prop} {Q : Option Value → Heap → Prop}
/-- from U the run comes to an end at which P holds -/
def own_Go (p : Program) (e : Env) (below : List Frame) (P : State → Outcome → Prop) (U : State) : Prop := ∃ t o, Steps p.tables e below U t ∧ P t o
theorem own_st {U U' : State} (k : ∀ t, Steps p.tables e below U' t → Steps p.tables e below U t) (g : own_Go p e below P U') : own_Go p e below P U := by
  obtain ⟨t, o, a, b⟩ := g; exact ⟨t, o, k t a, b⟩
/-- where the run stands: its state, its heap, how many cells and slots are spent; nothing below n0 was written -/
def own_Sd (p : Program) (l : Launch) (e : Env) (R : Room) (s : State) (m : MethodId) (args : Array Value) (below : List Frame) (meth : Method) (c : Code) (n0 : Nat) (T : State) (h : Heap) (C S : Nat) : Prop :=
  ∃ locs, Stand p l e R s m args below meth c T locs C S ∧ Fr n0 locs ∧ T.heap = h ∧ n0 ≤ s.heap.size ∧ s.heap.size ≤ h.size
theorem own_Sd.here (X : own_Sd p l e R s m args below meth c n0 T h C S) : At T m c below := by obtain ⟨_, X, _⟩ := X; exact X.here
theorem own_Sd.ge0 (X : own_Sd p l e R s m args below meth c n0 T h C S) : n0 ≤ h.size := by obtain ⟨_, _, _, _, h1, h2⟩ := X; exact Nat.le_trans h1 h2
theorem own_Sd.more (X : own_Sd p l e R s m args below meth c n0 T h C S) {C' S' : Nat} (hc : C ≤ C') (hs : S ≤ S') : own_Sd p l e R s m args below meth c n0 T h C' S' := by
  obtain ⟨L, X, r⟩ := X; exact ⟨L, X.more hc hs, r⟩
/-- what the body of one method knows of itself -/
def own_Cx (p : Program) (s : State) (m : MethodId) (meth : Method) (c : Code) (Z : State) (bytes : ByteArray) (maxL : Nat) (y : MethodName) (ret : Option FieldType) : Prop :=
  p.tables.exec = Jvm.exec ∧ c.code = bytes ∧ c.maxLocals = maxL ∧ s.vm.findClass y.cls = some m.cls ∧ meth.name = y.name ∧ meth.sig.returnType = ret ∧ meth.locks = false ∧ Z.Warmed39 s.vm
def own_End (below : List Frame) (s : State) (R : Room) (n0 : Nat) (Q : Option Value → Heap → Prop) (t : State) (o : Outcome) : Prop :=
  t.status = .running ∧ Ended t below o ∧ ∃ v L, o = .returned v ∧ (Q v t.heap ∧ s.heap.size ≤ t.heap.size ∧ Fr n0 L) ∧ FrameEnd s o t L R.cells R.slots
/-- a method's contract: on these arguments, at this heap, it returns so that Q -/
def own_Met (l : Launch) (Z : State) (y : MethodName) (bytes : ByteArray) (maxL : Nat) (ret : Option FieldType) (rm : Room) (as' : Array Value) (h0 : Heap) (n0 : Nat) (Q : Option Value → Heap → Prop) : Prop :=
  ∀ ws, MetFree l y (head1 (Jvm.Cond.code y bytes maxL ret :: ws) rm) (fun a U => a = as' ∧ Z.Warmed39 U.vm ∧ U.heap = h0) (fun _ _ _ _ _ => True)
    (fun _ U o U' => ∃ v L, o = .returned v ∧ (Q v U'.heap ∧ h0.size ≤ U'.heap.size ∧ Fr n0 L) ∧ FrameEnd U o U' L rm.cells rm.slots)
theorem own_body {y : MethodName} {bytes : ByteArray} {maxL : Nat} {ret : Option FieldType} {rm : Room} {as' : Array Value} {h0 : Heap} {Ls : Array Slot} (hpl : plainFor y = true) (hfr : ∀ m, entryFrame m as' maxL = mkF m 0 Ls []) (hn : n0 ≤ h0.size)
    (B : ∀ (p : Program) (e : Env) (s : State) (m : MethodId) (below : List Frame) (meth : Method) (c : Code) (T : State), own_Cx p s m meth c Z bytes maxL y ret → own_Sd p l e rm s m as' below meth c n0 T h0 0 0 → own_Go p e below (own_End below s rm n0 Q) (T.setTop (mkF m 0 Ls []))) :
    own_Met l Z y bytes maxL ret rm as' h0 n0 Q := by
  intro ws
  refine MetFree.of_bodySF hpl hisR ?_
  intro p e s m args below meth c s₁ Bd hml0 hP hK
  obtain ⟨rfl, hZ, hh⟩ := hP
  have X0 : Stand p l e rm s m args below meth c s₁ [] 0 0 := Stand.of_body Bd
  have e0 : s₁.heap = h0 := by rw [← hh, Bd.state]; rfl
  have hs : s.heap.size = h0.size := by rw [hh]
  obtain ⟨t, o, st, h1, h2, v, L, h3, h4, h5⟩ := B p e s m below meth c s₁ ⟨Bd.exec, Bd.bytes, hml0, findClass_of_methodNamed Bd.named, (name_of_methodNamed Bd.named Bd.method).1, Bd.returns, Bd.notSynchronized, hZ⟩ ⟨[], X0, Fr.nil n0, e0, by rw [hs]; exact hn, by rw [hs]; exact Nat.le_refl _⟩
  rw [hs] at h4
  exact ⟨t, o, castTop (hfr m) st, h1, h2, v, L, h3, h4, h5⟩
theorem own_fin (X : own_Sd p l e R s m args below meth c n0 T h C S) (hlk : meth.locks = false) {v : Option Value} (hv : meth.sig.returnType = none → v = none) (hC : C ≤ R.cells) (hS : S ≤ R.slots) (q : Q v h) {U : State}
    (k : ∀ (T' : State) (locs : List Loc) (fs : List Frame), T' = T → Stand p l e R s m args below meth c T locs C S → (∀ (f : JFrame) (acts : List Action), f.method = m → f.locked = none → f.entered = [] → (doReturn e (T.setTop f) acts v).1 = T.setFrames fs) → Steps p.tables e below U (T.setFrames fs)) : own_Go p e below (own_End below s R n0 Q) U := by
  obtain ⟨L, X, N, eT, hn, hs⟩ := X
  obtain ⟨fs, hr, hrun, hended, hW, hsame⟩ := X.leave (v := v) hv hlk
  have e1 : (T.setFrames fs).heap = h := eT
  refine ⟨_, _, k T L fs rfl X hr, hrun, hended, v, L, rfl, ⟨?_, ?_, N⟩, ⟨_, rfl⟩, hW, hsame.mono hC hS⟩
  · rw [e1]; exact q
  · rw [e1]; exact hs
theorem own_retI (X : own_Sd p l e R s m args below meth c n0 T h C S) (hx : p.tables.exec = Jvm.exec) (hret : meth.sig.returnType = some .int) (hlk : meth.locks = false) {pc : Nat} {Ls : Array Slot} {z : Int32} {rest : List Value} (hd : decode c.code pc = .ok (.ireturn, 1)) (hC : C ≤ R.cells) (hS : S ≤ R.slots) (q : Q (some (.int z)) h) :
    own_Go p e below (own_End below s R n0 Q) (T.setTop (mkF m pc Ls (.int z :: rest))) :=
  own_fin X hlk (fun h => by rw [hret] at h; cases h) hC hS q fun _ _ _ _ X hr => retI X hx hret hd hr
theorem own_retN (X : own_Sd p l e R s m args below meth c n0 T h C S) (hx : p.tables.exec = Jvm.exec) {t : FieldType} (hret : meth.sig.returnType = some t) (ht : t = .boolean ∨ t = .byte ∨ t = .char ∨ t = .short) (hlk : meth.locks = false) {pc : Nat} {Ls : Array Slot} {z : Int32} {rest : List Value} (hd : decode c.code pc = .ok (.ireturn, 1)) (hC : C ≤ R.cells) (hS : S ≤ R.slots) (q : Q (some (.int (nar t z))) h) :
    own_Go p e below (own_End below s R n0 Q) (T.setTop (mkF m pc Ls (.int z :: rest))) :=
  own_fin X hlk (fun h => by rw [hret] at h; cases h) hC hS q fun _ _ _ _ X hr => retN X hx hret ht hd hr
theorem own_retJ (X : own_Sd p l e R s m args below meth c n0 T h C S) (hx : p.tables.exec = Jvm.exec) (hret : meth.sig.returnType = some .long) (hlk : meth.locks = false) {pc : Nat} {Ls : Array Slot} {z : Int64} {rest : List Value} (hd : decode c.code pc = .ok (.lreturn, 1)) (hC : C ≤ R.cells) (hS : S ≤ R.slots) (q : Q (some (.long z)) h) :
    own_Go p e below (own_End below s R n0 Q) (T.setTop (mkF m pc Ls (.long z :: rest))) :=
  own_fin X hlk (fun h => by rw [hret] at h; cases h) hC hS q fun _ _ _ _ X hr => retOut X hx hret rfl (Or.inr (Or.inl ⟨rfl, rfl, z, rfl⟩)) hd hr
theorem own_retA (X : own_Sd p l e R s m args below meth c n0 T h C S) (hx : p.tables.exec = Jvm.exec) {t : FieldType} (hret : meth.sig.returnType = some t) (ht : t.isReference = true) (hlk : meth.locks = false) {pc : Nat} {Ls : Array Slot} {w : Value} (hw : w.isRef = true) (hn : narrow t w = w) {rest : List Value} (hd : decode c.code pc = .ok (.areturn, 1)) (hC : C ≤ R.cells) (hS : S ≤ R.slots) (q : Q (some w) h) :
    own_Go p e below (own_End below s R n0 Q) (T.setTop (mkF m pc Ls (w :: rest))) :=
  own_fin X hlk (fun h => by rw [hret] at h; cases h) hC hS q fun _ _ _ _ X hr => retOut X hx hret hn (Or.inr (Or.inr (Or.inr (Or.inr ⟨rfl, ht, hw⟩)))) hd hr
theorem own_retV (X : own_Sd p l e R s m args below meth c n0 T h C S) (hx : p.tables.exec = Jvm.exec) (hret : meth.sig.returnType = none) (hlk : meth.locks = false) {pc : Nat} {Ls : Array Slot} (hd : decode c.code pc = .ok (.return_, 1)) (hC : C ≤ R.cells) (hS : S ≤ R.slots) (q : Q none h) :
    own_Go p e below (own_End below s R n0 Q) (T.setTop (mkF m pc Ls [])) :=
  own_fin X hlk (fun _ => rfl) hC hS q fun _ _ _ _ X hr => X.returnOut hx hret hd hr
/-! single steps that want a Stand -/
theorem own_irem (X : own_Sd p l e R s m args below meth c n0 T h C S) (hx : p.tables.exec = Jvm.exec) {g : JFrame} {x y : Int32} {rest : List Value} (hd : decode c.code g.pc = .ok (.irem, 1)) (hs : g.stack = .int y :: .int x :: rest) (hy : y ≠ 0) (hg : g.method = m)
    (k : own_Go p e below P (T.setTop { g with pc := g.pc + 1, stack := .int (x % y) :: rest })) : own_Go p e below P (T.setTop g) := by
  obtain ⟨_, X, _⟩ := X; exact own_st (fun _ q => iremM X hx hg hd hs hy q) k
theorem own_ldc (X : own_Sd p l e R s m args below meth c n0 T h C S) (hx : p.tables.exec = Jvm.exec) (hZ : Z.Warmed39 s.vm) {own : String} {index : Nat} {v : Int32} (hown : s.vm.findClass own = some m.cls) (w : (Cond.constant own index v).before a0 Z = true) {g : JFrame} (hg : g.method = m) (hd : decode c.code g.pc = .ok (.ldc index, 2))
    (k : own_Go p e below P (T.setTop { g with pc := g.pc + 2, stack := .int v :: g.stack })) : own_Go p e below P (T.setTop g) := by
  obtain ⟨_, X, _⟩ := X; exact own_st (fun _ q => X.ldcInt hx hown (mvT hZ w) hg hd _ q) k
theorem own_ldc2 (X : own_Sd p l e R s m args below meth c n0 T h C S) (hx : p.tables.exec = Jvm.exec) (hZ : Z.Warmed39 s.vm) {own : String} {index : Nat} {v : Int64} (hown : s.vm.findClass own = some m.cls) (w : (Cond.constantLong own index v).before a0 Z = true) {g : JFrame} (hg : g.method = m) (hd : decode c.code g.pc = .ok (.ldc2_w index, 3))
    (k : own_Go p e below P (T.setTop { g with pc := g.pc + 3, stack := .long v :: g.stack })) : own_Go p e below P (T.setTop g) := by
  obtain ⟨_, X, _⟩ := X; exact own_st (fun _ q => X.ldc2Long hx hown (mvT hZ w) hg hd _ q) k
theorem own_acmp (X : own_Sd p l e R s m args below meth c n0 T h C S) (hx : p.tables.exec = Jvm.exec) {g : JFrame} (hg : g.method = m) {cd : ACond} {x y : Value} (h1 : x.isRef = true) (h2 : y.isRef = true) {rest : List Value} {o : Int} {pc0 pc' : Nat} {same : Bool} (hpc : g.pc = pc0) (hd : decode c.code g.pc = .ok (.if_acmp cd o, 3)) (hs : g.stack = y :: x :: rest) (hsame : decide (x = y) = same) (ho : 0 ≤ (pc0 : Int) + o) (hp : pc' = if acV cd same then ((pc0 : Int) + o).toNat else pc0 + 3)
    (k : own_Go p e below P (T.setTop { g with pc := pc', stack := rest })) : own_Go p e below P (T.setTop g) := by
  obtain ⟨_, X, _⟩ := X; exact own_st (fun _ q => Jvm.RoadKit.acmp X hx hg h1 h2 hpc hd hs hsame ho hp q) k
theorem own_lrem (X : own_Sd p l e R s m args below meth c n0 T h C S) (hx : p.tables.exec = Jvm.exec) {g : JFrame} {x y : Int64} {rest : List Value} (hd : decode c.code g.pc = .ok (.lrem, 1)) (hs : g.stack = .long y :: .long x :: rest) (hy : y ≠ 0) (hg : g.method = m)
    (k : own_Go p e below P (T.setTop { g with pc := g.pc + 1, stack := .long (x % y) :: rest })) : own_Go p e below P (T.setTop g) :=
  own_st (fun _ q => XS.lrem X.here hx hg hd hs hy (by rw [lrem_mod]; exact q)) k
theorem own_dupX2 (X : own_Sd p l e R s m args below meth c n0 T h C S) (hx : p.tables.exec = Jvm.exec) {g : JFrame} {x y z : Value} {rest : List Value} (hd : decode c.code g.pc = .ok (.dup_x2, 1)) (hs : g.stack = x :: y :: z :: rest) (h1 : x.category = 1) (h2 : y.category = 1) (h3 : z.category = 1) (hg : g.method = m)
    (k : own_Go p e below P (T.setTop { g with pc := g.pc + 1, stack := x :: y :: z :: x :: rest })) : own_Go p e below P (T.setTop g) := by
  refine own_st (fun t q => ?_) k
  subst hg
  have h := X.here
  jvm_step h [h.top, hx, hd, hs, h1, h2, h3]
  exact q
/-! fields, objects -/
theorem own_getF (X : own_Sd p l e R s m args below meth c n0 T h C S) (hx : p.tables.exec = Jvm.exec) (hZ : Z.Warmed39 s.vm) {own O n d : String} {index : Nat} (hown : s.vm.findClass own = some m.cls) (w : (Cond.fieldLink own index O n d).before a0 Z = true) {a : Addr} {v : Value} (F : Fld Z h a O n d v) {g : JFrame} (hg : g.method = m) {rest : List Value} (hs : g.stack = .ref a :: rest) (hd : decode c.code g.pc = .ok (.getfield index, 3))
    (k : ∀ T', own_Sd p l e R s m args below meth c n0 T' h C S → own_Go p e below P (T'.setTop { g with pc := g.pc + 3, stack := v :: rest })) : own_Go p e below P (T.setTop g) := by
  obtain ⟨L, X, N, eT, r⟩ := X
  obtain ⟨T', X', e', st⟩ := getF X hx hZ hown (host := "") (Or.inl w) Via.refl eT F hg hs hd
  exact own_st st (k T' ⟨L, X', N, e', r⟩)
theorem own_putF (X : own_Sd p l e R s m args below meth c n0 T h C S) (hx : p.tables.exec = Jvm.exec) (hZ : Z.Warmed39 s.vm) {own O n d K : String} {index kk : Nat} {ty : FieldType} (hown : s.vm.findClass own = some m.cls) (w : (Cond.fieldLink own index O n d).before a0 Z = true) {a : Addr} {v v' old : Value} (F : Fld Z h a O n d old) (E : Exa Z h a K) (L : (Cond.lays K O n d).before a0 Z = true ∨ ((Cond.laysFinal K O n d).before a0 Z = true ∧ own = O ∧ meth.name = "<init>")) (wi : (Cond.instantiable K kk).before a0 Z = true)
    (hty : parseFieldDescriptor d = some ty) (hn : narrow ty v = v') (hf : fits ty v' = true) (ga : n0 ≤ a) {g : JFrame} (hg : g.method = m) {rest : List Value} (hs : g.stack = v :: .ref a :: rest) (hd : decode c.code g.pc = .ok (.putfield index, 3))
    (k : ∀ T' h', own_Sd p l e R s m args below meth c n0 T' h' C S → Wr h h' a (Jvm.RoadKit.slotOf Z O n d) v' → own_Go p e below P (T'.setTop { g with pc := g.pc + 3, stack := rest })) : own_Go p e below P (T.setTop g) := by
  obtain ⟨L0, X, N, eT, r1, r2⟩ := X
  obtain ⟨T', h', X', e', W, st⟩ := putFN X hx hZ hown w Via.refl eT F E L wi hty hn hf hg hs hd
  exact own_st st (k T' h' ⟨_, X', Fr.snoc X' N ga, e', r1, by rw [W.size]; exact r2⟩ W)
theorem own_newO (X : own_Sd p l e R s m args below meth c n0 T h C S) (hx : p.tables.exec = Jvm.exec) (hZ : Z.Warmed39 s.vm) {own K : String} {index n : Nat} (hown : s.vm.findClass own = some m.cls) (w : (Cond.classLink own index K).before a0 Z = true) (wi : (Cond.instantiable K n).before a0 Z = true) (wz : (Cond.initialized K).before a0 Z = true)
    {g : JFrame} (hg : g.method = m) (hd : decode c.code g.pc = .ok (.new index, 3)) (hc : C + 1 ≤ R.cells) (hl : S + n ≤ R.slots)
    (k : ∀ T' h' b, b = h.size → n0 ≤ b → own_Sd p l e R s m args below meth c n0 T' h' (C + 1) (S + n) → Ext h h' → Exa Z h' b K → (∀ {O nm d : String} {ty : FieldType}, Laid Z a0 K O nm d → parseFieldDescriptor d = some ty → Fld Z h' b O nm d (defaultValue ty)) → own_Go p e below P (T'.setTop { g with pc := g.pc + 3, stack := .ref b :: g.stack })) : own_Go p e below P (T.setTop g) := by
  have hn := X.ge0
  obtain ⟨L, X, N, eT, r1, r2⟩ := X
  obtain ⟨T', h', X', e', E, A, D, -, st⟩ := newO X hx hZ hown w wi wz eT hg hd hc hl
  exact own_st st (k T' h' h.size rfl hn ⟨L, X', N, e', r1, Nat.le_trans r2 E.1⟩ E A D)
theorem own_initO (X : own_Sd p l e R s m args below meth c n0 T h C S) (hx : p.tables.exec = Jvm.exec) (hZ : Z.Warmed39 s.vm) {own : String} {idx : Nat} (hown : s.vm.findClass own = some m.cls) (w1 : (Cond.methodLink own idx Lib.objectInit).before a0 Z = true) (w2 : (Cond.instanceMethod Lib.objectInit).before a0 Z = true)
    (w3 : (Cond.code Lib.objectInit ⟨#[0xb1]⟩ 1 none).before a0 Z = true) {g : JFrame} (hg : g.method = m) (hsize : g.locals.size = c.maxLocals) {a : Addr} {rest : List Value} (hs : g.stack = .ref a :: rest) (hd : decode c.code g.pc = .ok (.invokespecial idx, 3))
    (hf : 1 ≤ R.frames) {W : Nat} (hW : 2 * g.monitorRoom + (rest.map fun v => v.category).sum ≤ W) (hl : W + 12 ≤ R.locals)
    (k : ∀ T', own_Sd p l e R s m args below meth c n0 T' h C S → own_Go p e below P (T'.setTop { g with pc := g.pc + 3, stack := rest })) : own_Go p e below P (T.setTop g) := by
  obtain ⟨L, X, N, eT, r⟩ := X
  obtain ⟨T', X', e', st⟩ := initO X hx hZ hown w1 w2 w3 eT hg hsize hs hd hf hW hl
  exact own_st st (k T' ⟨L, X', N, e', r⟩)
/-! calls -/
theorem own_back {y : MethodName} {bytes : ByteArray} {maxL : Nat} {ret : Option FieldType} {rm : Room} {as' : Array Value} {len W : Nat} (hM : own_Met l Z y bytes maxL ret rm as' h n0 Q) (hZ : Z.Warmed39 s.vm) (wc : (Cond.code y bytes maxL ret).before a0 Z = true) (wz : (Cond.initialized y.cls).before a0 Z = true) (hf : rm.frames + 1 ≤ R.frames) (hl : W + (maxL + 11) + rm.locals ≤ R.locals) :
    Back l R p e below s args y len W (fun A a => a = as' ∧ A.U.heap = h ∧ A.cells + rm.cells ≤ R.cells ∧ A.slots + rm.slots ≤ R.slots) (fun A _ v B => ∃ L, (Q v B.U.heap ∧ h.size ≤ B.U.heap.size ∧ Fr n0 L) ∧ B.locs = A.locs ++ L ∧ B.cells = A.cells + rm.cells ∧ B.slots = A.slots + rm.slots) :=
  backOf (Q := fun v h' L => Q v h' ∧ h.size ≤ h'.size ∧ Fr n0 L) (hM []) hZ wc wz hf hl
theorem own_callS (X : own_Sd p l e R s m args below meth c n0 T h C S) (hx : p.tables.exec = Jvm.exec) (hZ : Z.Warmed39 s.vm) {own : String} {index : Nat} {y : MethodName} {bytes : ByteArray} {maxL : Nat} {ret : Option FieldType} (hown : s.vm.findClass own = some m.cls)
    (w1 : (Cond.methodLink own index y).before a0 Z = true) (w2 : (Cond.static y).before a0 Z = true) (w3 : (Cond.initialized y.cls).before a0 Z = true) (w4 : (Cond.code y bytes maxL ret).before a0 Z = true) (hy : y.cls ≠ "java/lang/invoke/MethodHandle" ∧ y.cls ≠ "java/lang/invoke/VarHandle")
    {rm : Room} {as' : Array Value} (hM : own_Met l Z y bytes maxL ret rm as' h n0 Q) (hf : rm.frames + 1 ≤ R.frames) {W : Nat} (hlo : W + (maxL + 11) + rm.locals ≤ R.locals) {g : JFrame} (hg : g.method = m) (hsize : g.locals.size = c.maxLocals) {argsL rest : List Value} (hlen : ∀ sig, parseMethodDescriptor y.desc = some sig → argsL.length = sig.parameters.length) (has : argsL.toArray = as')
    (hstack : g.stack = argsL.reverse ++ rest) (hW : 2 * g.monitorRoom + (rest.map fun v => v.category).sum ≤ W) (hd : decode c.code g.pc = .ok (.invokestatic index, 3)) (hc : C + rm.cells ≤ R.cells) (hs : S + rm.slots ≤ R.slots)
    (k : ∀ v T' h', own_Sd p l e R s m args below meth c n0 T' h' (C + rm.cells) (S + rm.slots) → Q v h' → own_Go p e below P (T'.setTop { g with pc := g.pc + 3, stack := v.toList ++ rest })) : own_Go p e below P (T.setTop g) := by
  obtain ⟨L, X, N, eT, r1, r2⟩ := X
  obtain ⟨v, _, ⟨T', L', k', n'⟩, -, X', ⟨Lc, ⟨hQ, hsz, hN⟩, e1, e2, e3⟩, st⟩ := Jvm.LawKit.callS X hx hown (mvT hZ w1) (mvT hZ w2) (mvT hZ w3) (mvT hZ w4) hy (own_back (W := W) hM hZ w4 w3 hf hlo) hg hsize hlen hstack hW hd (fun _ _ => ⟨has, eT, hc, hs⟩)
  dsimp only [Pt.U, Pt.locs, Pt.cells, Pt.slots] at X' e1 e2 e3 st hQ hsz
  subst e1 e2 e3
  exact own_st st (k v T' T'.heap ⟨_, X', Fr.app N hN, rfl, r1, Nat.le_trans r2 hsz⟩ hQ)
theorem own_callC (X : own_Sd p l e R s m args below meth c n0 T h C S) (hx : p.tables.exec = Jvm.exec) (hZ : Z.Warmed39 s.vm) {own : String} {index : Nat} {y : MethodName} {bytes : ByteArray} {maxL : Nat} (hy1 : y.name = "<init>") (hown : s.vm.findClass own = some m.cls)
    (w1 : (Cond.methodLink own index y).before a0 Z = true) (w2 : (Cond.instanceMethod y).before a0 Z = true) (w3 : (Cond.initialized y.cls).before a0 Z = true) (w4 : (Cond.code y bytes maxL none).before a0 Z = true) (hy : y.cls ≠ "java/lang/invoke/MethodHandle" ∧ y.cls ≠ "java/lang/invoke/VarHandle")
    {rm : Room} {as' : Array Value} (hM : own_Met l Z y bytes maxL none rm as' h n0 Q) (hf : rm.frames + 1 ≤ R.frames) {W : Nat} (hlo : W + (maxL + 11) + rm.locals ≤ R.locals) {g : JFrame} (hg : g.method = m) (hsize : g.locals.size = c.maxLocals) {a : Addr} {argsL rest : List Value} (hlen : ∀ sig, parseMethodDescriptor y.desc = some sig → argsL.length = sig.parameters.length) (has : (.ref a :: argsL).toArray = as')
    (hstack : g.stack = argsL.reverse ++ .ref a :: rest) (hW : 2 * g.monitorRoom + (rest.map fun v => v.category).sum ≤ W) (hd : decode c.code g.pc = .ok (.invokespecial index, 3)) (hc : C + rm.cells ≤ R.cells) (hs : S + rm.slots ≤ R.slots)
    (k : ∀ v T' h', own_Sd p l e R s m args below meth c n0 T' h' (C + rm.cells) (S + rm.slots) → Q v h' → own_Go p e below P (T'.setTop { g with pc := g.pc + 3, stack := v.toList ++ rest })) : own_Go p e below P (T.setTop g) := by
  obtain ⟨L, X, N, eT, r1, r2⟩ := X
  obtain ⟨v, _, ⟨T', L', k', n'⟩, -, X', ⟨Lc, ⟨hQ, hsz, hN⟩, e1, e2, e3⟩, st⟩ := X.specialBack hx hy1 hown (mvT hZ w1) (mvT hZ w2) (mvT hZ w4) hy (own_back (W := W) hM hZ w4 w3 hf hlo) hg hsize (Steps.refl _) hlen hstack hW hd (fun _ _ => ⟨has, eT, hc, hs⟩)
  dsimp only [Pt.U, Pt.locs, Pt.cells, Pt.slots] at X' e1 e2 e3 st hQ hsz
  subst e1 e2 e3
  exact own_st (fun _ q => st.trans q) (k v T' T'.heap ⟨_, X', Fr.app N hN, rfl, r1, Nat.le_trans r2 hsz⟩ hQ)
theorem own_callV (X : own_Sd p l e R s m args below meth c n0 T h C S) (hx : p.tables.exec = Jvm.exec) (hZ : Z.Warmed39 s.vm) {own K : String} {index : Nat} {y : MethodName} {bytes : ByteArray} {maxL : Nat} {ret : Option FieldType} (hown : s.vm.findClass own = some m.cls)
    (w1 : (Cond.methodLink own index y).before a0 Z = true) (w2 : (Cond.declares y).before a0 Z = true) (w5 : (Cond.selects K y y).before a0 Z = true) (w6 : (Cond.instanceMethod y).before a0 Z = true) (w3 : (Cond.initialized y.cls).before a0 Z = true) (w4 : (Cond.code y bytes maxL ret).before a0 Z = true) (hy : y.cls ≠ "java/lang/invoke/MethodHandle" ∧ y.cls ≠ "java/lang/invoke/VarHandle")
    {a : Addr} (E : Exa Z h a K) {rm : Room} {as' : Array Value} (hM : own_Met l Z y bytes maxL ret rm as' h n0 Q) (hf : rm.frames + 1 ≤ R.frames) {W : Nat} (hlo : W + (maxL + 11) + rm.locals ≤ R.locals) {g : JFrame} (hg : g.method = m) (hsize : g.locals.size = c.maxLocals) {argsL rest : List Value} (hlen : ∀ sig, parseMethodDescriptor y.desc = some sig → argsL.length = sig.parameters.length) (has : (.ref a :: argsL).toArray = as')
    (hstack : g.stack = argsL.reverse ++ .ref a :: rest) (hW : 2 * g.monitorRoom + (rest.map fun v => v.category).sum ≤ W) (hd : decode c.code g.pc = .ok (.invokevirtual index, 3)) (hc : C + rm.cells ≤ R.cells) (hs : S + rm.slots ≤ R.slots)
    (k : ∀ v T' h', own_Sd p l e R s m args below meth c n0 T' h' (C + rm.cells) (S + rm.slots) → Q v h' → own_Go p e below P (T'.setTop { g with pc := g.pc + 3, stack := v.toList ++ rest })) : own_Go p e below P (T.setTop g) := by
  obtain ⟨L, X, N, eT, r1, r2⟩ := X
  obtain ⟨cB, kB, q1, q2, q3⟩ := isOf hZ eT E
  obtain ⟨v, _, ⟨T', L', k', n'⟩, -, X', ⟨Lc, ⟨hQ, hsz, hN⟩, e1, e2, e3⟩, st⟩ := X.virtualBack hx hown (mvT hZ w1) (mvT hZ w2) (notFace_of_selects (args := #[]) (mvT hZ w5)) (mvT hZ w5) (mvT hZ w6) hy (own_back (W := W) hM hZ w4 w3 hf hlo) q1 q3 hg hsize (Steps.refl _) hlen hstack hW hd (fun _ _ => ⟨has, eT, hc, hs⟩)
  dsimp only [Pt.U, Pt.locs, Pt.cells, Pt.slots] at X' e1 e2 e3 st hQ hsz
  subst e1 e2 e3
  exact own_st (fun _ q => st.trans q) (k v T' T'.heap ⟨_, X', Fr.app N hN, rfl, r1, Nat.le_trans r2 hsz⟩ hQ)
theorem own_callP (X : own_Sd p l e R s m args below meth c n0 T h C S) (hx : p.tables.exec = Jvm.exec) (hZ : Z.Warmed39 s.vm) {own K K' : String} {index : Nat} {y y' : MethodName} {bytes : ByteArray} {maxL : Nat} {ret : Option FieldType} (hown : s.vm.findClass own = some m.cls)
    (w1 : (Cond.methodLink own index y).before a0 Z = true) (w7 : (Cond.privateMethod y).before a0 Z = true) (w5 : (Cond.selects K y' y').before a0 Z = true) (hyy : y'.cls = y.cls) (w6 : (Cond.instanceMethod y).before a0 Z = true) (w3 : (Cond.initialized y.cls).before a0 Z = true) (w4 : (Cond.code y bytes maxL ret).before a0 Z = true) (hy : y.cls ≠ "java/lang/invoke/MethodHandle" ∧ y.cls ≠ "java/lang/invoke/VarHandle")
    {a : Addr} (E : Exa Z h a K') {rm : Room} {as' : Array Value} (hM : own_Met l Z y bytes maxL ret rm as' h n0 Q) (hf : rm.frames + 1 ≤ R.frames) {W : Nat} (hlo : W + (maxL + 11) + rm.locals ≤ R.locals) {g : JFrame} (hg : g.method = m) (hsize : g.locals.size = c.maxLocals) {argsL rest : List Value} (hlen : ∀ sig, parseMethodDescriptor y.desc = some sig → argsL.length = sig.parameters.length) (has : (.ref a :: argsL).toArray = as')
    (hstack : g.stack = argsL.reverse ++ .ref a :: rest) (hW : 2 * g.monitorRoom + (rest.map fun v => v.category).sum ≤ W) (hd : decode c.code g.pc = .ok (.invokevirtual index, 3)) (hc : C + rm.cells ≤ R.cells) (hs : S + rm.slots ≤ R.slots)
    (k : ∀ v T' h', own_Sd p l e R s m args below meth c n0 T' h' (C + rm.cells) (S + rm.slots) → Q v h' → own_Go p e below P (T'.setTop { g with pc := g.pc + 3, stack := v.toList ++ rest })) : own_Go p e below P (T.setTop g) := by
  obtain ⟨L, X, N, eT, r1, r2⟩ := X
  obtain ⟨c2, q2, m2, -, -, q3, -, kP, hkP, hkPi⟩ := Cond.selects_spec (mvT hZ w5 : (Cond.selects K y' y').before args s = true)
  have hcl := findClass_of_methodNamed q3
  rw [hyy] at hcl
  have hp := Cond.privateMethod_at (mvP hZ w7 (args := #[]))
  have hsel := selects_self_of_private (args := args) hcl hkP hkPi hp (mvT hZ w6) hy
  obtain ⟨cl, h1, h2⟩ := E.cell
  obtain ⟨v, _, ⟨T', L', k', n'⟩, -, X', ⟨Lc, ⟨hQ, hsz, hN⟩, e1, e2, e3⟩, st⟩ := X.privateBack hx hown (mvT hZ w1) (mvT hZ w6) hsel hp (mvT hZ w4) hy (own_back (W := W) hM hZ w4 w3 hf hlo) hg hsize (Steps.refl _) (by rw [eT]; exact h1) h2 hlen hstack hW hd (fun _ _ => ⟨has, eT, hc, hs⟩)
  dsimp only [Pt.U, Pt.locs, Pt.cells, Pt.slots] at X' e1 e2 e3 st hQ hsz
  subst e1 e2 e3
  exact own_st (fun _ q => st.trans q) (k v T' T'.heap ⟨_, X', Fr.app N hN, rfl, r1, Nat.le_trans r2 hsz⟩ hQ)
/-! calls of methods that leave the heap as it is -/
theorem own_callSp (X : own_Sd p l e R s m args below meth c n0 T h C S) (hx : p.tables.exec = Jvm.exec) (hZ : Z.Warmed39 s.vm) {own : String} {index : Nat} {y : MethodName} {bytes : ByteArray} {maxL : Nat} {ret : Option FieldType} (hown : s.vm.findClass own = some m.cls)
    (w1 : (Cond.methodLink own index y).before a0 Z = true) (w2 : (Cond.static y).before a0 Z = true) (w3 : (Cond.initialized y.cls).before a0 Z = true) (w4 : (Cond.code y bytes maxL ret).before a0 Z = true) (hy : y.cls ≠ "java/lang/invoke/MethodHandle" ∧ y.cls ≠ "java/lang/invoke/VarHandle")
    {rm : Room} {as' : Array Value} {r : Option Value} (hM : own_Met l Z y bytes maxL ret rm as' h n0 (fun v' h' => v' = r ∧ h' = h)) (hf : rm.frames + 1 ≤ R.frames) {W : Nat} (hlo : W + (maxL + 11) + rm.locals ≤ R.locals) {g : JFrame} (hg : g.method = m) (hsize : g.locals.size = c.maxLocals) {argsL rest : List Value} (hlen : ∀ sig, parseMethodDescriptor y.desc = some sig → argsL.length = sig.parameters.length) (has : argsL.toArray = as')
    (hstack : g.stack = argsL.reverse ++ rest) (hW : 2 * g.monitorRoom + (rest.map fun v => v.category).sum ≤ W) (hd : decode c.code g.pc = .ok (.invokestatic index, 3)) (hc : C + rm.cells ≤ R.cells) (hs : S + rm.slots ≤ R.slots)
    (k : ∀ T', own_Sd p l e R s m args below meth c n0 T' h (C + rm.cells) (S + rm.slots) → own_Go p e below P (T'.setTop { g with pc := g.pc + 3, stack := r.toList ++ rest })) : own_Go p e below P (T.setTop g) :=
  own_callS X hx hZ hown w1 w2 w3 w4 hy hM hf hlo hg hsize hlen has hstack hW hd hc hs fun v T' h' X' q => by
    obtain ⟨e1, e2⟩ := q; rw [e1]; rw [e2] at X'; exact k T' X'
theorem own_callVp (X : own_Sd p l e R s m args below meth c n0 T h C S) (hx : p.tables.exec = Jvm.exec) (hZ : Z.Warmed39 s.vm) {own K : String} {index : Nat} {y : MethodName} {bytes : ByteArray} {maxL : Nat} {ret : Option FieldType} (hown : s.vm.findClass own = some m.cls)
    (w1 : (Cond.methodLink own index y).before a0 Z = true) (w2 : (Cond.declares y).before a0 Z = true) (w5 : (Cond.selects K y y).before a0 Z = true) (w6 : (Cond.instanceMethod y).before a0 Z = true) (w3 : (Cond.initialized y.cls).before a0 Z = true) (w4 : (Cond.code y bytes maxL ret).before a0 Z = true) (hy : y.cls ≠ "java/lang/invoke/MethodHandle" ∧ y.cls ≠ "java/lang/invoke/VarHandle")
    {a : Addr} (E : Exa Z h a K) {rm : Room} {as' : Array Value} {r : Option Value} (hM : own_Met l Z y bytes maxL ret rm as' h n0 (fun v' h' => v' = r ∧ h' = h)) (hf : rm.frames + 1 ≤ R.frames) {W : Nat} (hlo : W + (maxL + 11) + rm.locals ≤ R.locals) {g : JFrame} (hg : g.method = m) (hsize : g.locals.size = c.maxLocals) {argsL rest : List Value} (hlen : ∀ sig, parseMethodDescriptor y.desc = some sig → argsL.length = sig.parameters.length) (has : (.ref a :: argsL).toArray = as')
    (hstack : g.stack = argsL.reverse ++ .ref a :: rest) (hW : 2 * g.monitorRoom + (rest.map fun v => v.category).sum ≤ W) (hd : decode c.code g.pc = .ok (.invokevirtual index, 3)) (hc : C + rm.cells ≤ R.cells) (hs : S + rm.slots ≤ R.slots)
    (k : ∀ T', own_Sd p l e R s m args below meth c n0 T' h (C + rm.cells) (S + rm.slots) → own_Go p e below P (T'.setTop { g with pc := g.pc + 3, stack := r.toList ++ rest })) : own_Go p e below P (T.setTop g) :=
  own_callV X hx hZ hown w1 w2 w5 w6 w3 w4 hy E hM hf hlo hg hsize hlen has hstack hW hd hc hs fun v T' h' X' q => by
    obtain ⟨e1, e2⟩ := q; rw [e1]; rw [e2] at X'; exact k T' X'
theorem own_callCp (X : own_Sd p l e R s m args below meth c n0 T h C S) (hx : p.tables.exec = Jvm.exec) (hZ : Z.Warmed39 s.vm) {own : String} {index : Nat} {y : MethodName} {bytes : ByteArray} {maxL : Nat} (hy1 : y.name = "<init>") (hown : s.vm.findClass own = some m.cls)
    (w1 : (Cond.methodLink own index y).before a0 Z = true) (w2 : (Cond.instanceMethod y).before a0 Z = true) (w3 : (Cond.initialized y.cls).before a0 Z = true) (w4 : (Cond.code y bytes maxL none).before a0 Z = true) (hy : y.cls ≠ "java/lang/invoke/MethodHandle" ∧ y.cls ≠ "java/lang/invoke/VarHandle")
    {rm : Room} {as' : Array Value} {r : Option Value} (hM : own_Met l Z y bytes maxL none rm as' h n0 (fun v' h' => v' = r ∧ h' = h)) (hf : rm.frames + 1 ≤ R.frames) {W : Nat} (hlo : W + (maxL + 11) + rm.locals ≤ R.locals) {g : JFrame} (hg : g.method = m) (hsize : g.locals.size = c.maxLocals) {a : Addr} {argsL rest : List Value} (hlen : ∀ sig, parseMethodDescriptor y.desc = some sig → argsL.length = sig.parameters.length) (has : (.ref a :: argsL).toArray = as')
    (hstack : g.stack = argsL.reverse ++ .ref a :: rest) (hW : 2 * g.monitorRoom + (rest.map fun v => v.category).sum ≤ W) (hd : decode c.code g.pc = .ok (.invokespecial index, 3)) (hc : C + rm.cells ≤ R.cells) (hs : S + rm.slots ≤ R.slots)
    (k : ∀ T', own_Sd p l e R s m args below meth c n0 T' h (C + rm.cells) (S + rm.slots) → own_Go p e below P (T'.setTop { g with pc := g.pc + 3, stack := r.toList ++ rest })) : own_Go p e below P (T.setTop g) :=
  own_callC X hx hZ hy1 hown w1 w2 w3 w4 hy hM hf hlo hg hsize hlen has hstack hW hd hc hs fun v T' h' X' q => by
    obtain ⟨e1, e2⟩ := q; rw [e1]; rw [e2] at X'; exact k T' X'
theorem own_callPp (X : own_Sd p l e R s m args below meth c n0 T h C S) (hx : p.tables.exec = Jvm.exec) (hZ : Z.Warmed39 s.vm) {own K K' : String} {index : Nat} {y y' : MethodName} {bytes : ByteArray} {maxL : Nat} {ret : Option FieldType} (hown : s.vm.findClass own = some m.cls)
    (w1 : (Cond.methodLink own index y).before a0 Z = true) (w7 : (Cond.privateMethod y).before a0 Z = true) (w5 : (Cond.selects K y' y').before a0 Z = true) (hyy : y'.cls = y.cls) (w6 : (Cond.instanceMethod y).before a0 Z = true) (w3 : (Cond.initialized y.cls).before a0 Z = true) (w4 : (Cond.code y bytes maxL ret).before a0 Z = true) (hy : y.cls ≠ "java/lang/invoke/MethodHandle" ∧ y.cls ≠ "java/lang/invoke/VarHandle")
    {a : Addr} (E : Exa Z h a K') {rm : Room} {as' : Array Value} {r : Option Value} (hM : own_Met l Z y bytes maxL ret rm as' h n0 (fun v' h' => v' = r ∧ h' = h)) (hf : rm.frames + 1 ≤ R.frames) {W : Nat} (hlo : W + (maxL + 11) + rm.locals ≤ R.locals) {g : JFrame} (hg : g.method = m) (hsize : g.locals.size = c.maxLocals) {argsL rest : List Value} (hlen : ∀ sig, parseMethodDescriptor y.desc = some sig → argsL.length = sig.parameters.length) (has : (.ref a :: argsL).toArray = as')
    (hstack : g.stack = argsL.reverse ++ .ref a :: rest) (hW : 2 * g.monitorRoom + (rest.map fun v => v.category).sum ≤ W) (hd : decode c.code g.pc = .ok (.invokevirtual index, 3)) (hc : C + rm.cells ≤ R.cells) (hs : S + rm.slots ≤ R.slots)
    (k : ∀ T', own_Sd p l e R s m args below meth c n0 T' h (C + rm.cells) (S + rm.slots) → own_Go p e below P (T'.setTop { g with pc := g.pc + 3, stack := r.toList ++ rest })) : own_Go p e below P (T.setTop g) :=
  own_callP X hx hZ hown w1 w7 w5 hyy w6 w3 w4 hy E hM hf hlo hg hsize hlen has hstack hW hd hc hs fun v T' h' X' q => by
    obtain ⟨e1, e2⟩ := q; rw [e1]; rw [e2] at X'; exact k T' X'
end Own
section OwnS
variable {p : Program} {l : Launch} {e : Env} {R : Room} {s : State} {m : MethodId} {args : Array Value} {below : List Frame} {meth : Method} {c : Code} {T : State} {n0 C S : Nat} {Z : State} {a0 : Array Value} {h h' : Heap} {P : State → Outcome → Prop} {Q : Option Value → Heap → Prop} {a b : Addr} {ty : FieldType} {vs : List Value} {v : Value} {sl i : Nat}
variable {bytes : ByteArray} {maxL : Nat} {y : MethodName} {ret : Option FieldType} {pc : Nat} {Ls Ls' : Array Slot} {st : List Value}
theorem o_w (hw : ∀ d ∈ tables_1, d.before a0 Z = true) (i : Nat) {d : Jvm.Cond} (q : tables_1[i]? = some d) : d.before a0 Z = true := hw d (List.mem_of_getElem? q)
theorem o_iload (cx : own_Cx p s m meth c Z bytes maxL y ret) (X : own_Sd p l e R s m args below meth c n0 T h C S) {k : Nat} {z : Int32} (hd : decode bytes pc = .ok (.iload k, 2)) (hl : Ls[k]? = some (.val (.int z))) (k : own_Go p e below P (T.setTop (mkF m (pc + 2) Ls (.int z :: st)))) : own_Go p e below P (T.setTop (mkF m pc Ls st)) := by
  obtain ⟨hx, hby, -⟩ := cx
  exact own_st (fun _ q => XS.iload X.here hx rfl (hb hby hd) hl q) k
theorem o_lload (cx : own_Cx p s m meth c Z bytes maxL y ret) (X : own_Sd p l e R s m args below meth c n0 T h C S) {k : Nat} {z : Int64} (hd : decode bytes pc = .ok (.lload k, 2)) (hl : Ls[k]? = some (.val (.long z))) (k : own_Go p e below P (T.setTop (mkF m (pc + 2) Ls (.long z :: st)))) : own_Go p e below P (T.setTop (mkF m pc Ls st)) := by
  obtain ⟨hx, hby, -⟩ := cx
  exact own_st (fun _ q => XS.lload X.here hx rfl (hb hby hd) hl q) k
theorem o_aload (cx : own_Cx p s m meth c Z bytes maxL y ret) (X : own_Sd p l e R s m args below meth c n0 T h C S) {k : Nat} {v : Value} (hd : decode bytes pc = .ok (.aload k, 2)) (hl : Ls[k]? = some (.val v)) (hv : v.isRef = true) (k : own_Go p e below P (T.setTop (mkF m (pc + 2) Ls (v :: st)))) : own_Go p e below P (T.setTop (mkF m pc Ls st)) := by
  obtain ⟨hx, hby, -⟩ := cx
  exact own_st (fun _ q => XS.aload X.here hx rfl (hb hby hd) hl hv q) k
theorem o_istore (cx : own_Cx p s m meth c Z bytes maxL y ret) (X : own_Sd p l e R s m args below meth c n0 T h C S) {k : Nat} {z : Int32} (hd : decode bytes pc = .ok (.istore k, 2)) (hl : storeLocals Ls k (.int z) = some Ls') (k : own_Go p e below P (T.setTop (mkF m (pc + 2) Ls' st))) : own_Go p e below P (T.setTop (mkF m pc Ls (.int z :: st))) := by
  obtain ⟨hx, hby, -⟩ := cx
  exact own_st (fun _ q => XS.istore X.here hx rfl (hb hby hd) rfl hl q) k
theorem o_lstore (cx : own_Cx p s m meth c Z bytes maxL y ret) (X : own_Sd p l e R s m args below meth c n0 T h C S) {k : Nat} {z : Int64} (hd : decode bytes pc = .ok (.lstore k, 2)) (hl : storeLocals Ls k (.long z) = some Ls') (k : own_Go p e below P (T.setTop (mkF m (pc + 2) Ls' st))) : own_Go p e below P (T.setTop (mkF m pc Ls (.long z :: st))) := by
  obtain ⟨hx, hby, -⟩ := cx
  exact own_st (fun _ q => XS.lstore X.here hx rfl (hb hby hd) rfl hl q) k
theorem o_astore (cx : own_Cx p s m meth c Z bytes maxL y ret) (X : own_Sd p l e R s m args below meth c n0 T h C S) {k : Nat} {v : Value} (hd : decode bytes pc = .ok (.astore k, 2)) (hv : v.isRef = true) (hl : storeLocals Ls k v = some Ls') (k : own_Go p e below P (T.setTop (mkF m (pc + 2) Ls' st))) : own_Go p e below P (T.setTop (mkF m pc Ls (v :: st))) := by
  obtain ⟨hx, hby, -⟩ := cx
  exact own_st (fun _ q => XS.astore X.here hx rfl (hb hby hd) rfl hv hl q) k
theorem o_iloadN (cx : own_Cx p s m meth c Z bytes maxL y ret) (X : own_Sd p l e R s m args below meth c n0 T h C S) {k : Fin 4} {z : Int32} (hd : decode bytes pc = .ok (.iload_n k, 1)) (hl : Ls[k.val]? = some (.val (.int z))) (k : own_Go p e below P (T.setTop (mkF m (pc + 1) Ls (.int z :: st)))) : own_Go p e below P (T.setTop (mkF m pc Ls st)) := by
  obtain ⟨hx, hby, -⟩ := cx
  exact own_st (fun _ q => XS.iloadN X.here hx rfl (hb hby hd) hl q) k
theorem o_lloadN (cx : own_Cx p s m meth c Z bytes maxL y ret) (X : own_Sd p l e R s m args below meth c n0 T h C S) {k : Fin 4} {z : Int64} (hd : decode bytes pc = .ok (.lload_n k, 1)) (hl : Ls[k.val]? = some (.val (.long z))) (k : own_Go p e below P (T.setTop (mkF m (pc + 1) Ls (.long z :: st)))) : own_Go p e below P (T.setTop (mkF m pc Ls st)) := by
  obtain ⟨hx, hby, -⟩ := cx
  exact own_st (fun _ q => XS.lloadN X.here hx rfl (hb hby hd) hl q) k
theorem o_aloadN (cx : own_Cx p s m meth c Z bytes maxL y ret) (X : own_Sd p l e R s m args below meth c n0 T h C S) {k : Fin 4} {v : Value} (hd : decode bytes pc = .ok (.aload_n k, 1)) (hl : Ls[k.val]? = some (.val v)) (hv : v.isRef = true) (k : own_Go p e below P (T.setTop (mkF m (pc + 1) Ls (v :: st)))) : own_Go p e below P (T.setTop (mkF m pc Ls st)) := by
  obtain ⟨hx, hby, -⟩ := cx
  exact own_st (fun _ q => XS.aloadN X.here hx rfl (hb hby hd) hl hv q) k
theorem o_istoreN (cx : own_Cx p s m meth c Z bytes maxL y ret) (X : own_Sd p l e R s m args below meth c n0 T h C S) {k : Fin 4} {z : Int32} (hd : decode bytes pc = .ok (.istore_n k, 1)) (hl : storeLocals Ls k.val (.int z) = some Ls') (k : own_Go p e below P (T.setTop (mkF m (pc + 1) Ls' st))) : own_Go p e below P (T.setTop (mkF m pc Ls (.int z :: st))) := by
  obtain ⟨hx, hby, -⟩ := cx
  exact own_st (fun _ q => XS.istoreN X.here hx rfl (hb hby hd) rfl hl q) k
theorem o_lstoreN (cx : own_Cx p s m meth c Z bytes maxL y ret) (X : own_Sd p l e R s m args below meth c n0 T h C S) {k : Fin 4} {z : Int64} (hd : decode bytes pc = .ok (.lstore_n k, 1)) (hl : storeLocals Ls k.val (.long z) = some Ls') (k : own_Go p e below P (T.setTop (mkF m (pc + 1) Ls' st))) : own_Go p e below P (T.setTop (mkF m pc Ls (.long z :: st))) := by
  obtain ⟨hx, hby, -⟩ := cx
  exact own_st (fun _ q => XS.lstoreN X.here hx rfl (hb hby hd) rfl hl q) k
theorem o_astoreN (cx : own_Cx p s m meth c Z bytes maxL y ret) (X : own_Sd p l e R s m args below meth c n0 T h C S) {k : Fin 4} {v : Value} (hd : decode bytes pc = .ok (.astore_n k, 1)) (hv : v.isRef = true) (hl : storeLocals Ls k.val v = some Ls') (k : own_Go p e below P (T.setTop (mkF m (pc + 1) Ls' st))) : own_Go p e below P (T.setTop (mkF m pc Ls (v :: st))) := by
  obtain ⟨hx, hby, -⟩ := cx
  exact own_st (fun _ q => XS.astoreN X.here hx rfl (hb hby hd) rfl hv hl q) k
theorem o_iconst (cx : own_Cx p s m meth c Z bytes maxL y ret) (X : own_Sd p l e R s m args below meth c n0 T h C S) {i : Int} {z : Int32} (hd : decode bytes pc = .ok (.iconst i, 1)) (hz : Int32.ofInt i = z) (k : own_Go p e below P (T.setTop (mkF m (pc + 1) Ls (.int z :: st)))) : own_Go p e below P (T.setTop (mkF m pc Ls st)) := by
  obtain ⟨hx, hby, -⟩ := cx
  exact own_st (fun _ q => XS.iconst X.here hx rfl (hb hby hd) (by rw [hz]; exact q)) k
theorem o_bipush (cx : own_Cx p s m meth c Z bytes maxL y ret) (X : own_Sd p l e R s m args below meth c n0 T h C S) {i : Int} {z : Int32} (hd : decode bytes pc = .ok (.bipush i, 2)) (hz : (Int8.ofInt i).toInt32 = z) (k : own_Go p e below P (T.setTop (mkF m (pc + 2) Ls (.int z :: st)))) : own_Go p e below P (T.setTop (mkF m pc Ls st)) := by
  obtain ⟨hx, hby, -⟩ := cx
  exact own_st (fun _ q => XS.bipush X.here hx rfl (hb hby hd) (by rw [hz]; exact q)) k
theorem o_sipush (cx : own_Cx p s m meth c Z bytes maxL y ret) (X : own_Sd p l e R s m args below meth c n0 T h C S) {i : Int} {z : Int32} (hd : decode bytes pc = .ok (.sipush i, 3)) (hz : (Int16.ofInt i).toInt32 = z) (k : own_Go p e below P (T.setTop (mkF m (pc + 3) Ls (.int z :: st)))) : own_Go p e below P (T.setTop (mkF m pc Ls st)) := by
  obtain ⟨hx, hby, -⟩ := cx
  exact own_st (fun _ q => XS.sipush X.here hx rfl (hb hby hd) (by rw [hz]; exact q)) k
theorem o_lconst (cx : own_Cx p s m meth c Z bytes maxL y ret) (X : own_Sd p l e R s m args below meth c n0 T h C S) {j : Fin 2} {z : Int64} (hd : decode bytes pc = .ok (.lconst j, 1)) (hz : Int64.ofNat j = z) (k : own_Go p e below P (T.setTop (mkF m (pc + 1) Ls (.long z :: st)))) : own_Go p e below P (T.setTop (mkF m pc Ls st)) := by
  obtain ⟨hx, hby, -⟩ := cx
  exact own_st (fun _ q => XS.lconst X.here hx rfl (hb hby hd) (by rw [hz]; exact q)) k
theorem o_aconst_null (cx : own_Cx p s m meth c Z bytes maxL y ret) (X : own_Sd p l e R s m args below meth c n0 T h C S)  (hd : decode bytes pc = .ok (.aconst_null, 1))  (k : own_Go p e below P (T.setTop (mkF m (pc + 1) Ls (.null :: st)))) : own_Go p e below P (T.setTop (mkF m pc Ls st)) := by
  obtain ⟨hx, hby, -⟩ := cx
  exact own_st (fun _ q => XS.aconstNull X.here hx rfl (hb hby hd) q) k
theorem o_iadd (cx : own_Cx p s m meth c Z bytes maxL y ret) (X : own_Sd p l e R s m args below meth c n0 T h C S) {x w z : Int32} (hd : decode bytes pc = .ok (.iadd, 1)) (hz : (x + w) = z) (k : own_Go p e below P (T.setTop (mkF m (pc + 1) Ls (.int z :: st)))) : own_Go p e below P (T.setTop (mkF m pc Ls (.int w :: .int x :: st))) := by
  obtain ⟨hx, hby, -⟩ := cx
  exact own_st (fun _ q => XS.iadd X.here hx rfl (hb hby hd) rfl (by rw [hz]; exact q)) k
theorem o_isub (cx : own_Cx p s m meth c Z bytes maxL y ret) (X : own_Sd p l e R s m args below meth c n0 T h C S) {x w z : Int32} (hd : decode bytes pc = .ok (.isub, 1)) (hz : (x - w) = z) (k : own_Go p e below P (T.setTop (mkF m (pc + 1) Ls (.int z :: st)))) : own_Go p e below P (T.setTop (mkF m pc Ls (.int w :: .int x :: st))) := by
  obtain ⟨hx, hby, -⟩ := cx
  exact own_st (fun _ q => XS.isub X.here hx rfl (hb hby hd) rfl (by rw [hz]; exact q)) k
theorem o_imul (cx : own_Cx p s m meth c Z bytes maxL y ret) (X : own_Sd p l e R s m args below meth c n0 T h C S) {x w z : Int32} (hd : decode bytes pc = .ok (.imul, 1)) (hz : (x * w) = z) (k : own_Go p e below P (T.setTop (mkF m (pc + 1) Ls (.int z :: st)))) : own_Go p e below P (T.setTop (mkF m pc Ls (.int w :: .int x :: st))) := by
  obtain ⟨hx, hby, -⟩ := cx
  exact own_st (fun _ q => XS.imul X.here hx rfl (hb hby hd) rfl (by rw [hz]; exact q)) k
theorem o_iand (cx : own_Cx p s m meth c Z bytes maxL y ret) (X : own_Sd p l e R s m args below meth c n0 T h C S) {x w z : Int32} (hd : decode bytes pc = .ok (.iand, 1)) (hz : (x &&& w) = z) (k : own_Go p e below P (T.setTop (mkF m (pc + 1) Ls (.int z :: st)))) : own_Go p e below P (T.setTop (mkF m pc Ls (.int w :: .int x :: st))) := by
  obtain ⟨hx, hby, -⟩ := cx
  exact own_st (fun _ q => XS.iand X.here hx rfl (hb hby hd) rfl (by rw [hz]; exact q)) k
theorem o_ior (cx : own_Cx p s m meth c Z bytes maxL y ret) (X : own_Sd p l e R s m args below meth c n0 T h C S) {x w z : Int32} (hd : decode bytes pc = .ok (.ior, 1)) (hz : (x ||| w) = z) (k : own_Go p e below P (T.setTop (mkF m (pc + 1) Ls (.int z :: st)))) : own_Go p e below P (T.setTop (mkF m pc Ls (.int w :: .int x :: st))) := by
  obtain ⟨hx, hby, -⟩ := cx
  exact own_st (fun _ q => XS.ior X.here hx rfl (hb hby hd) rfl (by rw [hz]; exact q)) k
theorem o_ixor (cx : own_Cx p s m meth c Z bytes maxL y ret) (X : own_Sd p l e R s m args below meth c n0 T h C S) {x w z : Int32} (hd : decode bytes pc = .ok (.ixor, 1)) (hz : (x ^^^ w) = z) (k : own_Go p e below P (T.setTop (mkF m (pc + 1) Ls (.int z :: st)))) : own_Go p e below P (T.setTop (mkF m pc Ls (.int w :: .int x :: st))) := by
  obtain ⟨hx, hby, -⟩ := cx
  exact own_st (fun _ q => XS.ixor X.here hx rfl (hb hby hd) rfl (by rw [hz]; exact q)) k
theorem o_ishl (cx : own_Cx p s m meth c Z bytes maxL y ret) (X : own_Sd p l e R s m args below meth c n0 T h C S) {x w z : Int32} (hd : decode bytes pc = .ok (.ishl, 1)) (hz : (x <<< (w &&& 31)) = z) (k : own_Go p e below P (T.setTop (mkF m (pc + 1) Ls (.int z :: st)))) : own_Go p e below P (T.setTop (mkF m pc Ls (.int w :: .int x :: st))) := by
  obtain ⟨hx, hby, -⟩ := cx
  exact own_st (fun _ q => XS.ishl X.here hx rfl (hb hby hd) rfl (by rw [hz]; exact q)) k
theorem o_ishr (cx : own_Cx p s m meth c Z bytes maxL y ret) (X : own_Sd p l e R s m args below meth c n0 T h C S) {x w z : Int32} (hd : decode bytes pc = .ok (.ishr, 1)) (hz : (x >>> (w &&& 31)) = z) (k : own_Go p e below P (T.setTop (mkF m (pc + 1) Ls (.int z :: st)))) : own_Go p e below P (T.setTop (mkF m pc Ls (.int w :: .int x :: st))) := by
  obtain ⟨hx, hby, -⟩ := cx
  exact own_st (fun _ q => XS.ishr X.here hx rfl (hb hby hd) rfl (by rw [hz]; exact q)) k
theorem o_iushr (cx : own_Cx p s m meth c Z bytes maxL y ret) (X : own_Sd p l e R s m args below meth c n0 T h C S) {x w z : Int32} (hd : decode bytes pc = .ok (.iushr, 1)) (hz : ((x.toUInt32 >>> (w &&& 31).toUInt32).toInt32) = z) (k : own_Go p e below P (T.setTop (mkF m (pc + 1) Ls (.int z :: st)))) : own_Go p e below P (T.setTop (mkF m pc Ls (.int w :: .int x :: st))) := by
  obtain ⟨hx, hby, -⟩ := cx
  exact own_st (fun _ q => XS.iushr X.here hx rfl (hb hby hd) rfl (by rw [hz]; exact q)) k
theorem o_ladd (cx : own_Cx p s m meth c Z bytes maxL y ret) (X : own_Sd p l e R s m args below meth c n0 T h C S) {x w z : Int64} (hd : decode bytes pc = .ok (.ladd, 1)) (hz : (x + w) = z) (k : own_Go p e below P (T.setTop (mkF m (pc + 1) Ls (.long z :: st)))) : own_Go p e below P (T.setTop (mkF m pc Ls (.long w :: .long x :: st))) := by
  obtain ⟨hx, hby, -⟩ := cx
  exact own_st (fun _ q => XS.ladd X.here hx rfl (hb hby hd) rfl (by rw [hz]; exact q)) k
theorem o_lsub (cx : own_Cx p s m meth c Z bytes maxL y ret) (X : own_Sd p l e R s m args below meth c n0 T h C S) {x w z : Int64} (hd : decode bytes pc = .ok (.lsub, 1)) (hz : (x - w) = z) (k : own_Go p e below P (T.setTop (mkF m (pc + 1) Ls (.long z :: st)))) : own_Go p e below P (T.setTop (mkF m pc Ls (.long w :: .long x :: st))) := by
  obtain ⟨hx, hby, -⟩ := cx
  exact own_st (fun _ q => XS.lsub X.here hx rfl (hb hby hd) rfl (by rw [hz]; exact q)) k
theorem o_lmul (cx : own_Cx p s m meth c Z bytes maxL y ret) (X : own_Sd p l e R s m args below meth c n0 T h C S) {x w z : Int64} (hd : decode bytes pc = .ok (.lmul, 1)) (hz : (x * w) = z) (k : own_Go p e below P (T.setTop (mkF m (pc + 1) Ls (.long z :: st)))) : own_Go p e below P (T.setTop (mkF m pc Ls (.long w :: .long x :: st))) := by
  obtain ⟨hx, hby, -⟩ := cx
  exact own_st (fun _ q => XS.lmul X.here hx rfl (hb hby hd) rfl (by rw [hz]; exact q)) k
theorem o_land (cx : own_Cx p s m meth c Z bytes maxL y ret) (X : own_Sd p l e R s m args below meth c n0 T h C S) {x w z : Int64} (hd : decode bytes pc = .ok (.land, 1)) (hz : (x &&& w) = z) (k : own_Go p e below P (T.setTop (mkF m (pc + 1) Ls (.long z :: st)))) : own_Go p e below P (T.setTop (mkF m pc Ls (.long w :: .long x :: st))) := by
  obtain ⟨hx, hby, -⟩ := cx
  exact own_st (fun _ q => XS.land X.here hx rfl (hb hby hd) rfl (by rw [hz]; exact q)) k
theorem o_lor (cx : own_Cx p s m meth c Z bytes maxL y ret) (X : own_Sd p l e R s m args below meth c n0 T h C S) {x w z : Int64} (hd : decode bytes pc = .ok (.lor, 1)) (hz : (x ||| w) = z) (k : own_Go p e below P (T.setTop (mkF m (pc + 1) Ls (.long z :: st)))) : own_Go p e below P (T.setTop (mkF m pc Ls (.long w :: .long x :: st))) := by
  obtain ⟨hx, hby, -⟩ := cx
  exact own_st (fun _ q => XS.lor X.here hx rfl (hb hby hd) rfl (by rw [hz]; exact q)) k
theorem o_lxor (cx : own_Cx p s m meth c Z bytes maxL y ret) (X : own_Sd p l e R s m args below meth c n0 T h C S) {x w z : Int64} (hd : decode bytes pc = .ok (.lxor, 1)) (hz : (x ^^^ w) = z) (k : own_Go p e below P (T.setTop (mkF m (pc + 1) Ls (.long z :: st)))) : own_Go p e below P (T.setTop (mkF m pc Ls (.long w :: .long x :: st))) := by
  obtain ⟨hx, hby, -⟩ := cx
  exact own_st (fun _ q => XS.lxor X.here hx rfl (hb hby hd) rfl (by rw [hz]; exact q)) k
theorem o_lshl (cx : own_Cx p s m meth c Z bytes maxL y ret) (X : own_Sd p l e R s m args below meth c n0 T h C S) {x : Int64} {w : Int32} {z : Int64} (hd : decode bytes pc = .ok (.lshl, 1)) (hz : (x <<< (w &&& 0x3f).toInt64) = z) (k : own_Go p e below P (T.setTop (mkF m (pc + 1) Ls (.long z :: st)))) : own_Go p e below P (T.setTop (mkF m pc Ls (.int w :: .long x :: st))) := by
  obtain ⟨hx, hby, -⟩ := cx
  exact own_st (fun _ q => XS.lshl X.here hx rfl (hb hby hd) rfl (by rw [hz]; exact q)) k
theorem o_lshr (cx : own_Cx p s m meth c Z bytes maxL y ret) (X : own_Sd p l e R s m args below meth c n0 T h C S) {x : Int64} {w : Int32} {z : Int64} (hd : decode bytes pc = .ok (.lshr, 1)) (hz : (x >>> (w &&& 0x3f).toInt64) = z) (k : own_Go p e below P (T.setTop (mkF m (pc + 1) Ls (.long z :: st)))) : own_Go p e below P (T.setTop (mkF m pc Ls (.int w :: .long x :: st))) := by
  obtain ⟨hx, hby, -⟩ := cx
  exact own_st (fun _ q => XS.lshr X.here hx rfl (hb hby hd) rfl (by rw [hz]; exact q)) k
theorem o_lushr (cx : own_Cx p s m meth c Z bytes maxL y ret) (X : own_Sd p l e R s m args below meth c n0 T h C S) {x : Int64} {w : Int32} {z : Int64} (hd : decode bytes pc = .ok (.lushr, 1)) (hz : ((x.toUInt64 >>> (w &&& 0x3f).toInt64.toUInt64).toInt64) = z) (k : own_Go p e below P (T.setTop (mkF m (pc + 1) Ls (.long z :: st)))) : own_Go p e below P (T.setTop (mkF m pc Ls (.int w :: .long x :: st))) := by
  obtain ⟨hx, hby, -⟩ := cx
  exact own_st (fun _ q => XS.lushr X.here hx rfl (hb hby hd) rfl (by rw [hz]; exact q)) k
theorem o_ineg (cx : own_Cx p s m meth c Z bytes maxL y ret) (X : own_Sd p l e R s m args below meth c n0 T h C S) {x : Int32} {z : Int32} (hd : decode bytes pc = .ok (.ineg, 1)) (hz : (-x) = z) (k : own_Go p e below P (T.setTop (mkF m (pc + 1) Ls (.int z :: st)))) : own_Go p e below P (T.setTop (mkF m pc Ls (.int x :: st))) := by
  obtain ⟨hx, hby, -⟩ := cx
  exact own_st (fun _ q => XS.ineg X.here hx rfl (hb hby hd) rfl (by rw [hz]; exact q)) k
theorem o_lneg (cx : own_Cx p s m meth c Z bytes maxL y ret) (X : own_Sd p l e R s m args below meth c n0 T h C S) {x : Int64} {z : Int64} (hd : decode bytes pc = .ok (.lneg, 1)) (hz : (-x) = z) (k : own_Go p e below P (T.setTop (mkF m (pc + 1) Ls (.long z :: st)))) : own_Go p e below P (T.setTop (mkF m pc Ls (.long x :: st))) := by
  obtain ⟨hx, hby, -⟩ := cx
  exact own_st (fun _ q => XS.lneg X.here hx rfl (hb hby hd) rfl (by rw [hz]; exact q)) k
theorem o_i2l (cx : own_Cx p s m meth c Z bytes maxL y ret) (X : own_Sd p l e R s m args below meth c n0 T h C S) {x : Int32} {z : Int64} (hd : decode bytes pc = .ok (.i2l, 1)) (hz : (x.toInt64) = z) (k : own_Go p e below P (T.setTop (mkF m (pc + 1) Ls (.long z :: st)))) : own_Go p e below P (T.setTop (mkF m pc Ls (.int x :: st))) := by
  obtain ⟨hx, hby, -⟩ := cx
  exact own_st (fun _ q => XS.i2l X.here hx rfl (hb hby hd) rfl (by rw [hz]; exact q)) k
theorem o_l2i (cx : own_Cx p s m meth c Z bytes maxL y ret) (X : own_Sd p l e R s m args below meth c n0 T h C S) {x : Int64} {z : Int32} (hd : decode bytes pc = .ok (.l2i, 1)) (hz : (x.toInt32) = z) (k : own_Go p e below P (T.setTop (mkF m (pc + 1) Ls (.int z :: st)))) : own_Go p e below P (T.setTop (mkF m pc Ls (.long x :: st))) := by
  obtain ⟨hx, hby, -⟩ := cx
  exact own_st (fun _ q => XS.l2i X.here hx rfl (hb hby hd) rfl (by rw [hz]; exact q)) k
theorem o_i2b (cx : own_Cx p s m meth c Z bytes maxL y ret) (X : own_Sd p l e R s m args below meth c n0 T h C S) {x : Int32} {z : Int32} (hd : decode bytes pc = .ok (.i2b, 1)) (hz : (x.toInt8.toInt32) = z) (k : own_Go p e below P (T.setTop (mkF m (pc + 1) Ls (.int z :: st)))) : own_Go p e below P (T.setTop (mkF m pc Ls (.int x :: st))) := by
  obtain ⟨hx, hby, -⟩ := cx
  exact own_st (fun _ q => XS.i2b X.here hx rfl (hb hby hd) rfl (by rw [hz]; exact q)) k
theorem o_i2s (cx : own_Cx p s m meth c Z bytes maxL y ret) (X : own_Sd p l e R s m args below meth c n0 T h C S) {x : Int32} {z : Int32} (hd : decode bytes pc = .ok (.i2s, 1)) (hz : (x.toInt16.toInt32) = z) (k : own_Go p e below P (T.setTop (mkF m (pc + 1) Ls (.int z :: st)))) : own_Go p e below P (T.setTop (mkF m pc Ls (.int x :: st))) := by
  obtain ⟨hx, hby, -⟩ := cx
  exact own_st (fun _ q => XS.i2s X.here hx rfl (hb hby hd) rfl (by rw [hz]; exact q)) k
theorem o_i2c (cx : own_Cx p s m meth c Z bytes maxL y ret) (X : own_Sd p l e R s m args below meth c n0 T h C S) {x : Int32} {z : Int32} (hd : decode bytes pc = .ok (.i2c, 1)) (hz : (x.toUInt32.toUInt16.toUInt32.toInt32) = z) (k : own_Go p e below P (T.setTop (mkF m (pc + 1) Ls (.int z :: st)))) : own_Go p e below P (T.setTop (mkF m pc Ls (.int x :: st))) := by
  obtain ⟨hx, hby, -⟩ := cx
  exact own_st (fun _ q => XS.i2c X.here hx rfl (hb hby hd) rfl (by rw [hz]; exact q)) k
theorem o_lcmp (cx : own_Cx p s m meth c Z bytes maxL y ret) (X : own_Sd p l e R s m args below meth c n0 T h C S) {x w : Int64} {z : Int32} (hd : decode bytes pc = .ok (.lcmp, 1)) (hz : lcmpW x w = z) (k : own_Go p e below P (T.setTop (mkF m (pc + 1) Ls (.int z :: st)))) : own_Go p e below P (T.setTop (mkF m pc Ls (.long w :: .long x :: st))) := by
  obtain ⟨hx, hby, -⟩ := cx
  exact own_st (fun _ q => XS.lcmp X.here hx rfl (hb hby hd) rfl (by rw [← hz] at q; exact q)) k
theorem o_irem (cx : own_Cx p s m meth c Z bytes maxL y ret) (X : own_Sd p l e R s m args below meth c n0 T h C S) {x w z : Int32} (hd : decode bytes pc = .ok (.irem, 1)) (hw : w ≠ 0) (hz : x % w = z) (k : own_Go p e below P (T.setTop (mkF m (pc + 1) Ls (.int z :: st)))) : own_Go p e below P (T.setTop (mkF m pc Ls (.int w :: .int x :: st))) := by
  obtain ⟨hx, hby, -⟩ := cx
  exact own_st (fun _ q => by obtain ⟨_, X, _⟩ := X; exact iremM X hx rfl (hb hby hd) rfl hw (by rw [hz]; exact q)) k
theorem o_lrem (cx : own_Cx p s m meth c Z bytes maxL y ret) (X : own_Sd p l e R s m args below meth c n0 T h C S) {x w z : Int64} (hd : decode bytes pc = .ok (.lrem, 1)) (hw : w ≠ 0) (hz : x % w = z) (k : own_Go p e below P (T.setTop (mkF m (pc + 1) Ls (.long z :: st)))) : own_Go p e below P (T.setTop (mkF m pc Ls (.long w :: .long x :: st))) := by
  obtain ⟨hx, hby, -⟩ := cx
  exact own_st (fun _ q => XS.lrem X.here hx rfl (hb hby hd) rfl hw (by rw [lrem_mod, hz]; exact q)) k
theorem o_iinc (cx : own_Cx p s m meth c Z bytes maxL y ret) (X : own_Sd p l e R s m args below meth c n0 T h C S) {k : Nat} {i : Int} {x z : Int32} (hd : decode bytes pc = .ok (.iinc k i, 3)) (hl : Ls[k]? = some (.val (.int x))) (hz : x + Int32.ofInt i = z) (hl' : storeLocals Ls k (.int z) = some Ls') (k : own_Go p e below P (T.setTop (mkF m (pc + 3) Ls' st))) : own_Go p e below P (T.setTop (mkF m pc Ls st)) := by
  obtain ⟨hx, hby, -⟩ := cx
  exact own_st (fun _ q => XS.iinc X.here hx rfl (hb hby hd) hl (by rw [hz]; exact hl') q) k
theorem o_dup (cx : own_Cx p s m meth c Z bytes maxL y ret) (X : own_Sd p l e R s m args below meth c n0 T h C S) {v : Value} (hd : decode bytes pc = .ok (.dup, 1)) (hc : v.category = 1) (k : own_Go p e below P (T.setTop (mkF m (pc + 1) Ls (v :: v :: st)))) : own_Go p e below P (T.setTop (mkF m pc Ls (v :: st))) := by
  obtain ⟨hx, hby, -⟩ := cx
  exact own_st (fun _ q => XS.dup X.here hx rfl (hb hby hd) rfl hc q) k
theorem o_pop (cx : own_Cx p s m meth c Z bytes maxL y ret) (X : own_Sd p l e R s m args below meth c n0 T h C S) {v : Value} (hd : decode bytes pc = .ok (.pop, 1)) (hc : v.category = 1) (k : own_Go p e below P (T.setTop (mkF m (pc + 1) Ls st))) : own_Go p e below P (T.setTop (mkF m pc Ls (v :: st))) := by
  obtain ⟨hx, hby, -⟩ := cx
  exact own_st (fun _ q => XS.pop X.here hx rfl (hb hby hd) rfl hc q) k
theorem o_dup_x1 (cx : own_Cx p s m meth c Z bytes maxL y ret) (X : own_Sd p l e R s m args below meth c n0 T h C S) {v w : Value} (hd : decode bytes pc = .ok (.dup_x1, 1)) (hc : v.category = 1) (hc' : w.category = 1) (k : own_Go p e below P (T.setTop (mkF m (pc + 1) Ls (v :: w :: v :: st)))) : own_Go p e below P (T.setTop (mkF m pc Ls (v :: w :: st))) := by
  obtain ⟨hx, hby, -⟩ := cx
  exact own_st (fun _ q => XS.dupX1 X.here hx rfl (hb hby hd) rfl hc hc' q) k
theorem o_dup2 (cx : own_Cx p s m meth c Z bytes maxL y ret) (X : own_Sd p l e R s m args below meth c n0 T h C S) {v w : Value} (hd : decode bytes pc = .ok (.dup2, 1)) (hc : v.category = 1) (hc' : w.category = 1) (k : own_Go p e below P (T.setTop (mkF m (pc + 1) Ls (v :: w :: v :: w :: st)))) : own_Go p e below P (T.setTop (mkF m pc Ls (v :: w :: st))) := by
  obtain ⟨hx, hby, -⟩ := cx
  exact own_st (fun _ q => Jvm.Free.XT.dup2 X.here hx rfl (hb hby hd) rfl hc hc' q) k
theorem o_dup_x2 (cx : own_Cx p s m meth c Z bytes maxL y ret) (X : own_Sd p l e R s m args below meth c n0 T h C S) {x w z : Value} (hd : decode bytes pc = .ok (.dup_x2, 1)) (h1 : x.category = 1) (h2 : w.category = 1) (h3 : z.category = 1) (k : own_Go p e below P (T.setTop (mkF m (pc + 1) Ls (x :: w :: z :: x :: st)))) : own_Go p e below P (T.setTop (mkF m pc Ls (x :: w :: z :: st))) := by
  obtain ⟨hx, hby, -⟩ := cx
  exact own_dupX2 X hx (g := mkF m pc Ls (x :: w :: z :: st)) (hb hby hd) rfl h1 h2 h3 rfl k
theorem o_goto (cx : own_Cx p s m meth c Z bytes maxL y ret) (X : own_Sd p l e R s m args below meth c n0 T h C S) {o : Int} (n : Nat) (hd : decode bytes pc = .ok (.goto o, 3)) (ho : 0 ≤ (pc : Int) + o) (hp : ((pc : Int) + o).toNat = n) (k : own_Go p e below P (T.setTop (mkF m n Ls st))) : own_Go p e below P (T.setTop (mkF m pc Ls st)) := by
  obtain ⟨hx, hby, -⟩ := cx
  exact own_st (fun _ q => XS.goto X.here hx rfl rfl (hb hby hd) ho hp q) k
theorem o_ifYes (cx : own_Cx p s m meth c Z bytes maxL y ret) (X : own_Sd p l e R s m args below meth c n0 T h C S) {cd : ClassFile.Cond} {x : Int32} {o : Int} (n : Nat) (hd : decode bytes pc = .ok (.ifCond cd o, 3)) (hc : ifCond.holds cd x = true) (ho : 0 ≤ (pc : Int) + o) (hp : ((pc : Int) + o).toNat = n) (k : own_Go p e below P (T.setTop (mkF m n Ls st))) : own_Go p e below P (T.setTop (mkF m pc Ls (.int x :: st))) := by
  obtain ⟨hx, hby, -⟩ := cx
  exact own_st (fun _ q => XS.ifYes X.here hx rfl rfl (hb hby hd) rfl hc ho hp q) k
theorem o_ifNo (cx : own_Cx p s m meth c Z bytes maxL y ret) (X : own_Sd p l e R s m args below meth c n0 T h C S) {cd : ClassFile.Cond} {x : Int32} {o : Int} (hd : decode bytes pc = .ok (.ifCond cd o, 3)) (hc : ifCond.holds cd x = false) (k : own_Go p e below P (T.setTop (mkF m (pc + 3) Ls st))) : own_Go p e below P (T.setTop (mkF m pc Ls (.int x :: st))) := by
  obtain ⟨hx, hby, -⟩ := cx
  exact own_st (fun _ q => XS.ifNo X.here hx rfl (hb hby hd) rfl hc q) k
theorem o_icmpYes (cx : own_Cx p s m meth c Z bytes maxL y ret) (X : own_Sd p l e R s m args below meth c n0 T h C S) {cd : ClassFile.Cond} {x w : Int32} {o : Int} (n : Nat) (hd : decode bytes pc = .ok (.if_icmp cd o, 3)) (hc : if_icmp.holds cd x w = true) (ho : 0 ≤ (pc : Int) + o) (hp : ((pc : Int) + o).toNat = n) (k : own_Go p e below P (T.setTop (mkF m n Ls st))) : own_Go p e below P (T.setTop (mkF m pc Ls (.int w :: .int x :: st))) := by
  obtain ⟨hx, hby, -⟩ := cx
  exact own_st (fun _ q => XS.icmpYes X.here hx rfl rfl (hb hby hd) rfl hc ho hp q) k
theorem o_icmpNo (cx : own_Cx p s m meth c Z bytes maxL y ret) (X : own_Sd p l e R s m args below meth c n0 T h C S) {cd : ClassFile.Cond} {x w : Int32} {o : Int} (hd : decode bytes pc = .ok (.if_icmp cd o, 3)) (hc : if_icmp.holds cd x w = false) (k : own_Go p e below P (T.setTop (mkF m (pc + 3) Ls st))) : own_Go p e below P (T.setTop (mkF m pc Ls (.int w :: .int x :: st))) := by
  obtain ⟨hx, hby, -⟩ := cx
  exact own_st (fun _ q => XS.icmpNo X.here hx rfl (hb hby hd) rfl hc q) k
theorem o_ifnullYes (cx : own_Cx p s m meth c Z bytes maxL y ret) (X : own_Sd p l e R s m args below meth c n0 T h C S) {o : Int} (n : Nat) (hd : decode bytes pc = .ok (.ifnull o, 3)) (ho : 0 ≤ (pc : Int) + o) (hp : ((pc : Int) + o).toNat = n) (k : own_Go p e below P (T.setTop (mkF m n Ls st))) : own_Go p e below P (T.setTop (mkF m pc Ls (.null :: st))) := by
  obtain ⟨hx, hby, -⟩ := cx
  exact own_st (fun _ q => XS.ifnullYes X.here hx rfl rfl (hb hby hd) rfl ho hp q) k
theorem o_ifnullNo (cx : own_Cx p s m meth c Z bytes maxL y ret) (X : own_Sd p l e R s m args below meth c n0 T h C S) {o : Int} {b : Addr} (hd : decode bytes pc = .ok (.ifnull o, 3))  (k : own_Go p e below P (T.setTop (mkF m (pc + 3) Ls st))) : own_Go p e below P (T.setTop (mkF m pc Ls (.ref b :: st))) := by
  obtain ⟨hx, hby, -⟩ := cx
  exact own_st (fun _ q => XS.ifnullNo X.here hx rfl (hb hby hd) rfl q) k
theorem o_ifnonnullYes (cx : own_Cx p s m meth c Z bytes maxL y ret) (X : own_Sd p l e R s m args below meth c n0 T h C S) {o : Int} (n : Nat) {b : Addr} (hd : decode bytes pc = .ok (.ifnonnull o, 3)) (ho : 0 ≤ (pc : Int) + o) (hp : ((pc : Int) + o).toNat = n) (k : own_Go p e below P (T.setTop (mkF m n Ls st))) : own_Go p e below P (T.setTop (mkF m pc Ls (.ref b :: st))) := by
  obtain ⟨hx, hby, -⟩ := cx
  exact own_st (fun _ q => XS.ifnonnullYes X.here hx rfl rfl (hb hby hd) rfl ho hp q) k
theorem o_ifnonnullNo (cx : own_Cx p s m meth c Z bytes maxL y ret) (X : own_Sd p l e R s m args below meth c n0 T h C S) {o : Int} (hd : decode bytes pc = .ok (.ifnonnull o, 3))  (k : own_Go p e below P (T.setTop (mkF m (pc + 3) Ls st))) : own_Go p e below P (T.setTop (mkF m pc Ls (.null :: st))) := by
  obtain ⟨hx, hby, -⟩ := cx
  exact own_st (fun _ q => XS.ifnonnullNo X.here hx rfl (hb hby hd) rfl q) k
theorem o_acmp (cx : own_Cx p s m meth c Z bytes maxL y ret) (X : own_Sd p l e R s m args below meth c n0 T h C S) {cd : ACond} {x w : Value} {o : Int} (n : Nat) (same : Bool) (hd : decode bytes pc = .ok (.if_acmp cd o, 3)) (h1 : x.isRef = true) (h2 : w.isRef = true) (hsame : decide (x = w) = same) (ho : 0 ≤ (pc : Int) + o) (hp : n = if acV cd same then ((pc : Int) + o).toNat else pc + 3) (k : own_Go p e below P (T.setTop (mkF m n Ls st))) : own_Go p e below P (T.setTop (mkF m pc Ls (w :: x :: st))) := by
  obtain ⟨hx, hby, hml, hown, hnm, hret, hlk, hZ⟩ := cx
  exact own_acmp X hx (g := mkF m pc Ls (w :: x :: st)) rfl h1 h2 rfl (hb hby hd) rfl hsame ho hp k
theorem o_ldc (cx : own_Cx p s m meth c Z bytes maxL y ret) (X : own_Sd p l e R s m args below meth c n0 T h C S) {j : Nat} {z : Int32} (hd : decode bytes pc = .ok (.ldc j, 2)) (w : (Jvm.Cond.constant y.cls j z).before a0 Z = true) (k : own_Go p e below P (T.setTop (mkF m (pc + 2) Ls (.int z :: st)))) : own_Go p e below P (T.setTop (mkF m pc Ls st)) := by
  obtain ⟨hx, hby, hml, hown, hnm, hret, hlk, hZ⟩ := cx
  exact own_ldc X hx hZ hown w (g := mkF m pc Ls st) rfl (hb hby hd) k
theorem o_ldc2 (cx : own_Cx p s m meth c Z bytes maxL y ret) (X : own_Sd p l e R s m args below meth c n0 T h C S) {j : Nat} {z : Int64} (hd : decode bytes pc = .ok (.ldc2_w j, 3)) (w : (Jvm.Cond.constantLong y.cls j z).before a0 Z = true) (k : own_Go p e below P (T.setTop (mkF m (pc + 3) Ls (.long z :: st)))) : own_Go p e below P (T.setTop (mkF m pc Ls st)) := by
  obtain ⟨hx, hby, hml, hown, hnm, hret, hlk, hZ⟩ := cx
  exact own_ldc2 X hx hZ hown w (g := mkF m pc Ls st) rfl (hb hby hd) k
theorem o_getF (cx : own_Cx p s m meth c Z bytes maxL y ret) (X : own_Sd p l e R s m args below meth c n0 T h C S) {O n d : String} {j : Nat} (hd : decode bytes pc = .ok (.getfield j, 3)) (w : (Jvm.Cond.fieldLink y.cls j O n d).before a0 Z = true) (F : Fld Z h a O n d v) (k : ∀ T', own_Sd p l e R s m args below meth c n0 T' h C S → own_Go p e below P (T'.setTop (mkF m (pc + 3) Ls (v :: st)))) : own_Go p e below P (T.setTop (mkF m pc Ls (.ref a :: st))) := by
  obtain ⟨hx, hby, hml, hown, hnm, hret, hlk, hZ⟩ := cx
  exact own_getF X hx hZ hown w F (g := mkF m pc Ls (.ref a :: st)) rfl rfl (hb hby hd) k
theorem o_putF (cx : own_Cx p s m meth c Z bytes maxL y ret) (X : own_Sd p l e R s m args below meth c n0 T h C S) {O n d K : String} {j kk : Nat} {v' old : Value} (hd : decode bytes pc = .ok (.putfield j, 3)) (w : (Jvm.Cond.fieldLink y.cls j O n d).before a0 Z = true) (F : Fld Z h a O n d old) (E : Exa Z h a K) (L : (Jvm.Cond.lays K O n d).before a0 Z = true ∨ ((Jvm.Cond.laysFinal K O n d).before a0 Z = true ∧ y.cls = O ∧ y.name = "<init>")) (wi : (Jvm.Cond.instantiable K kk).before a0 Z = true) (hty : parseFieldDescriptor d = some ty) (hn : narrow ty v = v') (hf : fits ty v' = true) (ga : n0 ≤ a) (k : ∀ T' h', own_Sd p l e R s m args below meth c n0 T' h' C S → Wr h h' a (Jvm.RoadKit.slotOf Z O n d) v' → own_Go p e below P (T'.setTop (mkF m (pc + 3) Ls st))) : own_Go p e below P (T.setTop (mkF m pc Ls (v :: .ref a :: st))) := by
  obtain ⟨hx, hby, hml, hown, hnm, hret, hlk, hZ⟩ := cx
  exact own_putF X hx hZ hown w F E (by rw [hnm]; exact L) wi hty hn hf ga (g := mkF m pc Ls (v :: .ref a :: st)) rfl rfl (hb hby hd) k
theorem o_newO (cx : own_Cx p s m meth c Z bytes maxL y ret) (X : own_Sd p l e R s m args below meth c n0 T h C S) {K : String} {j n : Nat} (hd : decode bytes pc = .ok (.new j, 3)) (w : (Jvm.Cond.classLink y.cls j K).before a0 Z = true) (wi : (Jvm.Cond.instantiable K n).before a0 Z = true) (wz : (Jvm.Cond.initialized K).before a0 Z = true) (hc : C + 1 ≤ R.cells) (hl : S + n ≤ R.slots) (k : ∀ T' h' b, b = h.size → n0 ≤ b → own_Sd p l e R s m args below meth c n0 T' h' (C + 1) (S + n) → Ext h h' → Exa Z h' b K → (∀ {O nm d : String} {ty : FieldType}, Laid Z a0 K O nm d → parseFieldDescriptor d = some ty → Fld Z h' b O nm d (defaultValue ty)) → own_Go p e below P (T'.setTop (mkF m (pc + 3) Ls (.ref b :: st)))) : own_Go p e below P (T.setTop (mkF m pc Ls st)) := by
  obtain ⟨hx, hby, hml, hown, hnm, hret, hlk, hZ⟩ := cx
  exact own_newO X hx hZ hown w wi wz (g := mkF m pc Ls st) rfl (hb hby hd) hc hl k
theorem o_initO (cx : own_Cx p s m meth c Z bytes maxL y ret) (X : own_Sd p l e R s m args below meth c n0 T h C S) {j : Nat} (hd : decode bytes pc = .ok (.invokespecial j, 3)) (w1 : (Jvm.Cond.methodLink y.cls j Lib.objectInit).before a0 Z = true) (w2 : (Jvm.Cond.instanceMethod Lib.objectInit).before a0 Z = true) (w3 : (Jvm.Cond.code Lib.objectInit ⟨#[0xb1]⟩ 1 none).before a0 Z = true) (hsz : Ls.size = maxL) (hf : 1 ≤ R.frames) (W : Nat) (hW : (st.map fun v => v.category).sum = W) (hl : W + 12 ≤ R.locals) (k : ∀ T', own_Sd p l e R s m args below meth c n0 T' h C S → own_Go p e below P (T'.setTop (mkF m (pc + 3) Ls st))) : own_Go p e below P (T.setTop (mkF m pc Ls (.ref a :: st))) := by
  obtain ⟨hx, hby, hml, hown, hnm, hret, hlk, hZ⟩ := cx
  exact own_initO X hx hZ hown w1 w2 w3 (g := mkF m pc Ls (.ref a :: st)) rfl (by rw [hml]; exact hsz) rfl (hb hby hd) hf (W := W) (by show 2 * 0 + _ ≤ _; omega) hl k
theorem o_callS (cx : own_Cx p s m meth c Z bytes maxL y ret) (X : own_Sd p l e R s m args below meth c n0 T h C S) {y' : MethodName} {bytes' : ByteArray} {maxL' : Nat} {ret' : Option FieldType} {j : Nat} {stk : List Value} (hd : decode bytes pc = .ok (.invokestatic j, 3)) (w1 : (Jvm.Cond.methodLink y.cls j y').before a0 Z = true) (w2 : (Jvm.Cond.static y').before a0 Z = true) (w3 : (Jvm.Cond.initialized y'.cls).before a0 Z = true) (w4 : (Jvm.Cond.code y' bytes' maxL' ret').before a0 Z = true) (hy : y'.cls ≠ "java/lang/invoke/MethodHandle" ∧ y'.cls ≠ "java/lang/invoke/VarHandle") {rm : Room} {as' : Array Value}  (hM : own_Met l Z y' bytes' maxL' ret' rm as' h n0 Q) (hf : rm.frames + 1 ≤ R.frames) (W : Nat) (hW : (st.map fun v => v.category).sum = W) (hlo : W + (maxL' + 11) + rm.locals ≤ R.locals) (hsz : Ls.size = maxL) {argsL : List Value} (hlen : ∀ sig, parseMethodDescriptor y'.desc = some sig → argsL.length = sig.parameters.length) (has : argsL.toArray = as') (hstk : stk = argsL.reverse ++ st) (hc : C + rm.cells ≤ R.cells) (hs : S + rm.slots ≤ R.slots) (k : ∀ v T' h', own_Sd p l e R s m args below meth c n0 T' h' (C + rm.cells) (S + rm.slots) → Q v h' → own_Go p e below P (T'.setTop (mkF m (pc + 3) Ls (v.toList ++ st)))) : own_Go p e below P (T.setTop (mkF m pc Ls stk)) := by
  obtain ⟨hx, hby, hml, hown, hnm, hret, hlk, hZ⟩ := cx
  exact own_callS X hx hZ hown w1 w2 w3 w4 hy hM hf (W := W) hlo (g := mkF m pc Ls stk) rfl (by rw [hml]; exact hsz) hlen has hstk (by show 2 * 0 + _ ≤ _; omega) (hb hby hd) hc hs k
theorem o_callC (cx : own_Cx p s m meth c Z bytes maxL y ret) (X : own_Sd p l e R s m args below meth c n0 T h C S) {y' : MethodName} {bytes' : ByteArray} {maxL' : Nat} {j : Nat} {stk : List Value} (hd : decode bytes pc = .ok (.invokespecial j, 3)) (w1 : (Jvm.Cond.methodLink y.cls j y').before a0 Z = true) (w2 : (Jvm.Cond.instanceMethod y').before a0 Z = true) (w3 : (Jvm.Cond.initialized y'.cls).before a0 Z = true) (w4 : (Jvm.Cond.code y' bytes' maxL' none).before a0 Z = true) (hy : y'.cls ≠ "java/lang/invoke/MethodHandle" ∧ y'.cls ≠ "java/lang/invoke/VarHandle") (hy1 : y'.name = "<init>") {rm : Room} {as' : Array Value}  (hM : own_Met l Z y' bytes' maxL' none rm as' h n0 Q) (hf : rm.frames + 1 ≤ R.frames) (W : Nat) (hW : (st.map fun v => v.category).sum = W) (hlo : W + (maxL' + 11) + rm.locals ≤ R.locals) (hsz : Ls.size = maxL) {argsL : List Value} (hlen : ∀ sig, parseMethodDescriptor y'.desc = some sig → argsL.length = sig.parameters.length) (has : (.ref a :: argsL).toArray = as') (hstk : stk = argsL.reverse ++ .ref a :: st) (hc : C + rm.cells ≤ R.cells) (hs : S + rm.slots ≤ R.slots) (k : ∀ v T' h', own_Sd p l e R s m args below meth c n0 T' h' (C + rm.cells) (S + rm.slots) → Q v h' → own_Go p e below P (T'.setTop (mkF m (pc + 3) Ls (v.toList ++ st)))) : own_Go p e below P (T.setTop (mkF m pc Ls stk)) := by
  obtain ⟨hx, hby, hml, hown, hnm, hret, hlk, hZ⟩ := cx
  exact own_callC X hx hZ hy1 hown w1 w2 w3 w4 hy hM hf (W := W) hlo (g := mkF m pc Ls stk) rfl (by rw [hml]; exact hsz) hlen has hstk (by show 2 * 0 + _ ≤ _; omega) (hb hby hd) hc hs k
theorem o_callV (cx : own_Cx p s m meth c Z bytes maxL y ret) (X : own_Sd p l e R s m args below meth c n0 T h C S) {y' : MethodName} {bytes' : ByteArray} {maxL' : Nat} {ret' : Option FieldType} {j : Nat} {stk : List Value} {K : String} (hd : decode bytes pc = .ok (.invokevirtual j, 3)) (w1 : (Jvm.Cond.methodLink y.cls j y').before a0 Z = true) (w2 : (Jvm.Cond.declares y').before a0 Z = true) (w5 : (Jvm.Cond.selects K y' y').before a0 Z = true) (w6 : (Jvm.Cond.instanceMethod y').before a0 Z = true) (w3 : (Jvm.Cond.initialized y'.cls).before a0 Z = true) (w4 : (Jvm.Cond.code y' bytes' maxL' ret').before a0 Z = true) (hy : y'.cls ≠ "java/lang/invoke/MethodHandle" ∧ y'.cls ≠ "java/lang/invoke/VarHandle") (E : Exa Z h a K) {rm : Room} {as' : Array Value}  (hM : own_Met l Z y' bytes' maxL' ret' rm as' h n0 Q) (hf : rm.frames + 1 ≤ R.frames) (W : Nat) (hW : (st.map fun v => v.category).sum = W) (hlo : W + (maxL' + 11) + rm.locals ≤ R.locals) (hsz : Ls.size = maxL) {argsL : List Value} (hlen : ∀ sig, parseMethodDescriptor y'.desc = some sig → argsL.length = sig.parameters.length) (has : (.ref a :: argsL).toArray = as') (hstk : stk = argsL.reverse ++ .ref a :: st) (hc : C + rm.cells ≤ R.cells) (hs : S + rm.slots ≤ R.slots) (k : ∀ v T' h', own_Sd p l e R s m args below meth c n0 T' h' (C + rm.cells) (S + rm.slots) → Q v h' → own_Go p e below P (T'.setTop (mkF m (pc + 3) Ls (v.toList ++ st)))) : own_Go p e below P (T.setTop (mkF m pc Ls stk)) := by
  obtain ⟨hx, hby, hml, hown, hnm, hret, hlk, hZ⟩ := cx
  exact own_callV X hx hZ hown w1 w2 w5 w6 w3 w4 hy E hM hf (W := W) hlo (g := mkF m pc Ls stk) rfl (by rw [hml]; exact hsz) hlen has hstk (by show 2 * 0 + _ ≤ _; omega) (hb hby hd) hc hs k
theorem o_callP (cx : own_Cx p s m meth c Z bytes maxL y ret) (X : own_Sd p l e R s m args below meth c n0 T h C S) {y' : MethodName} {bytes' : ByteArray} {maxL' : Nat} {ret' : Option FieldType} {j : Nat} {stk : List Value} {K K' : String} {y2 : MethodName} (hd : decode bytes pc = .ok (.invokevirtual j, 3)) (w1 : (Jvm.Cond.methodLink y.cls j y').before a0 Z = true) (w7 : (Jvm.Cond.privateMethod y').before a0 Z = true) (w5 : (Jvm.Cond.selects K y2 y2).before a0 Z = true) (hyy : y2.cls = y'.cls) (w6 : (Jvm.Cond.instanceMethod y').before a0 Z = true) (w3 : (Jvm.Cond.initialized y'.cls).before a0 Z = true) (w4 : (Jvm.Cond.code y' bytes' maxL' ret').before a0 Z = true) (hy : y'.cls ≠ "java/lang/invoke/MethodHandle" ∧ y'.cls ≠ "java/lang/invoke/VarHandle") (E : Exa Z h a K') {rm : Room} {as' : Array Value}  (hM : own_Met l Z y' bytes' maxL' ret' rm as' h n0 Q) (hf : rm.frames + 1 ≤ R.frames) (W : Nat) (hW : (st.map fun v => v.category).sum = W) (hlo : W + (maxL' + 11) + rm.locals ≤ R.locals) (hsz : Ls.size = maxL) {argsL : List Value} (hlen : ∀ sig, parseMethodDescriptor y'.desc = some sig → argsL.length = sig.parameters.length) (has : (.ref a :: argsL).toArray = as') (hstk : stk = argsL.reverse ++ .ref a :: st) (hc : C + rm.cells ≤ R.cells) (hs : S + rm.slots ≤ R.slots) (k : ∀ v T' h', own_Sd p l e R s m args below meth c n0 T' h' (C + rm.cells) (S + rm.slots) → Q v h' → own_Go p e below P (T'.setTop (mkF m (pc + 3) Ls (v.toList ++ st)))) : own_Go p e below P (T.setTop (mkF m pc Ls stk)) := by
  obtain ⟨hx, hby, hml, hown, hnm, hret, hlk, hZ⟩ := cx
  exact own_callP X hx hZ hown w1 w7 w5 hyy w6 w3 w4 hy E hM hf (W := W) hlo (g := mkF m pc Ls stk) rfl (by rw [hml]; exact hsz) hlen has hstk (by show 2 * 0 + _ ≤ _; omega) (hb hby hd) hc hs k
theorem o_callSp (cx : own_Cx p s m meth c Z bytes maxL y ret) (X : own_Sd p l e R s m args below meth c n0 T h C S) {y' : MethodName} {bytes' : ByteArray} {maxL' : Nat} {ret' : Option FieldType} {j : Nat} {stk : List Value} (hd : decode bytes pc = .ok (.invokestatic j, 3)) (w1 : (Jvm.Cond.methodLink y.cls j y').before a0 Z = true) (w2 : (Jvm.Cond.static y').before a0 Z = true) (w3 : (Jvm.Cond.initialized y'.cls).before a0 Z = true) (w4 : (Jvm.Cond.code y' bytes' maxL' ret').before a0 Z = true) (hy : y'.cls ≠ "java/lang/invoke/MethodHandle" ∧ y'.cls ≠ "java/lang/invoke/VarHandle") {rm : Room} {as' : Array Value} {r : Option Value} (hM : own_Met l Z y' bytes' maxL' ret' rm as' h n0 (fun v' h' => v' = r ∧ h' = h)) (hf : rm.frames + 1 ≤ R.frames) (W : Nat) (hW : (st.map fun v => v.category).sum = W) (hlo : W + (maxL' + 11) + rm.locals ≤ R.locals) (hsz : Ls.size = maxL) {argsL : List Value} (hlen : ∀ sig, parseMethodDescriptor y'.desc = some sig → argsL.length = sig.parameters.length) (has : argsL.toArray = as') (hstk : stk = argsL.reverse ++ st) (hc : C + rm.cells ≤ R.cells) (hs : S + rm.slots ≤ R.slots) (k : ∀ T', own_Sd p l e R s m args below meth c n0 T' h (C + rm.cells) (S + rm.slots) → own_Go p e below P (T'.setTop (mkF m (pc + 3) Ls (r.toList ++ st)))) : own_Go p e below P (T.setTop (mkF m pc Ls stk)) := by
  obtain ⟨hx, hby, hml, hown, hnm, hret, hlk, hZ⟩ := cx
  exact own_callSp X hx hZ hown w1 w2 w3 w4 hy hM hf (W := W) hlo (g := mkF m pc Ls stk) rfl (by rw [hml]; exact hsz) hlen has hstk (by show 2 * 0 + _ ≤ _; omega) (hb hby hd) hc hs k
theorem o_callCp (cx : own_Cx p s m meth c Z bytes maxL y ret) (X : own_Sd p l e R s m args below meth c n0 T h C S) {y' : MethodName} {bytes' : ByteArray} {maxL' : Nat} {j : Nat} {stk : List Value} (hd : decode bytes pc = .ok (.invokespecial j, 3)) (w1 : (Jvm.Cond.methodLink y.cls j y').before a0 Z = true) (w2 : (Jvm.Cond.instanceMethod y').before a0 Z = true) (w3 : (Jvm.Cond.initialized y'.cls).before a0 Z = true) (w4 : (Jvm.Cond.code y' bytes' maxL' none).before a0 Z = true) (hy : y'.cls ≠ "java/lang/invoke/MethodHandle" ∧ y'.cls ≠ "java/lang/invoke/VarHandle") (hy1 : y'.name = "<init>") {rm : Room} {as' : Array Value} {r : Option Value} (hM : own_Met l Z y' bytes' maxL' none rm as' h n0 (fun v' h' => v' = r ∧ h' = h)) (hf : rm.frames + 1 ≤ R.frames) (W : Nat) (hW : (st.map fun v => v.category).sum = W) (hlo : W + (maxL' + 11) + rm.locals ≤ R.locals) (hsz : Ls.size = maxL) {argsL : List Value} (hlen : ∀ sig, parseMethodDescriptor y'.desc = some sig → argsL.length = sig.parameters.length) (has : (.ref a :: argsL).toArray = as') (hstk : stk = argsL.reverse ++ .ref a :: st) (hc : C + rm.cells ≤ R.cells) (hs : S + rm.slots ≤ R.slots) (k : ∀ T', own_Sd p l e R s m args below meth c n0 T' h (C + rm.cells) (S + rm.slots) → own_Go p e below P (T'.setTop (mkF m (pc + 3) Ls (r.toList ++ st)))) : own_Go p e below P (T.setTop (mkF m pc Ls stk)) := by
  obtain ⟨hx, hby, hml, hown, hnm, hret, hlk, hZ⟩ := cx
  exact own_callCp X hx hZ hy1 hown w1 w2 w3 w4 hy hM hf (W := W) hlo (g := mkF m pc Ls stk) rfl (by rw [hml]; exact hsz) hlen has hstk (by show 2 * 0 + _ ≤ _; omega) (hb hby hd) hc hs k
theorem o_callVp (cx : own_Cx p s m meth c Z bytes maxL y ret) (X : own_Sd p l e R s m args below meth c n0 T h C S) {y' : MethodName} {bytes' : ByteArray} {maxL' : Nat} {ret' : Option FieldType} {j : Nat} {stk : List Value} {K : String} (hd : decode bytes pc = .ok (.invokevirtual j, 3)) (w1 : (Jvm.Cond.methodLink y.cls j y').before a0 Z = true) (w2 : (Jvm.Cond.declares y').before a0 Z = true) (w5 : (Jvm.Cond.selects K y' y').before a0 Z = true) (w6 : (Jvm.Cond.instanceMethod y').before a0 Z = true) (w3 : (Jvm.Cond.initialized y'.cls).before a0 Z = true) (w4 : (Jvm.Cond.code y' bytes' maxL' ret').before a0 Z = true) (hy : y'.cls ≠ "java/lang/invoke/MethodHandle" ∧ y'.cls ≠ "java/lang/invoke/VarHandle") (E : Exa Z h a K) {rm : Room} {as' : Array Value} {r : Option Value} (hM : own_Met l Z y' bytes' maxL' ret' rm as' h n0 (fun v' h' => v' = r ∧ h' = h)) (hf : rm.frames + 1 ≤ R.frames) (W : Nat) (hW : (st.map fun v => v.category).sum = W) (hlo : W + (maxL' + 11) + rm.locals ≤ R.locals) (hsz : Ls.size = maxL) {argsL : List Value} (hlen : ∀ sig, parseMethodDescriptor y'.desc = some sig → argsL.length = sig.parameters.length) (has : (.ref a :: argsL).toArray = as') (hstk : stk = argsL.reverse ++ .ref a :: st) (hc : C + rm.cells ≤ R.cells) (hs : S + rm.slots ≤ R.slots) (k : ∀ T', own_Sd p l e R s m args below meth c n0 T' h (C + rm.cells) (S + rm.slots) → own_Go p e below P (T'.setTop (mkF m (pc + 3) Ls (r.toList ++ st)))) : own_Go p e below P (T.setTop (mkF m pc Ls stk)) := by
  obtain ⟨hx, hby, hml, hown, hnm, hret, hlk, hZ⟩ := cx
  exact own_callVp X hx hZ hown w1 w2 w5 w6 w3 w4 hy E hM hf (W := W) hlo (g := mkF m pc Ls stk) rfl (by rw [hml]; exact hsz) hlen has hstk (by show 2 * 0 + _ ≤ _; omega) (hb hby hd) hc hs k
theorem o_callPp (cx : own_Cx p s m meth c Z bytes maxL y ret) (X : own_Sd p l e R s m args below meth c n0 T h C S) {y' : MethodName} {bytes' : ByteArray} {maxL' : Nat} {ret' : Option FieldType} {j : Nat} {stk : List Value} {K K' : String} {y2 : MethodName} (hd : decode bytes pc = .ok (.invokevirtual j, 3)) (w1 : (Jvm.Cond.methodLink y.cls j y').before a0 Z = true) (w7 : (Jvm.Cond.privateMethod y').before a0 Z = true) (w5 : (Jvm.Cond.selects K y2 y2).before a0 Z = true) (hyy : y2.cls = y'.cls) (w6 : (Jvm.Cond.instanceMethod y').before a0 Z = true) (w3 : (Jvm.Cond.initialized y'.cls).before a0 Z = true) (w4 : (Jvm.Cond.code y' bytes' maxL' ret').before a0 Z = true) (hy : y'.cls ≠ "java/lang/invoke/MethodHandle" ∧ y'.cls ≠ "java/lang/invoke/VarHandle") (E : Exa Z h a K') {rm : Room} {as' : Array Value} {r : Option Value} (hM : own_Met l Z y' bytes' maxL' ret' rm as' h n0 (fun v' h' => v' = r ∧ h' = h)) (hf : rm.frames + 1 ≤ R.frames) (W : Nat) (hW : (st.map fun v => v.category).sum = W) (hlo : W + (maxL' + 11) + rm.locals ≤ R.locals) (hsz : Ls.size = maxL) {argsL : List Value} (hlen : ∀ sig, parseMethodDescriptor y'.desc = some sig → argsL.length = sig.parameters.length) (has : (.ref a :: argsL).toArray = as') (hstk : stk = argsL.reverse ++ .ref a :: st) (hc : C + rm.cells ≤ R.cells) (hs : S + rm.slots ≤ R.slots) (k : ∀ T', own_Sd p l e R s m args below meth c n0 T' h (C + rm.cells) (S + rm.slots) → own_Go p e below P (T'.setTop (mkF m (pc + 3) Ls (r.toList ++ st)))) : own_Go p e below P (T.setTop (mkF m pc Ls stk)) := by
  obtain ⟨hx, hby, hml, hown, hnm, hret, hlk, hZ⟩ := cx
  exact own_callPp X hx hZ hown w1 w7 w5 hyy w6 w3 w4 hy E hM hf (W := W) hlo (g := mkF m pc Ls stk) rfl (by rw [hml]; exact hsz) hlen has hstk (by show 2 * 0 + _ ≤ _; omega) (hb hby hd) hc hs k
theorem o_retI (cx : own_Cx p s m meth c Z bytes maxL y (some .int)) (X : own_Sd p l e R s m args below meth c n0 T h C S) {z : Int32} (hd : decode bytes pc = .ok (.ireturn, 1)) (q : Q (some (.int z)) h) (hC : C ≤ R.cells) (hS : S ≤ R.slots) : own_Go p e below (own_End below s R n0 Q) (T.setTop (mkF m pc Ls (.int z :: st))) := by
  obtain ⟨hx, hby, hml, hown, hnm, hret, hlk, hZ⟩ := cx
  exact own_retI X hx hret hlk (hb hby hd) hC hS q
theorem o_retN {t : FieldType} (cx : own_Cx p s m meth c Z bytes maxL y (some t)) (X : own_Sd p l e R s m args below meth c n0 T h C S) {z z' : Int32} (hd : decode bytes pc = .ok (.ireturn, 1)) (ht : t = .boolean ∨ t = .byte ∨ t = .char ∨ t = .short) (hz : nar t z = z') (q : Q (some (.int z')) h) (hC : C ≤ R.cells) (hS : S ≤ R.slots) : own_Go p e below (own_End below s R n0 Q) (T.setTop (mkF m pc Ls (.int z :: st))) := by
  obtain ⟨hx, hby, hml, hown, hnm, hret, hlk, hZ⟩ := cx
  exact own_retN X hx hret ht hlk (hb hby hd) hC hS (by rw [hz]; exact q)
theorem o_retJ (cx : own_Cx p s m meth c Z bytes maxL y (some .long)) (X : own_Sd p l e R s m args below meth c n0 T h C S) {z : Int64} (hd : decode bytes pc = .ok (.lreturn, 1)) (q : Q (some (.long z)) h) (hC : C ≤ R.cells) (hS : S ≤ R.slots) : own_Go p e below (own_End below s R n0 Q) (T.setTop (mkF m pc Ls (.long z :: st))) := by
  obtain ⟨hx, hby, hml, hown, hnm, hret, hlk, hZ⟩ := cx
  exact own_retJ X hx hret hlk (hb hby hd) hC hS q
theorem o_retA {t : FieldType} (cx : own_Cx p s m meth c Z bytes maxL y (some t)) (X : own_Sd p l e R s m args below meth c n0 T h C S) {w : Value} (hd : decode bytes pc = .ok (.areturn, 1)) (ht : t.isReference = true) (hw : w.isRef = true) (hn : narrow t w = w) (q : Q (some w) h) (hC : C ≤ R.cells) (hS : S ≤ R.slots) : own_Go p e below (own_End below s R n0 Q) (T.setTop (mkF m pc Ls (w :: st))) := by
  obtain ⟨hx, hby, hml, hown, hnm, hret, hlk, hZ⟩ := cx
  exact own_retA X hx hret ht hlk hw hn (hb hby hd) hC hS q
theorem o_retV (cx : own_Cx p s m meth c Z bytes maxL y none) (X : own_Sd p l e R s m args below meth c n0 T h C S)  (hd : decode bytes pc = .ok (.return_, 1)) (q : Q none h) (hC : C ≤ R.cells) (hS : S ≤ R.slots) : own_Go p e below (own_End below s R n0 Q) (T.setTop (mkF m pc Ls [])) := by
  obtain ⟨hx, hby, hml, hown, hnm, hret, hlk, hZ⟩ := cx
  exact own_retV X hx hret hlk (hb hby hd) hC hS q
end OwnS
section OwnA
variable {p : Program} {l : Launch} {e : Env} {R : Room} {s : State} {m : MethodId} {args : Array Value} {below : List Frame} {meth : Method} {c : Code} {T : State} {n0 C S : Nat} {Z : State} {a0 : Array Value} {h h' : Heap} {P : State → Outcome → Prop} {a b : Addr} {ty : FieldType} {vs : List Value} {v : Value} {sl i : Nat} {wsA : List Addr}
/-- an array with just these elements -/
def own_Ar (Z : State) (h : Heap) (a : Addr) (ty : FieldType) (vs : List Value) : Prop := ∃ cl : Cell, Arr Z h a cl ty ∧ cl.slots = vs.toArray ∧ vs.length < 2 ^ 31
theorem own_Ar.lt (F : own_Ar Z h a ty vs) : a < h.size := by obtain ⟨_, A, _⟩ := F; exact A.lt
theorem own_Ar.ext (F : own_Ar Z h a ty vs) (E : Ext h h') : own_Ar Z h' a ty vs := by obtain ⟨c, A, r⟩ := F; exact ⟨c, A.ext E, r⟩
theorem own_Ar.other (F : own_Ar Z h b ty vs) (W : Wr h h' a sl v) (q : b ≠ a) : own_Ar Z h' b ty vs := by obtain ⟨c, A, r⟩ := F; exact ⟨c, A.other W q, r⟩
theorem own_Ar.keep (F : own_Ar Z h a ty vs) (K : Keep h h' wsA) (q : a ∉ wsA) : own_Ar Z h' a ty vs := by obtain ⟨c, A, r⟩ := F; exact ⟨c, ⟨K.2.1 a c A.1 q, A.2⟩, r⟩
theorem own_Ar.set (F : own_Ar Z h a ty vs) (W : Wr h h' a i v) : own_Ar Z h' a ty (vs.set i v) := by
  obtain ⟨cl, A, e, hl⟩ := F
  exact ⟨_, A.same W, by simp [Cell.setSlot, e], by simpa using hl⟩
theorem own_newP (X : own_Sd p l e R s m args below meth c n0 T h C S) (hx : p.tables.exec = Jvm.exec) (hZ : Z.Warmed39 s.vm) {aty : ArrayType} (w : (Cond.arrayClass (newarray.typeOf aty)).before a0 Z = true) {g : JFrame} (hg : g.method = m) (hd : decode c.code g.pc = .ok (.newarray aty, 2)) {n : Int32} {rest : List Value} (hs : g.stack = .int n :: rest)
    (hn : ¬ n < 0) {N cap : Nat} (hN : n.toNatClampNeg = N) (hcap : N ≤ cap) (hb : cap * 8 ≤ 536870912) (hc : C + 1 ≤ R.cells) (hl : S + cap ≤ R.slots)
    (k : ∀ T' h' b, b = h.size → n0 ≤ b → own_Sd p l e R s m args below meth c n0 T' h' (C + 1) (S + cap) → Ext h h' → own_Ar Z h' b (newarray.typeOf aty) (List.replicate N (defaultValue (newarray.typeOf aty))) → own_Go p e below P (T'.setTop { g with pc := g.pc + 2, stack := .ref b :: rest })) : own_Go p e below P (T.setTop g) := by
  have hn0 := X.ge0
  obtain ⟨L, X, N', eT, r1, r2⟩ := X
  obtain ⟨T', h', cA, X', e', E, A, st⟩ := newP X hx hZ w eT hg hd hs hn (cap := cap) (by rw [hN]; exact hcap) hb hc hl
  refine own_st st (k T' h' h.size rfl hn0 ⟨L, X', N', e', r1, Nat.le_trans r2 E.1⟩ E ⟨_, A, ?_, ?_⟩)
  · simp [newA, hN]
  · have := (back32 hn).2; rw [List.length_replicate]; omega
theorem own_inb {cl : Cell} (e : cl.slots = vs.toArray) {j : Int32} (hj : ¬ j < 0) (hi : j.toNatClampNeg = i) (hl : i < vs.length) : ¬ (j < 0 ∨ cl.slots.size ≤ j.toNatClampNeg) := by
  rw [e, hi]; intro q; rcases q with q | q
  · exact hj q
  · simp at q; omega
theorem own_stB (X : own_Sd p l e R s m args below meth c n0 T h C S) (hx : p.tables.exec = Jvm.exec) (hZ : Z.Warmed39 s.vm) (A : own_Ar Z h a .byte vs) {j x x' : Int32} (hj : ¬ j < 0) (hi : j.toNatClampNeg = i) (hl : i < vs.length) (hv : x.toInt8.toInt32 = x') (ga : n0 ≤ a) {g : JFrame} (hg : g.method = m) {rest : List Value} (hs : g.stack = .int x :: .int j :: .ref a :: rest) (hd : decode c.code g.pc = .ok (.bastore, 1))
    (k : ∀ T' h', own_Sd p l e R s m args below meth c n0 T' h' C S → Wr h h' a i (.int x') → own_Ar Z h' a .byte (vs.set i (.int x')) → own_Go p e below P (T'.setTop { g with pc := g.pc + 1, stack := rest })) : own_Go p e below P (T.setTop g) := by
  obtain ⟨L, X, N, eT, r1, r2⟩ := X
  have A0 := A
  obtain ⟨cl, A1, e1, hl1⟩ := A
  obtain ⟨T', h', X', e', W, st⟩ := stB X hx hZ eT A1 (own_inb e1 hj hi hl) hg hs hd
  have W' : Wr h h' a i (.int x') := by rw [← hi, ← hv]; exact W
  exact own_st st (k T' h' ⟨_, X', Fr.snoc X' N ga, e', r1, by rw [W.size]; exact r2⟩ W' (A0.set W'))
theorem own_stI (X : own_Sd p l e R s m args below meth c n0 T h C S) (hx : p.tables.exec = Jvm.exec) (hZ : Z.Warmed39 s.vm) (A : own_Ar Z h a .int vs) {j x : Int32} (hj : ¬ j < 0) (hi : j.toNatClampNeg = i) (hl : i < vs.length) (ga : n0 ≤ a) {g : JFrame} (hg : g.method = m) {rest : List Value} (hs : g.stack = .int x :: .int j :: .ref a :: rest) (hd : decode c.code g.pc = .ok (.iastore, 1))
    (k : ∀ T' h', own_Sd p l e R s m args below meth c n0 T' h' C S → Wr h h' a i (.int x) → own_Ar Z h' a .int (vs.set i (.int x)) → own_Go p e below P (T'.setTop { g with pc := g.pc + 1, stack := rest })) : own_Go p e below P (T.setTop g) := by
  obtain ⟨L, X, N, eT, r1, r2⟩ := X
  have A0 := A
  obtain ⟨cl, A1, e1, hl1⟩ := A
  obtain ⟨T', h', X', e', W, st⟩ := stI X hx hZ eT A1 (own_inb e1 hj hi hl) hg hs hd
  have W' : Wr h h' a i (.int x) := by rw [← hi]; exact W
  exact own_st st (k T' h' ⟨_, X', Fr.snoc X' N ga, e', r1, by rw [W.size]; exact r2⟩ W' (A0.set W'))
theorem own_stJ (X : own_Sd p l e R s m args below meth c n0 T h C S) (hx : p.tables.exec = Jvm.exec) (hZ : Z.Warmed39 s.vm) (A : own_Ar Z h a .long vs) {j : Int32} {x : Int64} (hj : ¬ j < 0) (hi : j.toNatClampNeg = i) (hl : i < vs.length) (ga : n0 ≤ a) {g : JFrame} (hg : g.method = m) {rest : List Value} (hs : g.stack = .long x :: .int j :: .ref a :: rest) (hd : decode c.code g.pc = .ok (.lastore, 1))
    (k : ∀ T' h', own_Sd p l e R s m args below meth c n0 T' h' C S → Wr h h' a i (.long x) → own_Ar Z h' a .long (vs.set i (.long x)) → own_Go p e below P (T'.setTop { g with pc := g.pc + 1, stack := rest })) : own_Go p e below P (T.setTop g) := by
  obtain ⟨L, X, N, eT, r1, r2⟩ := X
  have A0 := A
  obtain ⟨cl, A1, e1, hl1⟩ := A
  obtain ⟨T', h', X', e', W, st⟩ := stJ X hx hZ eT A1 (own_inb e1 hj hi hl) hg hs hd
  have W' : Wr h h' a i (.long x) := by rw [← hi]; exact W
  exact own_st st (k T' h' ⟨_, X', Fr.snoc X' N ga, e', r1, by rw [W.size]; exact r2⟩ W' (A0.set W'))
theorem own_at {cl : Cell} (e : cl.slots = vs.toArray) {j : Int32} (hi : j.toNatClampNeg = i) (hv : vs[i]? = some v) : cl.slots[j.toNatClampNeg]? = some v := by rw [e, hi]; simpa using hv
theorem own_ltl (hv : vs[i]? = some v) : i < vs.length := (List.getElem?_eq_some_iff.mp hv).1
theorem own_ldB (X : own_Sd p l e R s m args below meth c n0 T h C S) (hx : p.tables.exec = Jvm.exec) (hZ : Z.Warmed39 s.vm) (A : own_Ar Z h a .byte vs) {j : Int32} (hj : ¬ j < 0) (hi : j.toNatClampNeg = i) (hv : vs[i]? = some v) {g : JFrame} (hg : g.method = m) {rest : List Value} (hs : g.stack = .int j :: .ref a :: rest) (hd : decode c.code g.pc = .ok (.baload, 1))
    (k : own_Go p e below P (T.setTop { g with pc := g.pc + 1, stack := v :: rest })) : own_Go p e below P (T.setTop g) := by
  obtain ⟨L, X, N, eT, r⟩ := X
  obtain ⟨cl, A1, e1, hl1⟩ := A
  exact own_st (fun _ q => X.baloadBytes hx (by rw [eT]; exact A1.1) (State.isArrayOf_alike hZ.alike A1.2.1) A1.2.2 (own_inb e1 hj hi (own_ltl hv)) (own_at e1 hi hv) hg hs hd _ q) k
theorem own_ldI (X : own_Sd p l e R s m args below meth c n0 T h C S) (hx : p.tables.exec = Jvm.exec) (hZ : Z.Warmed39 s.vm) (A : own_Ar Z h a .int vs) {j : Int32} (hj : ¬ j < 0) (hi : j.toNatClampNeg = i) (hv : vs[i]? = some v) {g : JFrame} (hg : g.method = m) {rest : List Value} (hs : g.stack = .int j :: .ref a :: rest) (hd : decode c.code g.pc = .ok (.iaload, 1))
    (k : own_Go p e below P (T.setTop { g with pc := g.pc + 1, stack := v :: rest })) : own_Go p e below P (T.setTop g) := by
  obtain ⟨L, X, N, eT, r⟩ := X
  obtain ⟨cl, A1, e1, hl1⟩ := A
  exact own_st (fun _ q => X.iaload hx (by rw [eT]; exact A1.1) (State.isArrayOf_alike hZ.alike A1.2.1) A1.2.2 (own_inb e1 hj hi (own_ltl hv)) (own_at e1 hi hv) hg hs hd _ q) k
theorem own_ldJ (X : own_Sd p l e R s m args below meth c n0 T h C S) (hx : p.tables.exec = Jvm.exec) (hZ : Z.Warmed39 s.vm) (A : own_Ar Z h a .long vs) {j : Int32} (hj : ¬ j < 0) (hi : j.toNatClampNeg = i) (hv : vs[i]? = some v) {g : JFrame} (hg : g.method = m) {rest : List Value} (hs : g.stack = .int j :: .ref a :: rest) (hd : decode c.code g.pc = .ok (.laload, 1))
    (k : own_Go p e below P (T.setTop { g with pc := g.pc + 1, stack := v :: rest })) : own_Go p e below P (T.setTop g) := by
  obtain ⟨L, X, N, eT, r⟩ := X
  obtain ⟨cl, A1, e1, hl1⟩ := A
  exact own_st (fun _ q => X.laload hx (by rw [eT]; exact A1.1) (State.isArrayOf_alike hZ.alike A1.2.1) A1.2.2 (own_inb e1 hj hi (own_ltl hv)) (own_at e1 hi hv) hg hs hd _ q) k
theorem own_len (X : own_Sd p l e R s m args below meth c n0 T h C S) (hx : p.tables.exec = Jvm.exec) (hZ : Z.Warmed39 s.vm) (A : own_Ar Z h a ty vs) {z : Int32} (hz : vs.length.toInt32 = z) {g : JFrame} (hg : g.method = m) {rest : List Value} (hs : g.stack = .ref a :: rest) (hd : decode c.code g.pc = .ok (.arraylength, 1))
    (k : own_Go p e below P (T.setTop { g with pc := g.pc + 1, stack := .int z :: rest })) : own_Go p e below P (T.setTop g) := by
  obtain ⟨L, X, N, eT, r⟩ := X
  obtain ⟨cl, A1, e1, hl1⟩ := A
  have ez : cl.slots.size.toInt32 = z := by rw [e1, ← hz]; simp
  exact own_st (fun _ q => X.arraylength hx (by rw [eT]; exact A1.1) (State.isArrayOf_alike hZ.alike A1.2.1) hg hs hd _ (by rw [ez]; exact q)) k
theorem own_i8 (x : Int32) : x.toInt8.toInt32.toInt8.toInt32 = x.toInt8.toInt32 := by simp
end OwnA
section OwnT
variable {p : Program} {l : Launch} {e : Env} {R : Room} {s : State} {m : MethodId} {args : Array Value} {below : List Frame} {meth : Method} {c : Code} {T : State} {n0 C S : Nat} {Z : State} {a0 : Array Value} {h h' : Heap} {P : State → Outcome → Prop} {Q : Option Value → Heap → Prop} {a b : Addr} {ty : FieldType} {vs : List Value} {v : Value} {sl i : Nat}
variable {bytes : ByteArray} {maxL : Nat} {y : MethodName} {ret : Option FieldType} {pc : Nat} {Ls Ls' : Array Slot} {st : List Value}
theorem o_newP (cx : own_Cx p s m meth c Z bytes maxL y ret) (X : own_Sd p l e R s m args below meth c n0 T h C S) {aty : ArrayType} {n : Int32} (hd : decode bytes pc = .ok (.newarray aty, 2)) (w : (Jvm.Cond.arrayClass (newarray.typeOf aty)).before a0 Z = true) (hn : ¬ n < 0) (N cap : Nat) (hN : n.toNatClampNeg = N) (hcap : N ≤ cap) (hb8 : cap * 8 ≤ 536870912) (hc : C + 1 ≤ R.cells) (hl : S + cap ≤ R.slots) (k : ∀ T' h' b, b = h.size → n0 ≤ b → own_Sd p l e R s m args below meth c n0 T' h' (C + 1) (S + cap) → Ext h h' → own_Ar Z h' b (newarray.typeOf aty) (List.replicate N (defaultValue (newarray.typeOf aty))) → own_Go p e below P (T'.setTop (mkF m (pc + 2) Ls (.ref b :: st)))) : own_Go p e below P (T.setTop (mkF m pc Ls (.int n :: st))) := by
  obtain ⟨hx, hby, hml, hown, hnm, hret, hlk, hZ⟩ := cx
  exact own_newP X hx hZ w (g := mkF m pc Ls (.int n :: st)) rfl (hb hby hd) rfl hn hN hcap hb8 hc hl k
theorem o_stB (cx : own_Cx p s m meth c Z bytes maxL y ret) (X : own_Sd p l e R s m args below meth c n0 T h C S) {j : Int32} {x x' : Int32} (hd : decode bytes pc = .ok (.bastore, 1)) (A : own_Ar Z h a .byte vs) (i : Nat) (hj : ¬ j < 0) (hi : j.toNatClampNeg = i) (hl : i < vs.length) (hv : x.toInt8.toInt32 = x') (ga : n0 ≤ a) (k : ∀ T' h', own_Sd p l e R s m args below meth c n0 T' h' C S → Wr h h' a i (.int x') → own_Ar Z h' a .byte (vs.set i (.int x')) → own_Go p e below P (T'.setTop (mkF m (pc + 1) Ls st))) : own_Go p e below P (T.setTop (mkF m pc Ls (.int x :: .int j :: .ref a :: st))) := by
  obtain ⟨hx, hby, hml, hown, hnm, hret, hlk, hZ⟩ := cx
  exact own_stB X hx hZ A hj hi hl hv ga (g := mkF m pc Ls (.int x :: .int j :: .ref a :: st)) rfl rfl (hb hby hd) k
theorem o_stI (cx : own_Cx p s m meth c Z bytes maxL y ret) (X : own_Sd p l e R s m args below meth c n0 T h C S) {j : Int32} {x : Int32} (hd : decode bytes pc = .ok (.iastore, 1)) (A : own_Ar Z h a .int vs) (i : Nat) (hj : ¬ j < 0) (hi : j.toNatClampNeg = i) (hl : i < vs.length)  (ga : n0 ≤ a) (k : ∀ T' h', own_Sd p l e R s m args below meth c n0 T' h' C S → Wr h h' a i (.int x) → own_Ar Z h' a .int (vs.set i (.int x)) → own_Go p e below P (T'.setTop (mkF m (pc + 1) Ls st))) : own_Go p e below P (T.setTop (mkF m pc Ls (.int x :: .int j :: .ref a :: st))) := by
  obtain ⟨hx, hby, hml, hown, hnm, hret, hlk, hZ⟩ := cx
  exact own_stI X hx hZ A hj hi hl ga (g := mkF m pc Ls (.int x :: .int j :: .ref a :: st)) rfl rfl (hb hby hd) k
theorem o_stJ (cx : own_Cx p s m meth c Z bytes maxL y ret) (X : own_Sd p l e R s m args below meth c n0 T h C S) {j : Int32} {x : Int64} (hd : decode bytes pc = .ok (.lastore, 1)) (A : own_Ar Z h a .long vs) (i : Nat) (hj : ¬ j < 0) (hi : j.toNatClampNeg = i) (hl : i < vs.length)  (ga : n0 ≤ a) (k : ∀ T' h', own_Sd p l e R s m args below meth c n0 T' h' C S → Wr h h' a i (.long x) → own_Ar Z h' a .long (vs.set i (.long x)) → own_Go p e below P (T'.setTop (mkF m (pc + 1) Ls st))) : own_Go p e below P (T.setTop (mkF m pc Ls (.long x :: .int j :: .ref a :: st))) := by
  obtain ⟨hx, hby, hml, hown, hnm, hret, hlk, hZ⟩ := cx
  exact own_stJ X hx hZ A hj hi hl ga (g := mkF m pc Ls (.long x :: .int j :: .ref a :: st)) rfl rfl (hb hby hd) k
theorem o_ldB (cx : own_Cx p s m meth c Z bytes maxL y ret) (X : own_Sd p l e R s m args below meth c n0 T h C S) {j : Int32} (hd : decode bytes pc = .ok (.baload, 1)) (A : own_Ar Z h a .byte vs) (i : Nat) (hj : ¬ j < 0) (hi : j.toNatClampNeg = i) (hv : vs[i]? = some v) (k : own_Go p e below P (T.setTop (mkF m (pc + 1) Ls (v :: st)))) : own_Go p e below P (T.setTop (mkF m pc Ls (.int j :: .ref a :: st))) := by
  obtain ⟨hx, hby, hml, hown, hnm, hret, hlk, hZ⟩ := cx
  exact own_ldB X hx hZ A hj hi hv (g := mkF m pc Ls (.int j :: .ref a :: st)) rfl rfl (hb hby hd) k
theorem o_ldI (cx : own_Cx p s m meth c Z bytes maxL y ret) (X : own_Sd p l e R s m args below meth c n0 T h C S) {j : Int32} (hd : decode bytes pc = .ok (.iaload, 1)) (A : own_Ar Z h a .int vs) (i : Nat) (hj : ¬ j < 0) (hi : j.toNatClampNeg = i) (hv : vs[i]? = some v) (k : own_Go p e below P (T.setTop (mkF m (pc + 1) Ls (v :: st)))) : own_Go p e below P (T.setTop (mkF m pc Ls (.int j :: .ref a :: st))) := by
  obtain ⟨hx, hby, hml, hown, hnm, hret, hlk, hZ⟩ := cx
  exact own_ldI X hx hZ A hj hi hv (g := mkF m pc Ls (.int j :: .ref a :: st)) rfl rfl (hb hby hd) k
theorem o_ldJ (cx : own_Cx p s m meth c Z bytes maxL y ret) (X : own_Sd p l e R s m args below meth c n0 T h C S) {j : Int32} (hd : decode bytes pc = .ok (.laload, 1)) (A : own_Ar Z h a .long vs) (i : Nat) (hj : ¬ j < 0) (hi : j.toNatClampNeg = i) (hv : vs[i]? = some v) (k : own_Go p e below P (T.setTop (mkF m (pc + 1) Ls (v :: st)))) : own_Go p e below P (T.setTop (mkF m pc Ls (.int j :: .ref a :: st))) := by
  obtain ⟨hx, hby, hml, hown, hnm, hret, hlk, hZ⟩ := cx
  exact own_ldJ X hx hZ A hj hi hv (g := mkF m pc Ls (.int j :: .ref a :: st)) rfl rfl (hb hby hd) k
theorem o_len (cx : own_Cx p s m meth c Z bytes maxL y ret) (X : own_Sd p l e R s m args below meth c n0 T h C S) {z : Int32} (hd : decode bytes pc = .ok (.arraylength, 1)) (A : own_Ar Z h a ty vs) (hz : vs.length.toInt32 = z) (k : own_Go p e below P (T.setTop (mkF m (pc + 1) Ls (.int z :: st)))) : own_Go p e below P (T.setTop (mkF m pc Ls (.ref a :: st))) := by
  obtain ⟨hx, hby, hml, hown, hnm, hret, hlk, hZ⟩ := cx
  exact own_len X hx hZ A hz (g := mkF m pc Ls (.ref a :: st)) rfl rfl (hb hby hd) k
end OwnT
def own_i (q : Prop) [Decidable q] : Int32 := if q then 1 else 0
theorem own_i1 {q : Prop} [Decidable q] (h : q) : own_i q = 1 := if_pos h
theorem own_i0 {q : Prop} [Decidable q] (h : ¬ q) : own_i q = 0 := if_neg h
def own_b1 (b0 : Int32) : Int32 := 0
def own_b2 (b0 b1 : Int32) : Int32 := (if own_i (b0 = b1) = (0 : Int32) then 0 else 1)
def own_b3 (b0 b1 b2 : Int32) : Int32 := (if own_i (b0 = b1 ∧ b1 = b2) = (0 : Int32) then (if own_i (b0 = b2) = (0 : Int32) then 0 else 1) else 2)
def own_b4 (b0 b1 b2 b3 : Int32) : Int32 := (if own_i (b0 = b1 ∧ b1 = b2 ∧ b2 = b3) = (0 : Int32) then (if own_i (b0 = b2 ∧ b1 = b3) = (0 : Int32) then (if own_i (b0 = b3) = (0 : Int32) then 0 else 1) else 2) else 3)
def own_b5 (b0 b1 b2 b3 b4 : Int32) : Int32 := (if own_i (b0 = b1 ∧ b1 = b2 ∧ b2 = b3 ∧ b3 = b4) = (0 : Int32) then (if own_i (b0 = b2 ∧ b1 = b3 ∧ b2 = b4) = (0 : Int32) then (if own_i (b0 = b3 ∧ b1 = b4) = (0 : Int32) then (if own_i (b0 = b4) = (0 : Int32) then 0 else 1) else 2) else 3) else 4)
def own_b6 (b0 b1 b2 b3 b4 b5 : Int32) : Int32 := (if own_i (b0 = b1 ∧ b1 = b2 ∧ b2 = b3 ∧ b3 = b4 ∧ b4 = b5) = (0 : Int32) then (if own_i (b0 = b2 ∧ b1 = b3 ∧ b2 = b4 ∧ b3 = b5) = (0 : Int32) then (if own_i (b0 = b3 ∧ b1 = b4 ∧ b2 = b5) = (0 : Int32) then (if own_i (b0 = b4 ∧ b1 = b5) = (0 : Int32) then (if own_i (b0 = b5) = (0 : Int32) then 0 else 1) else 2) else 3) else 4) else 5)
theorem own_n6 (y : Int32) : (((y &&& (2147483647 : Int32)) % (6 : Int32)) + (1 : Int32)) = (1 : Int32) ∨ (((y &&& (2147483647 : Int32)) % (6 : Int32)) + (1 : Int32)) = (2 : Int32) ∨ (((y &&& (2147483647 : Int32)) % (6 : Int32)) + (1 : Int32)) = (3 : Int32) ∨ (((y &&& (2147483647 : Int32)) % (6 : Int32)) + (1 : Int32)) = (4 : Int32) ∨ (((y &&& (2147483647 : Int32)) % (6 : Int32)) + (1 : Int32)) = (5 : Int32) ∨ (((y &&& (2147483647 : Int32)) % (6 : Int32)) + (1 : Int32)) = (6 : Int32) := by
  have h : 0 ≤ (y &&& (2147483647 : Int32)).toInt := by
    have e : (y &&& (2147483647 : Int32)).toInt = y.toInt % 2147483648 := c_mask y 2147483647 31 (by decide) (by decide)
    omega
  generalize (y &&& (2147483647 : Int32)) = z at *
  have e := (c_irem z 6 6 (by decide)).1 h
  have e1 := c_iadd (z % 6) 1
  have r := rng32 ((z % (6 : Int32)) + (1 : Int32))
  have l1 : (1 : Int32).toInt = 1 := by decide
  have l2 : (2 : Int32).toInt = 2 := by decide
  have l3 : (3 : Int32).toInt = 3 := by decide
  have l4 : (4 : Int32).toInt = 4 := by decide
  have l5 : (5 : Int32).toInt = 5 := by decide
  have l6 : (6 : Int32).toInt = 6 := by decide
  rw [l1] at e1
  simp only [← Int32.toInt_inj, l1, l2, l3, l4, l5, l6]; omega
theorem d5_0 : decode method_6_code 0 = .ok (.iload_n 2, 1) := by decide +kernel
theorem d5_1 : decode method_6_code 1 = .ok (.ifCond .le 14, 3) := by decide +kernel
theorem d5_4 : decode method_6_code 4 = .ok (.aload_n 0, 1) := by decide +kernel
theorem d5_5 : decode method_6_code 5 = .ok (.iconst 0, 1) := by decide +kernel
theorem d5_6 : decode method_6_code 6 = .ok (.baload, 1) := by decide +kernel
theorem d5_7 : decode method_6_code 7 = .ok (.aload_n 0, 1) := by decide +kernel
theorem d5_8 : decode method_6_code 8 = .ok (.iload_n 1, 1) := by decide +kernel
theorem d5_9 : decode method_6_code 9 = .ok (.iload_n 2, 1) := by decide +kernel
theorem d5_10 : decode method_6_code 10 = .ok (.isub, 1) := by decide +kernel
theorem d5_11 : decode method_6_code 11 = .ok (.baload, 1) := by decide +kernel
theorem d5_12 : decode method_6_code 12 = .ok (.if_icmp .ne 79, 3) := by decide +kernel
theorem d5_15 : decode method_6_code 15 = .ok (.iload_n 2, 1) := by decide +kernel
theorem d5_16 : decode method_6_code 16 = .ok (.iconst 1, 1) := by decide +kernel
theorem d5_17 : decode method_6_code 17 = .ok (.if_icmp .le 16, 3) := by decide +kernel
theorem d5_33 : decode method_6_code 33 = .ok (.iload_n 2, 1) := by decide +kernel
theorem d5_34 : decode method_6_code 34 = .ok (.iconst 2, 1) := by decide +kernel
theorem d5_35 : decode method_6_code 35 = .ok (.if_icmp .le 16, 3) := by decide +kernel
theorem d5_51 : decode method_6_code 51 = .ok (.iload_n 2, 1) := by decide +kernel
theorem d5_52 : decode method_6_code 52 = .ok (.iconst 3, 1) := by decide +kernel
theorem d5_53 : decode method_6_code 53 = .ok (.if_icmp .le 16, 3) := by decide +kernel
theorem d5_69 : decode method_6_code 69 = .ok (.iload_n 2, 1) := by decide +kernel
theorem d5_70 : decode method_6_code 70 = .ok (.iconst 4, 1) := by decide +kernel
theorem d5_71 : decode method_6_code 71 = .ok (.if_icmp .le 16, 3) := by decide +kernel
theorem d5_87 : decode method_6_code 87 = .ok (.iconst 1, 1) := by decide +kernel
theorem d5_88 : decode method_6_code 88 = .ok (.goto 4, 3) := by decide +kernel
theorem d5_92 : decode method_6_code 92 = .ok (.ireturn, 1) := by decide +kernel
theorem d5_91 : decode method_6_code 91 = .ok (.iconst 0, 1) := by decide +kernel
theorem pn_5 : plainName "com/example/needlewise/needlewise/KmpPartialMatchPinLaw" = true := by first | (simp [plainName, overriddenIn]; done) | decide +kernel
theorem ef_rib_2_1 (m : MethodId) (aa : Addr) : entryFrame m #[(.ref aa), (.int (2 : Int32)), (.int (1 : Int32))] 3 = mkF m 0 #[.val (.ref aa), .val (.int (2 : Int32)), .val (.int (1 : Int32))] [] := by first | (simp [entryFrame, mkF, argsToLocals, Value.category]; done) | rfl
set_option maxRecDepth 65536 in
set_option maxHeartbeats 40000000 in
theorem rib_2_1 (l : Launch) (Z : State) (a0 : Array Value) (hw : ∀ d ∈ tables_1, d.before a0 Z = true) (aa : Addr) (vs : List Value) (b0 : Int32) (b1 : Int32) (h0 : Heap) (n0 : Nat) (Z0 : n0 ≤ h0.size) (A0 : own_Ar Z h0 aa .byte vs) (hv0 : vs[0]? = some (.int b0)) (hv1 : vs[1]? = some (.int b1)) :
    own_Met l Z (⟨"com/example/needlewise/needlewise/KmpPartialMatchPinLaw", "isBorder", "([BII)Z"⟩ : MethodName) method_6_code 3 (some .boolean) ({ frames := 0, cells := 0, slots := 0, locals := 0 } : Room) #[(.ref aa), (.int (2 : Int32)), (.int (1 : Int32))] h0 n0 (fun v' h' => v' = some (.int (own_i (b0 = b1))) ∧ h' = h0) := by
  refine own_body (plainFor_of_name pn_5) (fun m => ef_rib_2_1 m aa) Z0 ?_
  intro p e s m below meth c T0 cx X0
  show own_Go p e below _ (T0.setTop (mkF m 0 #[.val (.ref aa), .val (.int (2 : Int32)), .val (.int (1 : Int32))] []))
  refine o_iloadN cx X0 d5_0 rfl ?_
  refine o_ifNo cx X0 d5_1 (by decide) ?_
  refine o_aloadN cx X0 d5_4 rfl rfl ?_
  refine o_iconst cx X0 (z := (0 : Int32)) d5_5 rfl ?_
  refine o_ldB cx X0 (v := (.int b0)) d5_6 A0 0 (by decide) rfl hv0 ?_
  refine o_aloadN cx X0 d5_7 rfl rfl ?_
  refine o_iloadN cx X0 d5_8 rfl ?_
  refine o_iloadN cx X0 d5_9 rfl ?_
  refine o_isub cx X0 (z := (1 : Int32)) d5_10 rfl ?_
  refine o_ldB cx X0 (v := (.int b1)) d5_11 A0 1 (by decide) rfl hv1 ?_
  by_cases hc1 : b0 = b1
  · refine o_icmpNo cx X0 d5_12 (teq hc1).2 ?_
    refine o_iloadN cx X0 d5_15 rfl ?_
    refine o_iconst cx X0 (z := (1 : Int32)) d5_16 rfl ?_
    refine o_icmpYes cx X0 33 d5_17 (by decide) (by decide) (by decide) ?_
    refine o_iloadN cx X0 d5_33 rfl ?_
    refine o_iconst cx X0 (z := (2 : Int32)) d5_34 rfl ?_
    refine o_icmpYes cx X0 51 d5_35 (by decide) (by decide) (by decide) ?_
    refine o_iloadN cx X0 d5_51 rfl ?_
    refine o_iconst cx X0 (z := (3 : Int32)) d5_52 rfl ?_
    refine o_icmpYes cx X0 69 d5_53 (by decide) (by decide) (by decide) ?_
    refine o_iloadN cx X0 d5_69 rfl ?_
    refine o_iconst cx X0 (z := (4 : Int32)) d5_70 rfl ?_
    refine o_icmpYes cx X0 87 d5_71 (by decide) (by decide) (by decide) ?_
    refine o_iconst cx X0 (z := (1 : Int32)) d5_87 rfl ?_
    refine o_goto cx X0 92 d5_88 (by decide) (by decide) ?_
    exact o_retN cx X0 (z' := (1 : Int32)) d5_92 (by simp) rfl ⟨congrArg (fun z => some (Value.int z)) (show (1 : Int32) = own_i (b0 = b1) from Eq.symm (own_i1 (by simp [hc1]))), rfl⟩ (by decide) (by decide)
  · refine o_icmpYes cx X0 91 d5_12 (feq hc1).2 (by decide) (by decide) ?_
    refine o_iconst cx X0 (z := (0 : Int32)) d5_91 rfl ?_
    exact o_retN cx X0 (z' := (0 : Int32)) d5_92 (by simp) rfl ⟨congrArg (fun z => some (Value.int z)) (show (0 : Int32) = own_i (b0 = b1) from Eq.symm (own_i0 (by simp [hc1]))), rfl⟩ (by decide) (by decide)
theorem ef_rib_3_1 (m : MethodId) (aa : Addr) : entryFrame m #[(.ref aa), (.int (3 : Int32)), (.int (1 : Int32))] 3 = mkF m 0 #[.val (.ref aa), .val (.int (3 : Int32)), .val (.int (1 : Int32))] [] := by first | (simp [entryFrame, mkF, argsToLocals, Value.category]; done) | rfl
set_option maxRecDepth 65536 in
set_option maxHeartbeats 40000000 in
theorem rib_3_1 (l : Launch) (Z : State) (a0 : Array Value) (hw : ∀ d ∈ tables_1, d.before a0 Z = true) (aa : Addr) (vs : List Value) (b0 : Int32) (b1 : Int32) (b2 : Int32) (h0 : Heap) (n0 : Nat) (Z0 : n0 ≤ h0.size) (A0 : own_Ar Z h0 aa .byte vs) (hv0 : vs[0]? = some (.int b0)) (hv1 : vs[1]? = some (.int b1)) (hv2 : vs[2]? = some (.int b2)) :
    own_Met l Z (⟨"com/example/needlewise/needlewise/KmpPartialMatchPinLaw", "isBorder", "([BII)Z"⟩ : MethodName) method_6_code 3 (some .boolean) ({ frames := 0, cells := 0, slots := 0, locals := 0 } : Room) #[(.ref aa), (.int (3 : Int32)), (.int (1 : Int32))] h0 n0 (fun v' h' => v' = some (.int (own_i (b0 = b2))) ∧ h' = h0) := by
  refine own_body (plainFor_of_name pn_5) (fun m => ef_rib_3_1 m aa) Z0 ?_
  intro p e s m below meth c T0 cx X0
  show own_Go p e below _ (T0.setTop (mkF m 0 #[.val (.ref aa), .val (.int (3 : Int32)), .val (.int (1 : Int32))] []))
  refine o_iloadN cx X0 d5_0 rfl ?_
  refine o_ifNo cx X0 d5_1 (by decide) ?_
  refine o_aloadN cx X0 d5_4 rfl rfl ?_
  refine o_iconst cx X0 (z := (0 : Int32)) d5_5 rfl ?_
  refine o_ldB cx X0 (v := (.int b0)) d5_6 A0 0 (by decide) rfl hv0 ?_
  refine o_aloadN cx X0 d5_7 rfl rfl ?_
  refine o_iloadN cx X0 d5_8 rfl ?_
  refine o_iloadN cx X0 d5_9 rfl ?_
  refine o_isub cx X0 (z := (2 : Int32)) d5_10 rfl ?_
  refine o_ldB cx X0 (v := (.int b2)) d5_11 A0 2 (by decide) rfl hv2 ?_
  by_cases hc2 : b0 = b2
  · refine o_icmpNo cx X0 d5_12 (teq hc2).2 ?_
    refine o_iloadN cx X0 d5_15 rfl ?_
    refine o_iconst cx X0 (z := (1 : Int32)) d5_16 rfl ?_
    refine o_icmpYes cx X0 33 d5_17 (by decide) (by decide) (by decide) ?_
    refine o_iloadN cx X0 d5_33 rfl ?_
    refine o_iconst cx X0 (z := (2 : Int32)) d5_34 rfl ?_
    refine o_icmpYes cx X0 51 d5_35 (by decide) (by decide) (by decide) ?_
    refine o_iloadN cx X0 d5_51 rfl ?_
    refine o_iconst cx X0 (z := (3 : Int32)) d5_52 rfl ?_
    refine o_icmpYes cx X0 69 d5_53 (by decide) (by decide) (by decide) ?_
    refine o_iloadN cx X0 d5_69 rfl ?_
    refine o_iconst cx X0 (z := (4 : Int32)) d5_70 rfl ?_
    refine o_icmpYes cx X0 87 d5_71 (by decide) (by decide) (by decide) ?_
    refine o_iconst cx X0 (z := (1 : Int32)) d5_87 rfl ?_
    refine o_goto cx X0 92 d5_88 (by decide) (by decide) ?_
    exact o_retN cx X0 (z' := (1 : Int32)) d5_92 (by simp) rfl ⟨congrArg (fun z => some (Value.int z)) (show (1 : Int32) = own_i (b0 = b2) from Eq.symm (own_i1 (by simp [hc2]))), rfl⟩ (by decide) (by decide)
  · refine o_icmpYes cx X0 91 d5_12 (feq hc2).2 (by decide) (by decide) ?_
    refine o_iconst cx X0 (z := (0 : Int32)) d5_91 rfl ?_
    exact o_retN cx X0 (z' := (0 : Int32)) d5_92 (by simp) rfl ⟨congrArg (fun z => some (Value.int z)) (show (0 : Int32) = own_i (b0 = b2) from Eq.symm (own_i0 (by simp [hc2]))), rfl⟩ (by decide) (by decide)
theorem d5_20 : decode method_6_code 20 = .ok (.aload_n 0, 1) := by decide +kernel
theorem d5_21 : decode method_6_code 21 = .ok (.iconst 1, 1) := by decide +kernel
theorem d5_22 : decode method_6_code 22 = .ok (.baload, 1) := by decide +kernel
theorem d5_23 : decode method_6_code 23 = .ok (.aload_n 0, 1) := by decide +kernel
theorem d5_24 : decode method_6_code 24 = .ok (.iload_n 1, 1) := by decide +kernel
theorem d5_25 : decode method_6_code 25 = .ok (.iload_n 2, 1) := by decide +kernel
theorem d5_26 : decode method_6_code 26 = .ok (.isub, 1) := by decide +kernel
theorem d5_27 : decode method_6_code 27 = .ok (.iconst 1, 1) := by decide +kernel
theorem d5_28 : decode method_6_code 28 = .ok (.iadd, 1) := by decide +kernel
theorem d5_29 : decode method_6_code 29 = .ok (.baload, 1) := by decide +kernel
theorem d5_30 : decode method_6_code 30 = .ok (.if_icmp .ne 61, 3) := by decide +kernel
theorem ef_rib_3_2 (m : MethodId) (aa : Addr) : entryFrame m #[(.ref aa), (.int (3 : Int32)), (.int (2 : Int32))] 3 = mkF m 0 #[.val (.ref aa), .val (.int (3 : Int32)), .val (.int (2 : Int32))] [] := by first | (simp [entryFrame, mkF, argsToLocals, Value.category]; done) | rfl
set_option maxRecDepth 65536 in
set_option maxHeartbeats 40000000 in
theorem rib_3_2 (l : Launch) (Z : State) (a0 : Array Value) (hw : ∀ d ∈ tables_1, d.before a0 Z = true) (aa : Addr) (vs : List Value) (b0 : Int32) (b1 : Int32) (b2 : Int32) (h0 : Heap) (n0 : Nat) (Z0 : n0 ≤ h0.size) (A0 : own_Ar Z h0 aa .byte vs) (hv0 : vs[0]? = some (.int b0)) (hv1 : vs[1]? = some (.int b1)) (hv2 : vs[2]? = some (.int b2)) :
    own_Met l Z (⟨"com/example/needlewise/needlewise/KmpPartialMatchPinLaw", "isBorder", "([BII)Z"⟩ : MethodName) method_6_code 3 (some .boolean) ({ frames := 0, cells := 0, slots := 0, locals := 0 } : Room) #[(.ref aa), (.int (3 : Int32)), (.int (2 : Int32))] h0 n0 (fun v' h' => v' = some (.int (own_i (b0 = b1 ∧ b1 = b2))) ∧ h' = h0) := by
  refine own_body (plainFor_of_name pn_5) (fun m => ef_rib_3_2 m aa) Z0 ?_
  intro p e s m below meth c T0 cx X0
  show own_Go p e below _ (T0.setTop (mkF m 0 #[.val (.ref aa), .val (.int (3 : Int32)), .val (.int (2 : Int32))] []))
  refine o_iloadN cx X0 d5_0 rfl ?_
  refine o_ifNo cx X0 d5_1 (by decide) ?_
  refine o_aloadN cx X0 d5_4 rfl rfl ?_
  refine o_iconst cx X0 (z := (0 : Int32)) d5_5 rfl ?_
  refine o_ldB cx X0 (v := (.int b0)) d5_6 A0 0 (by decide) rfl hv0 ?_
  refine o_aloadN cx X0 d5_7 rfl rfl ?_
  refine o_iloadN cx X0 d5_8 rfl ?_
  refine o_iloadN cx X0 d5_9 rfl ?_
  refine o_isub cx X0 (z := (1 : Int32)) d5_10 rfl ?_
  refine o_ldB cx X0 (v := (.int b1)) d5_11 A0 1 (by decide) rfl hv1 ?_
  by_cases hc3 : b0 = b1
  · refine o_icmpNo cx X0 d5_12 (teq hc3).2 ?_
    refine o_iloadN cx X0 d5_15 rfl ?_
    refine o_iconst cx X0 (z := (1 : Int32)) d5_16 rfl ?_
    refine o_icmpNo cx X0 d5_17 (by decide) ?_
    refine o_aloadN cx X0 d5_20 rfl rfl ?_
    refine o_iconst cx X0 (z := (1 : Int32)) d5_21 rfl ?_
    refine o_ldB cx X0 (v := (.int b1)) d5_22 A0 1 (by decide) rfl hv1 ?_
    refine o_aloadN cx X0 d5_23 rfl rfl ?_
    refine o_iloadN cx X0 d5_24 rfl ?_
    refine o_iloadN cx X0 d5_25 rfl ?_
    refine o_isub cx X0 (z := (1 : Int32)) d5_26 rfl ?_
    refine o_iconst cx X0 (z := (1 : Int32)) d5_27 rfl ?_
    refine o_iadd cx X0 (z := (2 : Int32)) d5_28 rfl ?_
    refine o_ldB cx X0 (v := (.int b2)) d5_29 A0 2 (by decide) rfl hv2 ?_
    by_cases hc4 : b1 = b2
    · refine o_icmpNo cx X0 d5_30 (teq hc4).2 ?_
      refine o_iloadN cx X0 d5_33 rfl ?_
      refine o_iconst cx X0 (z := (2 : Int32)) d5_34 rfl ?_
      refine o_icmpYes cx X0 51 d5_35 (by decide) (by decide) (by decide) ?_
      refine o_iloadN cx X0 d5_51 rfl ?_
      refine o_iconst cx X0 (z := (3 : Int32)) d5_52 rfl ?_
      refine o_icmpYes cx X0 69 d5_53 (by decide) (by decide) (by decide) ?_
      refine o_iloadN cx X0 d5_69 rfl ?_
      refine o_iconst cx X0 (z := (4 : Int32)) d5_70 rfl ?_
      refine o_icmpYes cx X0 87 d5_71 (by decide) (by decide) (by decide) ?_
      refine o_iconst cx X0 (z := (1 : Int32)) d5_87 rfl ?_
      refine o_goto cx X0 92 d5_88 (by decide) (by decide) ?_
      exact o_retN cx X0 (z' := (1 : Int32)) d5_92 (by simp) rfl ⟨congrArg (fun z => some (Value.int z)) (show (1 : Int32) = own_i (b0 = b1 ∧ b1 = b2) from Eq.symm (own_i1 (by simp [hc3, hc4]))), rfl⟩ (by decide) (by decide)
    · refine o_icmpYes cx X0 91 d5_30 (feq hc4).2 (by decide) (by decide) ?_
      refine o_iconst cx X0 (z := (0 : Int32)) d5_91 rfl ?_
      exact o_retN cx X0 (z' := (0 : Int32)) d5_92 (by simp) rfl ⟨congrArg (fun z => some (Value.int z)) (show (0 : Int32) = own_i (b0 = b1 ∧ b1 = b2) from Eq.symm (own_i0 (by simp [hc3, hc4]))), rfl⟩ (by decide) (by decide)
  · refine o_icmpYes cx X0 91 d5_12 (feq hc3).2 (by decide) (by decide) ?_
    refine o_iconst cx X0 (z := (0 : Int32)) d5_91 rfl ?_
    exact o_retN cx X0 (z' := (0 : Int32)) d5_92 (by simp) rfl ⟨congrArg (fun z => some (Value.int z)) (show (0 : Int32) = own_i (b0 = b1 ∧ b1 = b2) from Eq.symm (own_i0 (by simp [hc3]))), rfl⟩ (by decide) (by decide)
theorem ef_rib_4_1 (m : MethodId) (aa : Addr) : entryFrame m #[(.ref aa), (.int (4 : Int32)), (.int (1 : Int32))] 3 = mkF m 0 #[.val (.ref aa), .val (.int (4 : Int32)), .val (.int (1 : Int32))] [] := by first | (simp [entryFrame, mkF, argsToLocals, Value.category]; done) | rfl
set_option maxRecDepth 65536 in
set_option maxHeartbeats 40000000 in
theorem rib_4_1 (l : Launch) (Z : State) (a0 : Array Value) (hw : ∀ d ∈ tables_1, d.before a0 Z = true) (aa : Addr) (vs : List Value) (b0 : Int32) (b1 : Int32) (b2 : Int32) (b3 : Int32) (h0 : Heap) (n0 : Nat) (Z0 : n0 ≤ h0.size) (A0 : own_Ar Z h0 aa .byte vs) (hv0 : vs[0]? = some (.int b0)) (hv1 : vs[1]? = some (.int b1)) (hv2 : vs[2]? = some (.int b2)) (hv3 : vs[3]? = some (.int b3)) :
    own_Met l Z (⟨"com/example/needlewise/needlewise/KmpPartialMatchPinLaw", "isBorder", "([BII)Z"⟩ : MethodName) method_6_code 3 (some .boolean) ({ frames := 0, cells := 0, slots := 0, locals := 0 } : Room) #[(.ref aa), (.int (4 : Int32)), (.int (1 : Int32))] h0 n0 (fun v' h' => v' = some (.int (own_i (b0 = b3))) ∧ h' = h0) := by
  refine own_body (plainFor_of_name pn_5) (fun m => ef_rib_4_1 m aa) Z0 ?_
  intro p e s m below meth c T0 cx X0
  show own_Go p e below _ (T0.setTop (mkF m 0 #[.val (.ref aa), .val (.int (4 : Int32)), .val (.int (1 : Int32))] []))
  refine o_iloadN cx X0 d5_0 rfl ?_
  refine o_ifNo cx X0 d5_1 (by decide) ?_
  refine o_aloadN cx X0 d5_4 rfl rfl ?_
  refine o_iconst cx X0 (z := (0 : Int32)) d5_5 rfl ?_
  refine o_ldB cx X0 (v := (.int b0)) d5_6 A0 0 (by decide) rfl hv0 ?_
  refine o_aloadN cx X0 d5_7 rfl rfl ?_
  refine o_iloadN cx X0 d5_8 rfl ?_
  refine o_iloadN cx X0 d5_9 rfl ?_
  refine o_isub cx X0 (z := (3 : Int32)) d5_10 rfl ?_
  refine o_ldB cx X0 (v := (.int b3)) d5_11 A0 3 (by decide) rfl hv3 ?_
  by_cases hc5 : b0 = b3
  · refine o_icmpNo cx X0 d5_12 (teq hc5).2 ?_
    refine o_iloadN cx X0 d5_15 rfl ?_
    refine o_iconst cx X0 (z := (1 : Int32)) d5_16 rfl ?_
    refine o_icmpYes cx X0 33 d5_17 (by decide) (by decide) (by decide) ?_
    refine o_iloadN cx X0 d5_33 rfl ?_
    refine o_iconst cx X0 (z := (2 : Int32)) d5_34 rfl ?_
    refine o_icmpYes cx X0 51 d5_35 (by decide) (by decide) (by decide) ?_
    refine o_iloadN cx X0 d5_51 rfl ?_
    refine o_iconst cx X0 (z := (3 : Int32)) d5_52 rfl ?_
    refine o_icmpYes cx X0 69 d5_53 (by decide) (by decide) (by decide) ?_
    refine o_iloadN cx X0 d5_69 rfl ?_
    refine o_iconst cx X0 (z := (4 : Int32)) d5_70 rfl ?_
    refine o_icmpYes cx X0 87 d5_71 (by decide) (by decide) (by decide) ?_
    refine o_iconst cx X0 (z := (1 : Int32)) d5_87 rfl ?_
    refine o_goto cx X0 92 d5_88 (by decide) (by decide) ?_
    exact o_retN cx X0 (z' := (1 : Int32)) d5_92 (by simp) rfl ⟨congrArg (fun z => some (Value.int z)) (show (1 : Int32) = own_i (b0 = b3) from Eq.symm (own_i1 (by simp [hc5]))), rfl⟩ (by decide) (by decide)
  · refine o_icmpYes cx X0 91 d5_12 (feq hc5).2 (by decide) (by decide) ?_
    refine o_iconst cx X0 (z := (0 : Int32)) d5_91 rfl ?_
    exact o_retN cx X0 (z' := (0 : Int32)) d5_92 (by simp) rfl ⟨congrArg (fun z => some (Value.int z)) (show (0 : Int32) = own_i (b0 = b3) from Eq.symm (own_i0 (by simp [hc5]))), rfl⟩ (by decide) (by decide)
theorem ef_rib_4_2 (m : MethodId) (aa : Addr) : entryFrame m #[(.ref aa), (.int (4 : Int32)), (.int (2 : Int32))] 3 = mkF m 0 #[.val (.ref aa), .val (.int (4 : Int32)), .val (.int (2 : Int32))] [] := by first | (simp [entryFrame, mkF, argsToLocals, Value.category]; done) | rfl
set_option maxRecDepth 65536 in
set_option maxHeartbeats 40000000 in
theorem rib_4_2 (l : Launch) (Z : State) (a0 : Array Value) (hw : ∀ d ∈ tables_1, d.before a0 Z = true) (aa : Addr) (vs : List Value) (b0 : Int32) (b1 : Int32) (b2 : Int32) (b3 : Int32) (h0 : Heap) (n0 : Nat) (Z0 : n0 ≤ h0.size) (A0 : own_Ar Z h0 aa .byte vs) (hv0 : vs[0]? = some (.int b0)) (hv1 : vs[1]? = some (.int b1)) (hv2 : vs[2]? = some (.int b2)) (hv3 : vs[3]? = some (.int b3)) :
    own_Met l Z (⟨"com/example/needlewise/needlewise/KmpPartialMatchPinLaw", "isBorder", "([BII)Z"⟩ : MethodName) method_6_code 3 (some .boolean) ({ frames := 0, cells := 0, slots := 0, locals := 0 } : Room) #[(.ref aa), (.int (4 : Int32)), (.int (2 : Int32))] h0 n0 (fun v' h' => v' = some (.int (own_i (b0 = b2 ∧ b1 = b3))) ∧ h' = h0) := by
  refine own_body (plainFor_of_name pn_5) (fun m => ef_rib_4_2 m aa) Z0 ?_
  intro p e s m below meth c T0 cx X0
  show own_Go p e below _ (T0.setTop (mkF m 0 #[.val (.ref aa), .val (.int (4 : Int32)), .val (.int (2 : Int32))] []))
  refine o_iloadN cx X0 d5_0 rfl ?_
  refine o_ifNo cx X0 d5_1 (by decide) ?_
  refine o_aloadN cx X0 d5_4 rfl rfl ?_
  refine o_iconst cx X0 (z := (0 : Int32)) d5_5 rfl ?_
  refine o_ldB cx X0 (v := (.int b0)) d5_6 A0 0 (by decide) rfl hv0 ?_
  refine o_aloadN cx X0 d5_7 rfl rfl ?_
  refine o_iloadN cx X0 d5_8 rfl ?_
  refine o_iloadN cx X0 d5_9 rfl ?_
  refine o_isub cx X0 (z := (2 : Int32)) d5_10 rfl ?_
  refine o_ldB cx X0 (v := (.int b2)) d5_11 A0 2 (by decide) rfl hv2 ?_
  by_cases hc6 : b0 = b2
  · refine o_icmpNo cx X0 d5_12 (teq hc6).2 ?_
    refine o_iloadN cx X0 d5_15 rfl ?_
    refine o_iconst cx X0 (z := (1 : Int32)) d5_16 rfl ?_
    refine o_icmpNo cx X0 d5_17 (by decide) ?_
    refine o_aloadN cx X0 d5_20 rfl rfl ?_
    refine o_iconst cx X0 (z := (1 : Int32)) d5_21 rfl ?_
    refine o_ldB cx X0 (v := (.int b1)) d5_22 A0 1 (by decide) rfl hv1 ?_
    refine o_aloadN cx X0 d5_23 rfl rfl ?_
    refine o_iloadN cx X0 d5_24 rfl ?_
    refine o_iloadN cx X0 d5_25 rfl ?_
    refine o_isub cx X0 (z := (2 : Int32)) d5_26 rfl ?_
    refine o_iconst cx X0 (z := (1 : Int32)) d5_27 rfl ?_
    refine o_iadd cx X0 (z := (3 : Int32)) d5_28 rfl ?_
    refine o_ldB cx X0 (v := (.int b3)) d5_29 A0 3 (by decide) rfl hv3 ?_
    by_cases hc7 : b1 = b3
    · refine o_icmpNo cx X0 d5_30 (teq hc7).2 ?_
      refine o_iloadN cx X0 d5_33 rfl ?_
      refine o_iconst cx X0 (z := (2 : Int32)) d5_34 rfl ?_
      refine o_icmpYes cx X0 51 d5_35 (by decide) (by decide) (by decide) ?_
      refine o_iloadN cx X0 d5_51 rfl ?_
      refine o_iconst cx X0 (z := (3 : Int32)) d5_52 rfl ?_
      refine o_icmpYes cx X0 69 d5_53 (by decide) (by decide) (by decide) ?_
      refine o_iloadN cx X0 d5_69 rfl ?_
      refine o_iconst cx X0 (z := (4 : Int32)) d5_70 rfl ?_
      refine o_icmpYes cx X0 87 d5_71 (by decide) (by decide) (by decide) ?_
      refine o_iconst cx X0 (z := (1 : Int32)) d5_87 rfl ?_
      refine o_goto cx X0 92 d5_88 (by decide) (by decide) ?_
      exact o_retN cx X0 (z' := (1 : Int32)) d5_92 (by simp) rfl ⟨congrArg (fun z => some (Value.int z)) (show (1 : Int32) = own_i (b0 = b2 ∧ b1 = b3) from Eq.symm (own_i1 (by simp [hc6, hc7]))), rfl⟩ (by decide) (by decide)
    · refine o_icmpYes cx X0 91 d5_30 (feq hc7).2 (by decide) (by decide) ?_
      refine o_iconst cx X0 (z := (0 : Int32)) d5_91 rfl ?_
      exact o_retN cx X0 (z' := (0 : Int32)) d5_92 (by simp) rfl ⟨congrArg (fun z => some (Value.int z)) (show (0 : Int32) = own_i (b0 = b2 ∧ b1 = b3) from Eq.symm (own_i0 (by simp [hc6, hc7]))), rfl⟩ (by decide) (by decide)
  · refine o_icmpYes cx X0 91 d5_12 (feq hc6).2 (by decide) (by decide) ?_
    refine o_iconst cx X0 (z := (0 : Int32)) d5_91 rfl ?_
    exact o_retN cx X0 (z' := (0 : Int32)) d5_92 (by simp) rfl ⟨congrArg (fun z => some (Value.int z)) (show (0 : Int32) = own_i (b0 = b2 ∧ b1 = b3) from Eq.symm (own_i0 (by simp [hc6]))), rfl⟩ (by decide) (by decide)
theorem d5_38 : decode method_6_code 38 = .ok (.aload_n 0, 1) := by decide +kernel
theorem d5_39 : decode method_6_code 39 = .ok (.iconst 2, 1) := by decide +kernel
theorem d5_40 : decode method_6_code 40 = .ok (.baload, 1) := by decide +kernel
theorem d5_41 : decode method_6_code 41 = .ok (.aload_n 0, 1) := by decide +kernel
theorem d5_42 : decode method_6_code 42 = .ok (.iload_n 1, 1) := by decide +kernel
theorem d5_43 : decode method_6_code 43 = .ok (.iload_n 2, 1) := by decide +kernel
theorem d5_44 : decode method_6_code 44 = .ok (.isub, 1) := by decide +kernel
theorem d5_45 : decode method_6_code 45 = .ok (.iconst 2, 1) := by decide +kernel
theorem d5_46 : decode method_6_code 46 = .ok (.iadd, 1) := by decide +kernel
theorem d5_47 : decode method_6_code 47 = .ok (.baload, 1) := by decide +kernel
theorem d5_48 : decode method_6_code 48 = .ok (.if_icmp .ne 43, 3) := by decide +kernel
theorem ef_rib_4_3 (m : MethodId) (aa : Addr) : entryFrame m #[(.ref aa), (.int (4 : Int32)), (.int (3 : Int32))] 3 = mkF m 0 #[.val (.ref aa), .val (.int (4 : Int32)), .val (.int (3 : Int32))] [] := by first | (simp [entryFrame, mkF, argsToLocals, Value.category]; done) | rfl
set_option maxRecDepth 65536 in
set_option maxHeartbeats 40000000 in
theorem rib_4_3 (l : Launch) (Z : State) (a0 : Array Value) (hw : ∀ d ∈ tables_1, d.before a0 Z = true) (aa : Addr) (vs : List Value) (b0 : Int32) (b1 : Int32) (b2 : Int32) (b3 : Int32) (h0 : Heap) (n0 : Nat) (Z0 : n0 ≤ h0.size) (A0 : own_Ar Z h0 aa .byte vs) (hv0 : vs[0]? = some (.int b0)) (hv1 : vs[1]? = some (.int b1)) (hv2 : vs[2]? = some (.int b2)) (hv3 : vs[3]? = some (.int b3)) :
    own_Met l Z (⟨"com/example/needlewise/needlewise/KmpPartialMatchPinLaw", "isBorder", "([BII)Z"⟩ : MethodName) method_6_code 3 (some .boolean) ({ frames := 0, cells := 0, slots := 0, locals := 0 } : Room) #[(.ref aa), (.int (4 : Int32)), (.int (3 : Int32))] h0 n0 (fun v' h' => v' = some (.int (own_i (b0 = b1 ∧ b1 = b2 ∧ b2 = b3))) ∧ h' = h0) := by
  refine own_body (plainFor_of_name pn_5) (fun m => ef_rib_4_3 m aa) Z0 ?_
  intro p e s m below meth c T0 cx X0
  show own_Go p e below _ (T0.setTop (mkF m 0 #[.val (.ref aa), .val (.int (4 : Int32)), .val (.int (3 : Int32))] []))
  refine o_iloadN cx X0 d5_0 rfl ?_
  refine o_ifNo cx X0 d5_1 (by decide) ?_
  refine o_aloadN cx X0 d5_4 rfl rfl ?_
  refine o_iconst cx X0 (z := (0 : Int32)) d5_5 rfl ?_
  refine o_ldB cx X0 (v := (.int b0)) d5_6 A0 0 (by decide) rfl hv0 ?_
  refine o_aloadN cx X0 d5_7 rfl rfl ?_
  refine o_iloadN cx X0 d5_8 rfl ?_
  refine o_iloadN cx X0 d5_9 rfl ?_
  refine o_isub cx X0 (z := (1 : Int32)) d5_10 rfl ?_
  refine o_ldB cx X0 (v := (.int b1)) d5_11 A0 1 (by decide) rfl hv1 ?_
  by_cases hc8 : b0 = b1
  · refine o_icmpNo cx X0 d5_12 (teq hc8).2 ?_
    refine o_iloadN cx X0 d5_15 rfl ?_
    refine o_iconst cx X0 (z := (1 : Int32)) d5_16 rfl ?_
    refine o_icmpNo cx X0 d5_17 (by decide) ?_
    refine o_aloadN cx X0 d5_20 rfl rfl ?_
    refine o_iconst cx X0 (z := (1 : Int32)) d5_21 rfl ?_
    refine o_ldB cx X0 (v := (.int b1)) d5_22 A0 1 (by decide) rfl hv1 ?_
    refine o_aloadN cx X0 d5_23 rfl rfl ?_
    refine o_iloadN cx X0 d5_24 rfl ?_
    refine o_iloadN cx X0 d5_25 rfl ?_
    refine o_isub cx X0 (z := (1 : Int32)) d5_26 rfl ?_
    refine o_iconst cx X0 (z := (1 : Int32)) d5_27 rfl ?_
    refine o_iadd cx X0 (z := (2 : Int32)) d5_28 rfl ?_
    refine o_ldB cx X0 (v := (.int b2)) d5_29 A0 2 (by decide) rfl hv2 ?_
    by_cases hc9 : b1 = b2
    · refine o_icmpNo cx X0 d5_30 (teq hc9).2 ?_
      refine o_iloadN cx X0 d5_33 rfl ?_
      refine o_iconst cx X0 (z := (2 : Int32)) d5_34 rfl ?_
      refine o_icmpNo cx X0 d5_35 (by decide) ?_
      refine o_aloadN cx X0 d5_38 rfl rfl ?_
      refine o_iconst cx X0 (z := (2 : Int32)) d5_39 rfl ?_
      refine o_ldB cx X0 (v := (.int b2)) d5_40 A0 2 (by decide) rfl hv2 ?_
      refine o_aloadN cx X0 d5_41 rfl rfl ?_
      refine o_iloadN cx X0 d5_42 rfl ?_
      refine o_iloadN cx X0 d5_43 rfl ?_
      refine o_isub cx X0 (z := (1 : Int32)) d5_44 rfl ?_
      refine o_iconst cx X0 (z := (2 : Int32)) d5_45 rfl ?_
      refine o_iadd cx X0 (z := (3 : Int32)) d5_46 rfl ?_
      refine o_ldB cx X0 (v := (.int b3)) d5_47 A0 3 (by decide) rfl hv3 ?_
      by_cases hc10 : b2 = b3
      · refine o_icmpNo cx X0 d5_48 (teq hc10).2 ?_
        refine o_iloadN cx X0 d5_51 rfl ?_
        refine o_iconst cx X0 (z := (3 : Int32)) d5_52 rfl ?_
        refine o_icmpYes cx X0 69 d5_53 (by decide) (by decide) (by decide) ?_
        refine o_iloadN cx X0 d5_69 rfl ?_
        refine o_iconst cx X0 (z := (4 : Int32)) d5_70 rfl ?_
        refine o_icmpYes cx X0 87 d5_71 (by decide) (by decide) (by decide) ?_
        refine o_iconst cx X0 (z := (1 : Int32)) d5_87 rfl ?_
        refine o_goto cx X0 92 d5_88 (by decide) (by decide) ?_
        exact o_retN cx X0 (z' := (1 : Int32)) d5_92 (by simp) rfl ⟨congrArg (fun z => some (Value.int z)) (show (1 : Int32) = own_i (b0 = b1 ∧ b1 = b2 ∧ b2 = b3) from Eq.symm (own_i1 (by simp [hc8, hc9, hc10]))), rfl⟩ (by decide) (by decide)
      · refine o_icmpYes cx X0 91 d5_48 (feq hc10).2 (by decide) (by decide) ?_
        refine o_iconst cx X0 (z := (0 : Int32)) d5_91 rfl ?_
        exact o_retN cx X0 (z' := (0 : Int32)) d5_92 (by simp) rfl ⟨congrArg (fun z => some (Value.int z)) (show (0 : Int32) = own_i (b0 = b1 ∧ b1 = b2 ∧ b2 = b3) from Eq.symm (own_i0 (by simp [hc8, hc9, hc10]))), rfl⟩ (by decide) (by decide)
    · refine o_icmpYes cx X0 91 d5_30 (feq hc9).2 (by decide) (by decide) ?_
      refine o_iconst cx X0 (z := (0 : Int32)) d5_91 rfl ?_
      exact o_retN cx X0 (z' := (0 : Int32)) d5_92 (by simp) rfl ⟨congrArg (fun z => some (Value.int z)) (show (0 : Int32) = own_i (b0 = b1 ∧ b1 = b2 ∧ b2 = b3) from Eq.symm (own_i0 (by simp [hc8, hc9]))), rfl⟩ (by decide) (by decide)
  · refine o_icmpYes cx X0 91 d5_12 (feq hc8).2 (by decide) (by decide) ?_
    refine o_iconst cx X0 (z := (0 : Int32)) d5_91 rfl ?_
    exact o_retN cx X0 (z' := (0 : Int32)) d5_92 (by simp) rfl ⟨congrArg (fun z => some (Value.int z)) (show (0 : Int32) = own_i (b0 = b1 ∧ b1 = b2 ∧ b2 = b3) from Eq.symm (own_i0 (by simp [hc8]))), rfl⟩ (by decide) (by decide)
theorem ef_rib_5_1 (m : MethodId) (aa : Addr) : entryFrame m #[(.ref aa), (.int (5 : Int32)), (.int (1 : Int32))] 3 = mkF m 0 #[.val (.ref aa), .val (.int (5 : Int32)), .val (.int (1 : Int32))] [] := by first | (simp [entryFrame, mkF, argsToLocals, Value.category]; done) | rfl
set_option maxRecDepth 65536 in
set_option maxHeartbeats 40000000 in
theorem rib_5_1 (l : Launch) (Z : State) (a0 : Array Value) (hw : ∀ d ∈ tables_1, d.before a0 Z = true) (aa : Addr) (vs : List Value) (b0 : Int32) (b1 : Int32) (b2 : Int32) (b3 : Int32) (b4 : Int32) (h0 : Heap) (n0 : Nat) (Z0 : n0 ≤ h0.size) (A0 : own_Ar Z h0 aa .byte vs) (hv0 : vs[0]? = some (.int b0)) (hv1 : vs[1]? = some (.int b1)) (hv2 : vs[2]? = some (.int b2)) (hv3 : vs[3]? = some (.int b3)) (hv4 : vs[4]? = some (.int b4)) :
    own_Met l Z (⟨"com/example/needlewise/needlewise/KmpPartialMatchPinLaw", "isBorder", "([BII)Z"⟩ : MethodName) method_6_code 3 (some .boolean) ({ frames := 0, cells := 0, slots := 0, locals := 0 } : Room) #[(.ref aa), (.int (5 : Int32)), (.int (1 : Int32))] h0 n0 (fun v' h' => v' = some (.int (own_i (b0 = b4))) ∧ h' = h0) := by
  refine own_body (plainFor_of_name pn_5) (fun m => ef_rib_5_1 m aa) Z0 ?_
  intro p e s m below meth c T0 cx X0
  show own_Go p e below _ (T0.setTop (mkF m 0 #[.val (.ref aa), .val (.int (5 : Int32)), .val (.int (1 : Int32))] []))
  refine o_iloadN cx X0 d5_0 rfl ?_
  refine o_ifNo cx X0 d5_1 (by decide) ?_
  refine o_aloadN cx X0 d5_4 rfl rfl ?_
  refine o_iconst cx X0 (z := (0 : Int32)) d5_5 rfl ?_
  refine o_ldB cx X0 (v := (.int b0)) d5_6 A0 0 (by decide) rfl hv0 ?_
  refine o_aloadN cx X0 d5_7 rfl rfl ?_
  refine o_iloadN cx X0 d5_8 rfl ?_
  refine o_iloadN cx X0 d5_9 rfl ?_
  refine o_isub cx X0 (z := (4 : Int32)) d5_10 rfl ?_
  refine o_ldB cx X0 (v := (.int b4)) d5_11 A0 4 (by decide) rfl hv4 ?_
  by_cases hc11 : b0 = b4
  · refine o_icmpNo cx X0 d5_12 (teq hc11).2 ?_
    refine o_iloadN cx X0 d5_15 rfl ?_
    refine o_iconst cx X0 (z := (1 : Int32)) d5_16 rfl ?_
    refine o_icmpYes cx X0 33 d5_17 (by decide) (by decide) (by decide) ?_
    refine o_iloadN cx X0 d5_33 rfl ?_
    refine o_iconst cx X0 (z := (2 : Int32)) d5_34 rfl ?_
    refine o_icmpYes cx X0 51 d5_35 (by decide) (by decide) (by decide) ?_
    refine o_iloadN cx X0 d5_51 rfl ?_
    refine o_iconst cx X0 (z := (3 : Int32)) d5_52 rfl ?_
    refine o_icmpYes cx X0 69 d5_53 (by decide) (by decide) (by decide) ?_
    refine o_iloadN cx X0 d5_69 rfl ?_
    refine o_iconst cx X0 (z := (4 : Int32)) d5_70 rfl ?_
    refine o_icmpYes cx X0 87 d5_71 (by decide) (by decide) (by decide) ?_
    refine o_iconst cx X0 (z := (1 : Int32)) d5_87 rfl ?_
    refine o_goto cx X0 92 d5_88 (by decide) (by decide) ?_
    exact o_retN cx X0 (z' := (1 : Int32)) d5_92 (by simp) rfl ⟨congrArg (fun z => some (Value.int z)) (show (1 : Int32) = own_i (b0 = b4) from Eq.symm (own_i1 (by simp [hc11]))), rfl⟩ (by decide) (by decide)
  · refine o_icmpYes cx X0 91 d5_12 (feq hc11).2 (by decide) (by decide) ?_
    refine o_iconst cx X0 (z := (0 : Int32)) d5_91 rfl ?_
    exact o_retN cx X0 (z' := (0 : Int32)) d5_92 (by simp) rfl ⟨congrArg (fun z => some (Value.int z)) (show (0 : Int32) = own_i (b0 = b4) from Eq.symm (own_i0 (by simp [hc11]))), rfl⟩ (by decide) (by decide)
theorem ef_rib_5_2 (m : MethodId) (aa : Addr) : entryFrame m #[(.ref aa), (.int (5 : Int32)), (.int (2 : Int32))] 3 = mkF m 0 #[.val (.ref aa), .val (.int (5 : Int32)), .val (.int (2 : Int32))] [] := by first | (simp [entryFrame, mkF, argsToLocals, Value.category]; done) | rfl
set_option maxRecDepth 65536 in
set_option maxHeartbeats 40000000 in
theorem rib_5_2 (l : Launch) (Z : State) (a0 : Array Value) (hw : ∀ d ∈ tables_1, d.before a0 Z = true) (aa : Addr) (vs : List Value) (b0 : Int32) (b1 : Int32) (b2 : Int32) (b3 : Int32) (b4 : Int32) (h0 : Heap) (n0 : Nat) (Z0 : n0 ≤ h0.size) (A0 : own_Ar Z h0 aa .byte vs) (hv0 : vs[0]? = some (.int b0)) (hv1 : vs[1]? = some (.int b1)) (hv2 : vs[2]? = some (.int b2)) (hv3 : vs[3]? = some (.int b3)) (hv4 : vs[4]? = some (.int b4)) :
    own_Met l Z (⟨"com/example/needlewise/needlewise/KmpPartialMatchPinLaw", "isBorder", "([BII)Z"⟩ : MethodName) method_6_code 3 (some .boolean) ({ frames := 0, cells := 0, slots := 0, locals := 0 } : Room) #[(.ref aa), (.int (5 : Int32)), (.int (2 : Int32))] h0 n0 (fun v' h' => v' = some (.int (own_i (b0 = b3 ∧ b1 = b4))) ∧ h' = h0) := by
  refine own_body (plainFor_of_name pn_5) (fun m => ef_rib_5_2 m aa) Z0 ?_
  intro p e s m below meth c T0 cx X0
  show own_Go p e below _ (T0.setTop (mkF m 0 #[.val (.ref aa), .val (.int (5 : Int32)), .val (.int (2 : Int32))] []))
  refine o_iloadN cx X0 d5_0 rfl ?_
  refine o_ifNo cx X0 d5_1 (by decide) ?_
  refine o_aloadN cx X0 d5_4 rfl rfl ?_
  refine o_iconst cx X0 (z := (0 : Int32)) d5_5 rfl ?_
  refine o_ldB cx X0 (v := (.int b0)) d5_6 A0 0 (by decide) rfl hv0 ?_
  refine o_aloadN cx X0 d5_7 rfl rfl ?_
  refine o_iloadN cx X0 d5_8 rfl ?_
  refine o_iloadN cx X0 d5_9 rfl ?_
  refine o_isub cx X0 (z := (3 : Int32)) d5_10 rfl ?_
  refine o_ldB cx X0 (v := (.int b3)) d5_11 A0 3 (by decide) rfl hv3 ?_
  by_cases hc12 : b0 = b3
  · refine o_icmpNo cx X0 d5_12 (teq hc12).2 ?_
    refine o_iloadN cx X0 d5_15 rfl ?_
    refine o_iconst cx X0 (z := (1 : Int32)) d5_16 rfl ?_
    refine o_icmpNo cx X0 d5_17 (by decide) ?_
    refine o_aloadN cx X0 d5_20 rfl rfl ?_
    refine o_iconst cx X0 (z := (1 : Int32)) d5_21 rfl ?_
    refine o_ldB cx X0 (v := (.int b1)) d5_22 A0 1 (by decide) rfl hv1 ?_
    refine o_aloadN cx X0 d5_23 rfl rfl ?_
    refine o_iloadN cx X0 d5_24 rfl ?_
    refine o_iloadN cx X0 d5_25 rfl ?_
    refine o_isub cx X0 (z := (3 : Int32)) d5_26 rfl ?_
    refine o_iconst cx X0 (z := (1 : Int32)) d5_27 rfl ?_
    refine o_iadd cx X0 (z := (4 : Int32)) d5_28 rfl ?_
    refine o_ldB cx X0 (v := (.int b4)) d5_29 A0 4 (by decide) rfl hv4 ?_
    by_cases hc13 : b1 = b4
    · refine o_icmpNo cx X0 d5_30 (teq hc13).2 ?_
      refine o_iloadN cx X0 d5_33 rfl ?_
      refine o_iconst cx X0 (z := (2 : Int32)) d5_34 rfl ?_
      refine o_icmpYes cx X0 51 d5_35 (by decide) (by decide) (by decide) ?_
      refine o_iloadN cx X0 d5_51 rfl ?_
      refine o_iconst cx X0 (z := (3 : Int32)) d5_52 rfl ?_
      refine o_icmpYes cx X0 69 d5_53 (by decide) (by decide) (by decide) ?_
      refine o_iloadN cx X0 d5_69 rfl ?_
      refine o_iconst cx X0 (z := (4 : Int32)) d5_70 rfl ?_
      refine o_icmpYes cx X0 87 d5_71 (by decide) (by decide) (by decide) ?_
      refine o_iconst cx X0 (z := (1 : Int32)) d5_87 rfl ?_
      refine o_goto cx X0 92 d5_88 (by decide) (by decide) ?_
      exact o_retN cx X0 (z' := (1 : Int32)) d5_92 (by simp) rfl ⟨congrArg (fun z => some (Value.int z)) (show (1 : Int32) = own_i (b0 = b3 ∧ b1 = b4) from Eq.symm (own_i1 (by simp [hc12, hc13]))), rfl⟩ (by decide) (by decide)
    · refine o_icmpYes cx X0 91 d5_30 (feq hc13).2 (by decide) (by decide) ?_
      refine o_iconst cx X0 (z := (0 : Int32)) d5_91 rfl ?_
      exact o_retN cx X0 (z' := (0 : Int32)) d5_92 (by simp) rfl ⟨congrArg (fun z => some (Value.int z)) (show (0 : Int32) = own_i (b0 = b3 ∧ b1 = b4) from Eq.symm (own_i0 (by simp [hc12, hc13]))), rfl⟩ (by decide) (by decide)
  · refine o_icmpYes cx X0 91 d5_12 (feq hc12).2 (by decide) (by decide) ?_
    refine o_iconst cx X0 (z := (0 : Int32)) d5_91 rfl ?_
    exact o_retN cx X0 (z' := (0 : Int32)) d5_92 (by simp) rfl ⟨congrArg (fun z => some (Value.int z)) (show (0 : Int32) = own_i (b0 = b3 ∧ b1 = b4) from Eq.symm (own_i0 (by simp [hc12]))), rfl⟩ (by decide) (by decide)
theorem ef_rib_5_3 (m : MethodId) (aa : Addr) : entryFrame m #[(.ref aa), (.int (5 : Int32)), (.int (3 : Int32))] 3 = mkF m 0 #[.val (.ref aa), .val (.int (5 : Int32)), .val (.int (3 : Int32))] [] := by first | (simp [entryFrame, mkF, argsToLocals, Value.category]; done) | rfl
set_option maxRecDepth 65536 in
set_option maxHeartbeats 40000000 in
theorem rib_5_3 (l : Launch) (Z : State) (a0 : Array Value) (hw : ∀ d ∈ tables_1, d.before a0 Z = true) (aa : Addr) (vs : List Value) (b0 : Int32) (b1 : Int32) (b2 : Int32) (b3 : Int32) (b4 : Int32) (h0 : Heap) (n0 : Nat) (Z0 : n0 ≤ h0.size) (A0 : own_Ar Z h0 aa .byte vs) (hv0 : vs[0]? = some (.int b0)) (hv1 : vs[1]? = some (.int b1)) (hv2 : vs[2]? = some (.int b2)) (hv3 : vs[3]? = some (.int b3)) (hv4 : vs[4]? = some (.int b4)) :
    own_Met l Z (⟨"com/example/needlewise/needlewise/KmpPartialMatchPinLaw", "isBorder", "([BII)Z"⟩ : MethodName) method_6_code 3 (some .boolean) ({ frames := 0, cells := 0, slots := 0, locals := 0 } : Room) #[(.ref aa), (.int (5 : Int32)), (.int (3 : Int32))] h0 n0 (fun v' h' => v' = some (.int (own_i (b0 = b2 ∧ b1 = b3 ∧ b2 = b4))) ∧ h' = h0) := by
  refine own_body (plainFor_of_name pn_5) (fun m => ef_rib_5_3 m aa) Z0 ?_
  intro p e s m below meth c T0 cx X0
  show own_Go p e below _ (T0.setTop (mkF m 0 #[.val (.ref aa), .val (.int (5 : Int32)), .val (.int (3 : Int32))] []))
  refine o_iloadN cx X0 d5_0 rfl ?_
  refine o_ifNo cx X0 d5_1 (by decide) ?_
  refine o_aloadN cx X0 d5_4 rfl rfl ?_
  refine o_iconst cx X0 (z := (0 : Int32)) d5_5 rfl ?_
  refine o_ldB cx X0 (v := (.int b0)) d5_6 A0 0 (by decide) rfl hv0 ?_
  refine o_aloadN cx X0 d5_7 rfl rfl ?_
  refine o_iloadN cx X0 d5_8 rfl ?_
  refine o_iloadN cx X0 d5_9 rfl ?_
  refine o_isub cx X0 (z := (2 : Int32)) d5_10 rfl ?_
  refine o_ldB cx X0 (v := (.int b2)) d5_11 A0 2 (by decide) rfl hv2 ?_
  by_cases hc14 : b0 = b2
  · refine o_icmpNo cx X0 d5_12 (teq hc14).2 ?_
    refine o_iloadN cx X0 d5_15 rfl ?_
    refine o_iconst cx X0 (z := (1 : Int32)) d5_16 rfl ?_
    refine o_icmpNo cx X0 d5_17 (by decide) ?_
    refine o_aloadN cx X0 d5_20 rfl rfl ?_
    refine o_iconst cx X0 (z := (1 : Int32)) d5_21 rfl ?_
    refine o_ldB cx X0 (v := (.int b1)) d5_22 A0 1 (by decide) rfl hv1 ?_
    refine o_aloadN cx X0 d5_23 rfl rfl ?_
    refine o_iloadN cx X0 d5_24 rfl ?_
    refine o_iloadN cx X0 d5_25 rfl ?_
    refine o_isub cx X0 (z := (2 : Int32)) d5_26 rfl ?_
    refine o_iconst cx X0 (z := (1 : Int32)) d5_27 rfl ?_
    refine o_iadd cx X0 (z := (3 : Int32)) d5_28 rfl ?_
    refine o_ldB cx X0 (v := (.int b3)) d5_29 A0 3 (by decide) rfl hv3 ?_
    by_cases hc15 : b1 = b3
    · refine o_icmpNo cx X0 d5_30 (teq hc15).2 ?_
      refine o_iloadN cx X0 d5_33 rfl ?_
      refine o_iconst cx X0 (z := (2 : Int32)) d5_34 rfl ?_
      refine o_icmpNo cx X0 d5_35 (by decide) ?_
      refine o_aloadN cx X0 d5_38 rfl rfl ?_
      refine o_iconst cx X0 (z := (2 : Int32)) d5_39 rfl ?_
      refine o_ldB cx X0 (v := (.int b2)) d5_40 A0 2 (by decide) rfl hv2 ?_
      refine o_aloadN cx X0 d5_41 rfl rfl ?_
      refine o_iloadN cx X0 d5_42 rfl ?_
      refine o_iloadN cx X0 d5_43 rfl ?_
      refine o_isub cx X0 (z := (2 : Int32)) d5_44 rfl ?_
      refine o_iconst cx X0 (z := (2 : Int32)) d5_45 rfl ?_
      refine o_iadd cx X0 (z := (4 : Int32)) d5_46 rfl ?_
      refine o_ldB cx X0 (v := (.int b4)) d5_47 A0 4 (by decide) rfl hv4 ?_
      by_cases hc16 : b2 = b4
      · refine o_icmpNo cx X0 d5_48 (teq hc16).2 ?_
        refine o_iloadN cx X0 d5_51 rfl ?_
        refine o_iconst cx X0 (z := (3 : Int32)) d5_52 rfl ?_
        refine o_icmpYes cx X0 69 d5_53 (by decide) (by decide) (by decide) ?_
        refine o_iloadN cx X0 d5_69 rfl ?_
        refine o_iconst cx X0 (z := (4 : Int32)) d5_70 rfl ?_
        refine o_icmpYes cx X0 87 d5_71 (by decide) (by decide) (by decide) ?_
        refine o_iconst cx X0 (z := (1 : Int32)) d5_87 rfl ?_
        refine o_goto cx X0 92 d5_88 (by decide) (by decide) ?_
        exact o_retN cx X0 (z' := (1 : Int32)) d5_92 (by simp) rfl ⟨congrArg (fun z => some (Value.int z)) (show (1 : Int32) = own_i (b0 = b2 ∧ b1 = b3 ∧ b2 = b4) from Eq.symm (own_i1 (by simp [hc14, hc15, hc16]))), rfl⟩ (by decide) (by decide)
      · refine o_icmpYes cx X0 91 d5_48 (feq hc16).2 (by decide) (by decide) ?_
        refine o_iconst cx X0 (z := (0 : Int32)) d5_91 rfl ?_
        exact o_retN cx X0 (z' := (0 : Int32)) d5_92 (by simp) rfl ⟨congrArg (fun z => some (Value.int z)) (show (0 : Int32) = own_i (b0 = b2 ∧ b1 = b3 ∧ b2 = b4) from Eq.symm (own_i0 (by simp [hc14, hc15, hc16]))), rfl⟩ (by decide) (by decide)
    · refine o_icmpYes cx X0 91 d5_30 (feq hc15).2 (by decide) (by decide) ?_
      refine o_iconst cx X0 (z := (0 : Int32)) d5_91 rfl ?_
      exact o_retN cx X0 (z' := (0 : Int32)) d5_92 (by simp) rfl ⟨congrArg (fun z => some (Value.int z)) (show (0 : Int32) = own_i (b0 = b2 ∧ b1 = b3 ∧ b2 = b4) from Eq.symm (own_i0 (by simp [hc14, hc15]))), rfl⟩ (by decide) (by decide)
  · refine o_icmpYes cx X0 91 d5_12 (feq hc14).2 (by decide) (by decide) ?_
    refine o_iconst cx X0 (z := (0 : Int32)) d5_91 rfl ?_
    exact o_retN cx X0 (z' := (0 : Int32)) d5_92 (by simp) rfl ⟨congrArg (fun z => some (Value.int z)) (show (0 : Int32) = own_i (b0 = b2 ∧ b1 = b3 ∧ b2 = b4) from Eq.symm (own_i0 (by simp [hc14]))), rfl⟩ (by decide) (by decide)
theorem d5_56 : decode method_6_code 56 = .ok (.aload_n 0, 1) := by decide +kernel
theorem d5_57 : decode method_6_code 57 = .ok (.iconst 3, 1) := by decide +kernel
theorem d5_58 : decode method_6_code 58 = .ok (.baload, 1) := by decide +kernel
theorem d5_59 : decode method_6_code 59 = .ok (.aload_n 0, 1) := by decide +kernel
theorem d5_60 : decode method_6_code 60 = .ok (.iload_n 1, 1) := by decide +kernel
theorem d5_61 : decode method_6_code 61 = .ok (.iload_n 2, 1) := by decide +kernel
theorem d5_62 : decode method_6_code 62 = .ok (.isub, 1) := by decide +kernel
theorem d5_63 : decode method_6_code 63 = .ok (.iconst 3, 1) := by decide +kernel
theorem d5_64 : decode method_6_code 64 = .ok (.iadd, 1) := by decide +kernel
theorem d5_65 : decode method_6_code 65 = .ok (.baload, 1) := by decide +kernel
theorem d5_66 : decode method_6_code 66 = .ok (.if_icmp .ne 25, 3) := by decide +kernel
theorem ef_rib_5_4 (m : MethodId) (aa : Addr) : entryFrame m #[(.ref aa), (.int (5 : Int32)), (.int (4 : Int32))] 3 = mkF m 0 #[.val (.ref aa), .val (.int (5 : Int32)), .val (.int (4 : Int32))] [] := by first | (simp [entryFrame, mkF, argsToLocals, Value.category]; done) | rfl
set_option maxRecDepth 65536 in
set_option maxHeartbeats 40000000 in
theorem rib_5_4 (l : Launch) (Z : State) (a0 : Array Value) (hw : ∀ d ∈ tables_1, d.before a0 Z = true) (aa : Addr) (vs : List Value) (b0 : Int32) (b1 : Int32) (b2 : Int32) (b3 : Int32) (b4 : Int32) (h0 : Heap) (n0 : Nat) (Z0 : n0 ≤ h0.size) (A0 : own_Ar Z h0 aa .byte vs) (hv0 : vs[0]? = some (.int b0)) (hv1 : vs[1]? = some (.int b1)) (hv2 : vs[2]? = some (.int b2)) (hv3 : vs[3]? = some (.int b3)) (hv4 : vs[4]? = some (.int b4)) :
    own_Met l Z (⟨"com/example/needlewise/needlewise/KmpPartialMatchPinLaw", "isBorder", "([BII)Z"⟩ : MethodName) method_6_code 3 (some .boolean) ({ frames := 0, cells := 0, slots := 0, locals := 0 } : Room) #[(.ref aa), (.int (5 : Int32)), (.int (4 : Int32))] h0 n0 (fun v' h' => v' = some (.int (own_i (b0 = b1 ∧ b1 = b2 ∧ b2 = b3 ∧ b3 = b4))) ∧ h' = h0) := by
  refine own_body (plainFor_of_name pn_5) (fun m => ef_rib_5_4 m aa) Z0 ?_
  intro p e s m below meth c T0 cx X0
  show own_Go p e below _ (T0.setTop (mkF m 0 #[.val (.ref aa), .val (.int (5 : Int32)), .val (.int (4 : Int32))] []))
  refine o_iloadN cx X0 d5_0 rfl ?_
  refine o_ifNo cx X0 d5_1 (by decide) ?_
  refine o_aloadN cx X0 d5_4 rfl rfl ?_
  refine o_iconst cx X0 (z := (0 : Int32)) d5_5 rfl ?_
  refine o_ldB cx X0 (v := (.int b0)) d5_6 A0 0 (by decide) rfl hv0 ?_
  refine o_aloadN cx X0 d5_7 rfl rfl ?_
  refine o_iloadN cx X0 d5_8 rfl ?_
  refine o_iloadN cx X0 d5_9 rfl ?_
  refine o_isub cx X0 (z := (1 : Int32)) d5_10 rfl ?_
  refine o_ldB cx X0 (v := (.int b1)) d5_11 A0 1 (by decide) rfl hv1 ?_
  by_cases hc17 : b0 = b1
  · refine o_icmpNo cx X0 d5_12 (teq hc17).2 ?_
    refine o_iloadN cx X0 d5_15 rfl ?_
    refine o_iconst cx X0 (z := (1 : Int32)) d5_16 rfl ?_
    refine o_icmpNo cx X0 d5_17 (by decide) ?_
    refine o_aloadN cx X0 d5_20 rfl rfl ?_
    refine o_iconst cx X0 (z := (1 : Int32)) d5_21 rfl ?_
    refine o_ldB cx X0 (v := (.int b1)) d5_22 A0 1 (by decide) rfl hv1 ?_
    refine o_aloadN cx X0 d5_23 rfl rfl ?_
    refine o_iloadN cx X0 d5_24 rfl ?_
    refine o_iloadN cx X0 d5_25 rfl ?_
    refine o_isub cx X0 (z := (1 : Int32)) d5_26 rfl ?_
    refine o_iconst cx X0 (z := (1 : Int32)) d5_27 rfl ?_
    refine o_iadd cx X0 (z := (2 : Int32)) d5_28 rfl ?_
    refine o_ldB cx X0 (v := (.int b2)) d5_29 A0 2 (by decide) rfl hv2 ?_
    by_cases hc18 : b1 = b2
    · refine o_icmpNo cx X0 d5_30 (teq hc18).2 ?_
      refine o_iloadN cx X0 d5_33 rfl ?_
      refine o_iconst cx X0 (z := (2 : Int32)) d5_34 rfl ?_
      refine o_icmpNo cx X0 d5_35 (by decide) ?_
      refine o_aloadN cx X0 d5_38 rfl rfl ?_
      refine o_iconst cx X0 (z := (2 : Int32)) d5_39 rfl ?_
      refine o_ldB cx X0 (v := (.int b2)) d5_40 A0 2 (by decide) rfl hv2 ?_
      refine o_aloadN cx X0 d5_41 rfl rfl ?_
      refine o_iloadN cx X0 d5_42 rfl ?_
      refine o_iloadN cx X0 d5_43 rfl ?_
      refine o_isub cx X0 (z := (1 : Int32)) d5_44 rfl ?_
      refine o_iconst cx X0 (z := (2 : Int32)) d5_45 rfl ?_
      refine o_iadd cx X0 (z := (3 : Int32)) d5_46 rfl ?_
      refine o_ldB cx X0 (v := (.int b3)) d5_47 A0 3 (by decide) rfl hv3 ?_
      by_cases hc19 : b2 = b3
      · refine o_icmpNo cx X0 d5_48 (teq hc19).2 ?_
        refine o_iloadN cx X0 d5_51 rfl ?_
        refine o_iconst cx X0 (z := (3 : Int32)) d5_52 rfl ?_
        refine o_icmpNo cx X0 d5_53 (by decide) ?_
        refine o_aloadN cx X0 d5_56 rfl rfl ?_
        refine o_iconst cx X0 (z := (3 : Int32)) d5_57 rfl ?_
        refine o_ldB cx X0 (v := (.int b3)) d5_58 A0 3 (by decide) rfl hv3 ?_
        refine o_aloadN cx X0 d5_59 rfl rfl ?_
        refine o_iloadN cx X0 d5_60 rfl ?_
        refine o_iloadN cx X0 d5_61 rfl ?_
        refine o_isub cx X0 (z := (1 : Int32)) d5_62 rfl ?_
        refine o_iconst cx X0 (z := (3 : Int32)) d5_63 rfl ?_
        refine o_iadd cx X0 (z := (4 : Int32)) d5_64 rfl ?_
        refine o_ldB cx X0 (v := (.int b4)) d5_65 A0 4 (by decide) rfl hv4 ?_
        by_cases hc20 : b3 = b4
        · refine o_icmpNo cx X0 d5_66 (teq hc20).2 ?_
          refine o_iloadN cx X0 d5_69 rfl ?_
          refine o_iconst cx X0 (z := (4 : Int32)) d5_70 rfl ?_
          refine o_icmpYes cx X0 87 d5_71 (by decide) (by decide) (by decide) ?_
          refine o_iconst cx X0 (z := (1 : Int32)) d5_87 rfl ?_
          refine o_goto cx X0 92 d5_88 (by decide) (by decide) ?_
          exact o_retN cx X0 (z' := (1 : Int32)) d5_92 (by simp) rfl ⟨congrArg (fun z => some (Value.int z)) (show (1 : Int32) = own_i (b0 = b1 ∧ b1 = b2 ∧ b2 = b3 ∧ b3 = b4) from Eq.symm (own_i1 (by simp [hc17, hc18, hc19, hc20]))), rfl⟩ (by decide) (by decide)
        · refine o_icmpYes cx X0 91 d5_66 (feq hc20).2 (by decide) (by decide) ?_
          refine o_iconst cx X0 (z := (0 : Int32)) d5_91 rfl ?_
          exact o_retN cx X0 (z' := (0 : Int32)) d5_92 (by simp) rfl ⟨congrArg (fun z => some (Value.int z)) (show (0 : Int32) = own_i (b0 = b1 ∧ b1 = b2 ∧ b2 = b3 ∧ b3 = b4) from Eq.symm (own_i0 (by simp [hc17, hc18, hc19, hc20]))), rfl⟩ (by decide) (by decide)
      · refine o_icmpYes cx X0 91 d5_48 (feq hc19).2 (by decide) (by decide) ?_
        refine o_iconst cx X0 (z := (0 : Int32)) d5_91 rfl ?_
        exact o_retN cx X0 (z' := (0 : Int32)) d5_92 (by simp) rfl ⟨congrArg (fun z => some (Value.int z)) (show (0 : Int32) = own_i (b0 = b1 ∧ b1 = b2 ∧ b2 = b3 ∧ b3 = b4) from Eq.symm (own_i0 (by simp [hc17, hc18, hc19]))), rfl⟩ (by decide) (by decide)
    · refine o_icmpYes cx X0 91 d5_30 (feq hc18).2 (by decide) (by decide) ?_
      refine o_iconst cx X0 (z := (0 : Int32)) d5_91 rfl ?_
      exact o_retN cx X0 (z' := (0 : Int32)) d5_92 (by simp) rfl ⟨congrArg (fun z => some (Value.int z)) (show (0 : Int32) = own_i (b0 = b1 ∧ b1 = b2 ∧ b2 = b3 ∧ b3 = b4) from Eq.symm (own_i0 (by simp [hc17, hc18]))), rfl⟩ (by decide) (by decide)
  · refine o_icmpYes cx X0 91 d5_12 (feq hc17).2 (by decide) (by decide) ?_
    refine o_iconst cx X0 (z := (0 : Int32)) d5_91 rfl ?_
    exact o_retN cx X0 (z' := (0 : Int32)) d5_92 (by simp) rfl ⟨congrArg (fun z => some (Value.int z)) (show (0 : Int32) = own_i (b0 = b1 ∧ b1 = b2 ∧ b2 = b3 ∧ b3 = b4) from Eq.symm (own_i0 (by simp [hc17]))), rfl⟩ (by decide) (by decide)
theorem ef_rib_6_1 (m : MethodId) (aa : Addr) : entryFrame m #[(.ref aa), (.int (6 : Int32)), (.int (1 : Int32))] 3 = mkF m 0 #[.val (.ref aa), .val (.int (6 : Int32)), .val (.int (1 : Int32))] [] := by first | (simp [entryFrame, mkF, argsToLocals, Value.category]; done) | rfl
set_option maxRecDepth 65536 in
set_option maxHeartbeats 40000000 in
theorem rib_6_1 (l : Launch) (Z : State) (a0 : Array Value) (hw : ∀ d ∈ tables_1, d.before a0 Z = true) (aa : Addr) (vs : List Value) (b0 : Int32) (b1 : Int32) (b2 : Int32) (b3 : Int32) (b4 : Int32) (b5 : Int32) (h0 : Heap) (n0 : Nat) (Z0 : n0 ≤ h0.size) (A0 : own_Ar Z h0 aa .byte vs) (hv0 : vs[0]? = some (.int b0)) (hv1 : vs[1]? = some (.int b1)) (hv2 : vs[2]? = some (.int b2)) (hv3 : vs[3]? = some (.int b3)) (hv4 : vs[4]? = some (.int b4)) (hv5 : vs[5]? = some (.int b5)) :
    own_Met l Z (⟨"com/example/needlewise/needlewise/KmpPartialMatchPinLaw", "isBorder", "([BII)Z"⟩ : MethodName) method_6_code 3 (some .boolean) ({ frames := 0, cells := 0, slots := 0, locals := 0 } : Room) #[(.ref aa), (.int (6 : Int32)), (.int (1 : Int32))] h0 n0 (fun v' h' => v' = some (.int (own_i (b0 = b5))) ∧ h' = h0) := by
  refine own_body (plainFor_of_name pn_5) (fun m => ef_rib_6_1 m aa) Z0 ?_
  intro p e s m below meth c T0 cx X0
  show own_Go p e below _ (T0.setTop (mkF m 0 #[.val (.ref aa), .val (.int (6 : Int32)), .val (.int (1 : Int32))] []))
  refine o_iloadN cx X0 d5_0 rfl ?_
  refine o_ifNo cx X0 d5_1 (by decide) ?_
  refine o_aloadN cx X0 d5_4 rfl rfl ?_
  refine o_iconst cx X0 (z := (0 : Int32)) d5_5 rfl ?_
  refine o_ldB cx X0 (v := (.int b0)) d5_6 A0 0 (by decide) rfl hv0 ?_
  refine o_aloadN cx X0 d5_7 rfl rfl ?_
  refine o_iloadN cx X0 d5_8 rfl ?_
  refine o_iloadN cx X0 d5_9 rfl ?_
  refine o_isub cx X0 (z := (5 : Int32)) d5_10 rfl ?_
  refine o_ldB cx X0 (v := (.int b5)) d5_11 A0 5 (by decide) rfl hv5 ?_
  by_cases hc21 : b0 = b5
  · refine o_icmpNo cx X0 d5_12 (teq hc21).2 ?_
    refine o_iloadN cx X0 d5_15 rfl ?_
    refine o_iconst cx X0 (z := (1 : Int32)) d5_16 rfl ?_
    refine o_icmpYes cx X0 33 d5_17 (by decide) (by decide) (by decide) ?_
    refine o_iloadN cx X0 d5_33 rfl ?_
    refine o_iconst cx X0 (z := (2 : Int32)) d5_34 rfl ?_
    refine o_icmpYes cx X0 51 d5_35 (by decide) (by decide) (by decide) ?_
    refine o_iloadN cx X0 d5_51 rfl ?_
    refine o_iconst cx X0 (z := (3 : Int32)) d5_52 rfl ?_
    refine o_icmpYes cx X0 69 d5_53 (by decide) (by decide) (by decide) ?_
    refine o_iloadN cx X0 d5_69 rfl ?_
    refine o_iconst cx X0 (z := (4 : Int32)) d5_70 rfl ?_
    refine o_icmpYes cx X0 87 d5_71 (by decide) (by decide) (by decide) ?_
    refine o_iconst cx X0 (z := (1 : Int32)) d5_87 rfl ?_
    refine o_goto cx X0 92 d5_88 (by decide) (by decide) ?_
    exact o_retN cx X0 (z' := (1 : Int32)) d5_92 (by simp) rfl ⟨congrArg (fun z => some (Value.int z)) (show (1 : Int32) = own_i (b0 = b5) from Eq.symm (own_i1 (by simp [hc21]))), rfl⟩ (by decide) (by decide)
  · refine o_icmpYes cx X0 91 d5_12 (feq hc21).2 (by decide) (by decide) ?_
    refine o_iconst cx X0 (z := (0 : Int32)) d5_91 rfl ?_
    exact o_retN cx X0 (z' := (0 : Int32)) d5_92 (by simp) rfl ⟨congrArg (fun z => some (Value.int z)) (show (0 : Int32) = own_i (b0 = b5) from Eq.symm (own_i0 (by simp [hc21]))), rfl⟩ (by decide) (by decide)
theorem ef_rib_6_2 (m : MethodId) (aa : Addr) : entryFrame m #[(.ref aa), (.int (6 : Int32)), (.int (2 : Int32))] 3 = mkF m 0 #[.val (.ref aa), .val (.int (6 : Int32)), .val (.int (2 : Int32))] [] := by first | (simp [entryFrame, mkF, argsToLocals, Value.category]; done) | rfl
set_option maxRecDepth 65536 in
set_option maxHeartbeats 40000000 in
theorem rib_6_2 (l : Launch) (Z : State) (a0 : Array Value) (hw : ∀ d ∈ tables_1, d.before a0 Z = true) (aa : Addr) (vs : List Value) (b0 : Int32) (b1 : Int32) (b2 : Int32) (b3 : Int32) (b4 : Int32) (b5 : Int32) (h0 : Heap) (n0 : Nat) (Z0 : n0 ≤ h0.size) (A0 : own_Ar Z h0 aa .byte vs) (hv0 : vs[0]? = some (.int b0)) (hv1 : vs[1]? = some (.int b1)) (hv2 : vs[2]? = some (.int b2)) (hv3 : vs[3]? = some (.int b3)) (hv4 : vs[4]? = some (.int b4)) (hv5 : vs[5]? = some (.int b5)) :
    own_Met l Z (⟨"com/example/needlewise/needlewise/KmpPartialMatchPinLaw", "isBorder", "([BII)Z"⟩ : MethodName) method_6_code 3 (some .boolean) ({ frames := 0, cells := 0, slots := 0, locals := 0 } : Room) #[(.ref aa), (.int (6 : Int32)), (.int (2 : Int32))] h0 n0 (fun v' h' => v' = some (.int (own_i (b0 = b4 ∧ b1 = b5))) ∧ h' = h0) := by
  refine own_body (plainFor_of_name pn_5) (fun m => ef_rib_6_2 m aa) Z0 ?_
  intro p e s m below meth c T0 cx X0
  show own_Go p e below _ (T0.setTop (mkF m 0 #[.val (.ref aa), .val (.int (6 : Int32)), .val (.int (2 : Int32))] []))
  refine o_iloadN cx X0 d5_0 rfl ?_
  refine o_ifNo cx X0 d5_1 (by decide) ?_
  refine o_aloadN cx X0 d5_4 rfl rfl ?_
  refine o_iconst cx X0 (z := (0 : Int32)) d5_5 rfl ?_
  refine o_ldB cx X0 (v := (.int b0)) d5_6 A0 0 (by decide) rfl hv0 ?_
  refine o_aloadN cx X0 d5_7 rfl rfl ?_
  refine o_iloadN cx X0 d5_8 rfl ?_
  refine o_iloadN cx X0 d5_9 rfl ?_
  refine o_isub cx X0 (z := (4 : Int32)) d5_10 rfl ?_
  refine o_ldB cx X0 (v := (.int b4)) d5_11 A0 4 (by decide) rfl hv4 ?_
  by_cases hc22 : b0 = b4
  · refine o_icmpNo cx X0 d5_12 (teq hc22).2 ?_
    refine o_iloadN cx X0 d5_15 rfl ?_
    refine o_iconst cx X0 (z := (1 : Int32)) d5_16 rfl ?_
    refine o_icmpNo cx X0 d5_17 (by decide) ?_
    refine o_aloadN cx X0 d5_20 rfl rfl ?_
    refine o_iconst cx X0 (z := (1 : Int32)) d5_21 rfl ?_
    refine o_ldB cx X0 (v := (.int b1)) d5_22 A0 1 (by decide) rfl hv1 ?_
    refine o_aloadN cx X0 d5_23 rfl rfl ?_
    refine o_iloadN cx X0 d5_24 rfl ?_
    refine o_iloadN cx X0 d5_25 rfl ?_
    refine o_isub cx X0 (z := (4 : Int32)) d5_26 rfl ?_
    refine o_iconst cx X0 (z := (1 : Int32)) d5_27 rfl ?_
    refine o_iadd cx X0 (z := (5 : Int32)) d5_28 rfl ?_
    refine o_ldB cx X0 (v := (.int b5)) d5_29 A0 5 (by decide) rfl hv5 ?_
    by_cases hc23 : b1 = b5
    · refine o_icmpNo cx X0 d5_30 (teq hc23).2 ?_
      refine o_iloadN cx X0 d5_33 rfl ?_
      refine o_iconst cx X0 (z := (2 : Int32)) d5_34 rfl ?_
      refine o_icmpYes cx X0 51 d5_35 (by decide) (by decide) (by decide) ?_
      refine o_iloadN cx X0 d5_51 rfl ?_
      refine o_iconst cx X0 (z := (3 : Int32)) d5_52 rfl ?_
      refine o_icmpYes cx X0 69 d5_53 (by decide) (by decide) (by decide) ?_
      refine o_iloadN cx X0 d5_69 rfl ?_
      refine o_iconst cx X0 (z := (4 : Int32)) d5_70 rfl ?_
      refine o_icmpYes cx X0 87 d5_71 (by decide) (by decide) (by decide) ?_
      refine o_iconst cx X0 (z := (1 : Int32)) d5_87 rfl ?_
      refine o_goto cx X0 92 d5_88 (by decide) (by decide) ?_
      exact o_retN cx X0 (z' := (1 : Int32)) d5_92 (by simp) rfl ⟨congrArg (fun z => some (Value.int z)) (show (1 : Int32) = own_i (b0 = b4 ∧ b1 = b5) from Eq.symm (own_i1 (by simp [hc22, hc23]))), rfl⟩ (by decide) (by decide)
    · refine o_icmpYes cx X0 91 d5_30 (feq hc23).2 (by decide) (by decide) ?_
      refine o_iconst cx X0 (z := (0 : Int32)) d5_91 rfl ?_
      exact o_retN cx X0 (z' := (0 : Int32)) d5_92 (by simp) rfl ⟨congrArg (fun z => some (Value.int z)) (show (0 : Int32) = own_i (b0 = b4 ∧ b1 = b5) from Eq.symm (own_i0 (by simp [hc22, hc23]))), rfl⟩ (by decide) (by decide)
  · refine o_icmpYes cx X0 91 d5_12 (feq hc22).2 (by decide) (by decide) ?_
    refine o_iconst cx X0 (z := (0 : Int32)) d5_91 rfl ?_
    exact o_retN cx X0 (z' := (0 : Int32)) d5_92 (by simp) rfl ⟨congrArg (fun z => some (Value.int z)) (show (0 : Int32) = own_i (b0 = b4 ∧ b1 = b5) from Eq.symm (own_i0 (by simp [hc22]))), rfl⟩ (by decide) (by decide)
theorem ef_rib_6_3 (m : MethodId) (aa : Addr) : entryFrame m #[(.ref aa), (.int (6 : Int32)), (.int (3 : Int32))] 3 = mkF m 0 #[.val (.ref aa), .val (.int (6 : Int32)), .val (.int (3 : Int32))] [] := by first | (simp [entryFrame, mkF, argsToLocals, Value.category]; done) | rfl
set_option maxRecDepth 65536 in
set_option maxHeartbeats 40000000 in
theorem rib_6_3 (l : Launch) (Z : State) (a0 : Array Value) (hw : ∀ d ∈ tables_1, d.before a0 Z = true) (aa : Addr) (vs : List Value) (b0 : Int32) (b1 : Int32) (b2 : Int32) (b3 : Int32) (b4 : Int32) (b5 : Int32) (h0 : Heap) (n0 : Nat) (Z0 : n0 ≤ h0.size) (A0 : own_Ar Z h0 aa .byte vs) (hv0 : vs[0]? = some (.int b0)) (hv1 : vs[1]? = some (.int b1)) (hv2 : vs[2]? = some (.int b2)) (hv3 : vs[3]? = some (.int b3)) (hv4 : vs[4]? = some (.int b4)) (hv5 : vs[5]? = some (.int b5)) :
    own_Met l Z (⟨"com/example/needlewise/needlewise/KmpPartialMatchPinLaw", "isBorder", "([BII)Z"⟩ : MethodName) method_6_code 3 (some .boolean) ({ frames := 0, cells := 0, slots := 0, locals := 0 } : Room) #[(.ref aa), (.int (6 : Int32)), (.int (3 : Int32))] h0 n0 (fun v' h' => v' = some (.int (own_i (b0 = b3 ∧ b1 = b4 ∧ b2 = b5))) ∧ h' = h0) := by
  refine own_body (plainFor_of_name pn_5) (fun m => ef_rib_6_3 m aa) Z0 ?_
  intro p e s m below meth c T0 cx X0
  show own_Go p e below _ (T0.setTop (mkF m 0 #[.val (.ref aa), .val (.int (6 : Int32)), .val (.int (3 : Int32))] []))
  refine o_iloadN cx X0 d5_0 rfl ?_
  refine o_ifNo cx X0 d5_1 (by decide) ?_
  refine o_aloadN cx X0 d5_4 rfl rfl ?_
  refine o_iconst cx X0 (z := (0 : Int32)) d5_5 rfl ?_
  refine o_ldB cx X0 (v := (.int b0)) d5_6 A0 0 (by decide) rfl hv0 ?_
  refine o_aloadN cx X0 d5_7 rfl rfl ?_
  refine o_iloadN cx X0 d5_8 rfl ?_
  refine o_iloadN cx X0 d5_9 rfl ?_
  refine o_isub cx X0 (z := (3 : Int32)) d5_10 rfl ?_
  refine o_ldB cx X0 (v := (.int b3)) d5_11 A0 3 (by decide) rfl hv3 ?_
  by_cases hc24 : b0 = b3
  · refine o_icmpNo cx X0 d5_12 (teq hc24).2 ?_
    refine o_iloadN cx X0 d5_15 rfl ?_
    refine o_iconst cx X0 (z := (1 : Int32)) d5_16 rfl ?_
    refine o_icmpNo cx X0 d5_17 (by decide) ?_
    refine o_aloadN cx X0 d5_20 rfl rfl ?_
    refine o_iconst cx X0 (z := (1 : Int32)) d5_21 rfl ?_
    refine o_ldB cx X0 (v := (.int b1)) d5_22 A0 1 (by decide) rfl hv1 ?_
    refine o_aloadN cx X0 d5_23 rfl rfl ?_
    refine o_iloadN cx X0 d5_24 rfl ?_
    refine o_iloadN cx X0 d5_25 rfl ?_
    refine o_isub cx X0 (z := (3 : Int32)) d5_26 rfl ?_
    refine o_iconst cx X0 (z := (1 : Int32)) d5_27 rfl ?_
    refine o_iadd cx X0 (z := (4 : Int32)) d5_28 rfl ?_
    refine o_ldB cx X0 (v := (.int b4)) d5_29 A0 4 (by decide) rfl hv4 ?_
    by_cases hc25 : b1 = b4
    · refine o_icmpNo cx X0 d5_30 (teq hc25).2 ?_
      refine o_iloadN cx X0 d5_33 rfl ?_
      refine o_iconst cx X0 (z := (2 : Int32)) d5_34 rfl ?_
      refine o_icmpNo cx X0 d5_35 (by decide) ?_
      refine o_aloadN cx X0 d5_38 rfl rfl ?_
      refine o_iconst cx X0 (z := (2 : Int32)) d5_39 rfl ?_
      refine o_ldB cx X0 (v := (.int b2)) d5_40 A0 2 (by decide) rfl hv2 ?_
      refine o_aloadN cx X0 d5_41 rfl rfl ?_
      refine o_iloadN cx X0 d5_42 rfl ?_
      refine o_iloadN cx X0 d5_43 rfl ?_
      refine o_isub cx X0 (z := (3 : Int32)) d5_44 rfl ?_
      refine o_iconst cx X0 (z := (2 : Int32)) d5_45 rfl ?_
      refine o_iadd cx X0 (z := (5 : Int32)) d5_46 rfl ?_
      refine o_ldB cx X0 (v := (.int b5)) d5_47 A0 5 (by decide) rfl hv5 ?_
      by_cases hc26 : b2 = b5
      · refine o_icmpNo cx X0 d5_48 (teq hc26).2 ?_
        refine o_iloadN cx X0 d5_51 rfl ?_
        refine o_iconst cx X0 (z := (3 : Int32)) d5_52 rfl ?_
        refine o_icmpYes cx X0 69 d5_53 (by decide) (by decide) (by decide) ?_
        refine o_iloadN cx X0 d5_69 rfl ?_
        refine o_iconst cx X0 (z := (4 : Int32)) d5_70 rfl ?_
        refine o_icmpYes cx X0 87 d5_71 (by decide) (by decide) (by decide) ?_
        refine o_iconst cx X0 (z := (1 : Int32)) d5_87 rfl ?_
        refine o_goto cx X0 92 d5_88 (by decide) (by decide) ?_
        exact o_retN cx X0 (z' := (1 : Int32)) d5_92 (by simp) rfl ⟨congrArg (fun z => some (Value.int z)) (show (1 : Int32) = own_i (b0 = b3 ∧ b1 = b4 ∧ b2 = b5) from Eq.symm (own_i1 (by simp [hc24, hc25, hc26]))), rfl⟩ (by decide) (by decide)
      · refine o_icmpYes cx X0 91 d5_48 (feq hc26).2 (by decide) (by decide) ?_
        refine o_iconst cx X0 (z := (0 : Int32)) d5_91 rfl ?_
        exact o_retN cx X0 (z' := (0 : Int32)) d5_92 (by simp) rfl ⟨congrArg (fun z => some (Value.int z)) (show (0 : Int32) = own_i (b0 = b3 ∧ b1 = b4 ∧ b2 = b5) from Eq.symm (own_i0 (by simp [hc24, hc25, hc26]))), rfl⟩ (by decide) (by decide)
    · refine o_icmpYes cx X0 91 d5_30 (feq hc25).2 (by decide) (by decide) ?_
      refine o_iconst cx X0 (z := (0 : Int32)) d5_91 rfl ?_
      exact o_retN cx X0 (z' := (0 : Int32)) d5_92 (by simp) rfl ⟨congrArg (fun z => some (Value.int z)) (show (0 : Int32) = own_i (b0 = b3 ∧ b1 = b4 ∧ b2 = b5) from Eq.symm (own_i0 (by simp [hc24, hc25]))), rfl⟩ (by decide) (by decide)
  · refine o_icmpYes cx X0 91 d5_12 (feq hc24).2 (by decide) (by decide) ?_
    refine o_iconst cx X0 (z := (0 : Int32)) d5_91 rfl ?_
    exact o_retN cx X0 (z' := (0 : Int32)) d5_92 (by simp) rfl ⟨congrArg (fun z => some (Value.int z)) (show (0 : Int32) = own_i (b0 = b3 ∧ b1 = b4 ∧ b2 = b5) from Eq.symm (own_i0 (by simp [hc24]))), rfl⟩ (by decide) (by decide)
theorem ef_rib_6_4 (m : MethodId) (aa : Addr) : entryFrame m #[(.ref aa), (.int (6 : Int32)), (.int (4 : Int32))] 3 = mkF m 0 #[.val (.ref aa), .val (.int (6 : Int32)), .val (.int (4 : Int32))] [] := by first | (simp [entryFrame, mkF, argsToLocals, Value.category]; done) | rfl
set_option maxRecDepth 65536 in
set_option maxHeartbeats 40000000 in
theorem rib_6_4 (l : Launch) (Z : State) (a0 : Array Value) (hw : ∀ d ∈ tables_1, d.before a0 Z = true) (aa : Addr) (vs : List Value) (b0 : Int32) (b1 : Int32) (b2 : Int32) (b3 : Int32) (b4 : Int32) (b5 : Int32) (h0 : Heap) (n0 : Nat) (Z0 : n0 ≤ h0.size) (A0 : own_Ar Z h0 aa .byte vs) (hv0 : vs[0]? = some (.int b0)) (hv1 : vs[1]? = some (.int b1)) (hv2 : vs[2]? = some (.int b2)) (hv3 : vs[3]? = some (.int b3)) (hv4 : vs[4]? = some (.int b4)) (hv5 : vs[5]? = some (.int b5)) :
    own_Met l Z (⟨"com/example/needlewise/needlewise/KmpPartialMatchPinLaw", "isBorder", "([BII)Z"⟩ : MethodName) method_6_code 3 (some .boolean) ({ frames := 0, cells := 0, slots := 0, locals := 0 } : Room) #[(.ref aa), (.int (6 : Int32)), (.int (4 : Int32))] h0 n0 (fun v' h' => v' = some (.int (own_i (b0 = b2 ∧ b1 = b3 ∧ b2 = b4 ∧ b3 = b5))) ∧ h' = h0) := by
  refine own_body (plainFor_of_name pn_5) (fun m => ef_rib_6_4 m aa) Z0 ?_
  intro p e s m below meth c T0 cx X0
  show own_Go p e below _ (T0.setTop (mkF m 0 #[.val (.ref aa), .val (.int (6 : Int32)), .val (.int (4 : Int32))] []))
  refine o_iloadN cx X0 d5_0 rfl ?_
  refine o_ifNo cx X0 d5_1 (by decide) ?_
  refine o_aloadN cx X0 d5_4 rfl rfl ?_
  refine o_iconst cx X0 (z := (0 : Int32)) d5_5 rfl ?_
  refine o_ldB cx X0 (v := (.int b0)) d5_6 A0 0 (by decide) rfl hv0 ?_
  refine o_aloadN cx X0 d5_7 rfl rfl ?_
  refine o_iloadN cx X0 d5_8 rfl ?_
  refine o_iloadN cx X0 d5_9 rfl ?_
  refine o_isub cx X0 (z := (2 : Int32)) d5_10 rfl ?_
  refine o_ldB cx X0 (v := (.int b2)) d5_11 A0 2 (by decide) rfl hv2 ?_
  by_cases hc27 : b0 = b2
  · refine o_icmpNo cx X0 d5_12 (teq hc27).2 ?_
    refine o_iloadN cx X0 d5_15 rfl ?_
    refine o_iconst cx X0 (z := (1 : Int32)) d5_16 rfl ?_
    refine o_icmpNo cx X0 d5_17 (by decide) ?_
    refine o_aloadN cx X0 d5_20 rfl rfl ?_
    refine o_iconst cx X0 (z := (1 : Int32)) d5_21 rfl ?_
    refine o_ldB cx X0 (v := (.int b1)) d5_22 A0 1 (by decide) rfl hv1 ?_
    refine o_aloadN cx X0 d5_23 rfl rfl ?_
    refine o_iloadN cx X0 d5_24 rfl ?_
    refine o_iloadN cx X0 d5_25 rfl ?_
    refine o_isub cx X0 (z := (2 : Int32)) d5_26 rfl ?_
    refine o_iconst cx X0 (z := (1 : Int32)) d5_27 rfl ?_
    refine o_iadd cx X0 (z := (3 : Int32)) d5_28 rfl ?_
    refine o_ldB cx X0 (v := (.int b3)) d5_29 A0 3 (by decide) rfl hv3 ?_
    by_cases hc28 : b1 = b3
    · refine o_icmpNo cx X0 d5_30 (teq hc28).2 ?_
      refine o_iloadN cx X0 d5_33 rfl ?_
      refine o_iconst cx X0 (z := (2 : Int32)) d5_34 rfl ?_
      refine o_icmpNo cx X0 d5_35 (by decide) ?_
      refine o_aloadN cx X0 d5_38 rfl rfl ?_
      refine o_iconst cx X0 (z := (2 : Int32)) d5_39 rfl ?_
      refine o_ldB cx X0 (v := (.int b2)) d5_40 A0 2 (by decide) rfl hv2 ?_
      refine o_aloadN cx X0 d5_41 rfl rfl ?_
      refine o_iloadN cx X0 d5_42 rfl ?_
      refine o_iloadN cx X0 d5_43 rfl ?_
      refine o_isub cx X0 (z := (2 : Int32)) d5_44 rfl ?_
      refine o_iconst cx X0 (z := (2 : Int32)) d5_45 rfl ?_
      refine o_iadd cx X0 (z := (4 : Int32)) d5_46 rfl ?_
      refine o_ldB cx X0 (v := (.int b4)) d5_47 A0 4 (by decide) rfl hv4 ?_
      by_cases hc29 : b2 = b4
      · refine o_icmpNo cx X0 d5_48 (teq hc29).2 ?_
        refine o_iloadN cx X0 d5_51 rfl ?_
        refine o_iconst cx X0 (z := (3 : Int32)) d5_52 rfl ?_
        refine o_icmpNo cx X0 d5_53 (by decide) ?_
        refine o_aloadN cx X0 d5_56 rfl rfl ?_
        refine o_iconst cx X0 (z := (3 : Int32)) d5_57 rfl ?_
        refine o_ldB cx X0 (v := (.int b3)) d5_58 A0 3 (by decide) rfl hv3 ?_
        refine o_aloadN cx X0 d5_59 rfl rfl ?_
        refine o_iloadN cx X0 d5_60 rfl ?_
        refine o_iloadN cx X0 d5_61 rfl ?_
        refine o_isub cx X0 (z := (2 : Int32)) d5_62 rfl ?_
        refine o_iconst cx X0 (z := (3 : Int32)) d5_63 rfl ?_
        refine o_iadd cx X0 (z := (5 : Int32)) d5_64 rfl ?_
        refine o_ldB cx X0 (v := (.int b5)) d5_65 A0 5 (by decide) rfl hv5 ?_
        by_cases hc30 : b3 = b5
        · refine o_icmpNo cx X0 d5_66 (teq hc30).2 ?_
          refine o_iloadN cx X0 d5_69 rfl ?_
          refine o_iconst cx X0 (z := (4 : Int32)) d5_70 rfl ?_
          refine o_icmpYes cx X0 87 d5_71 (by decide) (by decide) (by decide) ?_
          refine o_iconst cx X0 (z := (1 : Int32)) d5_87 rfl ?_
          refine o_goto cx X0 92 d5_88 (by decide) (by decide) ?_
          exact o_retN cx X0 (z' := (1 : Int32)) d5_92 (by simp) rfl ⟨congrArg (fun z => some (Value.int z)) (show (1 : Int32) = own_i (b0 = b2 ∧ b1 = b3 ∧ b2 = b4 ∧ b3 = b5) from Eq.symm (own_i1 (by simp [hc27, hc28, hc29, hc30]))), rfl⟩ (by decide) (by decide)
        · refine o_icmpYes cx X0 91 d5_66 (feq hc30).2 (by decide) (by decide) ?_
          refine o_iconst cx X0 (z := (0 : Int32)) d5_91 rfl ?_
          exact o_retN cx X0 (z' := (0 : Int32)) d5_92 (by simp) rfl ⟨congrArg (fun z => some (Value.int z)) (show (0 : Int32) = own_i (b0 = b2 ∧ b1 = b3 ∧ b2 = b4 ∧ b3 = b5) from Eq.symm (own_i0 (by simp [hc27, hc28, hc29, hc30]))), rfl⟩ (by decide) (by decide)
      · refine o_icmpYes cx X0 91 d5_48 (feq hc29).2 (by decide) (by decide) ?_
        refine o_iconst cx X0 (z := (0 : Int32)) d5_91 rfl ?_
        exact o_retN cx X0 (z' := (0 : Int32)) d5_92 (by simp) rfl ⟨congrArg (fun z => some (Value.int z)) (show (0 : Int32) = own_i (b0 = b2 ∧ b1 = b3 ∧ b2 = b4 ∧ b3 = b5) from Eq.symm (own_i0 (by simp [hc27, hc28, hc29]))), rfl⟩ (by decide) (by decide)
    · refine o_icmpYes cx X0 91 d5_30 (feq hc28).2 (by decide) (by decide) ?_
      refine o_iconst cx X0 (z := (0 : Int32)) d5_91 rfl ?_
      exact o_retN cx X0 (z' := (0 : Int32)) d5_92 (by simp) rfl ⟨congrArg (fun z => some (Value.int z)) (show (0 : Int32) = own_i (b0 = b2 ∧ b1 = b3 ∧ b2 = b4 ∧ b3 = b5) from Eq.symm (own_i0 (by simp [hc27, hc28]))), rfl⟩ (by decide) (by decide)
  · refine o_icmpYes cx X0 91 d5_12 (feq hc27).2 (by decide) (by decide) ?_
    refine o_iconst cx X0 (z := (0 : Int32)) d5_91 rfl ?_
    exact o_retN cx X0 (z' := (0 : Int32)) d5_92 (by simp) rfl ⟨congrArg (fun z => some (Value.int z)) (show (0 : Int32) = own_i (b0 = b2 ∧ b1 = b3 ∧ b2 = b4 ∧ b3 = b5) from Eq.symm (own_i0 (by simp [hc27]))), rfl⟩ (by decide) (by decide)
theorem d5_74 : decode method_6_code 74 = .ok (.aload_n 0, 1) := by decide +kernel
theorem d5_75 : decode method_6_code 75 = .ok (.iconst 4, 1) := by decide +kernel
theorem d5_76 : decode method_6_code 76 = .ok (.baload, 1) := by decide +kernel
theorem d5_77 : decode method_6_code 77 = .ok (.aload_n 0, 1) := by decide +kernel
theorem d5_78 : decode method_6_code 78 = .ok (.iload_n 1, 1) := by decide +kernel
theorem d5_79 : decode method_6_code 79 = .ok (.iload_n 2, 1) := by decide +kernel
theorem d5_80 : decode method_6_code 80 = .ok (.isub, 1) := by decide +kernel
theorem d5_81 : decode method_6_code 81 = .ok (.iconst 4, 1) := by decide +kernel
theorem d5_82 : decode method_6_code 82 = .ok (.iadd, 1) := by decide +kernel
theorem d5_83 : decode method_6_code 83 = .ok (.baload, 1) := by decide +kernel
theorem d5_84 : decode method_6_code 84 = .ok (.if_icmp .ne 7, 3) := by decide +kernel
theorem ef_rib_6_5 (m : MethodId) (aa : Addr) : entryFrame m #[(.ref aa), (.int (6 : Int32)), (.int (5 : Int32))] 3 = mkF m 0 #[.val (.ref aa), .val (.int (6 : Int32)), .val (.int (5 : Int32))] [] := by first | (simp [entryFrame, mkF, argsToLocals, Value.category]; done) | rfl
set_option maxRecDepth 65536 in
set_option maxHeartbeats 40000000 in
theorem rib_6_5 (l : Launch) (Z : State) (a0 : Array Value) (hw : ∀ d ∈ tables_1, d.before a0 Z = true) (aa : Addr) (vs : List Value) (b0 : Int32) (b1 : Int32) (b2 : Int32) (b3 : Int32) (b4 : Int32) (b5 : Int32) (h0 : Heap) (n0 : Nat) (Z0 : n0 ≤ h0.size) (A0 : own_Ar Z h0 aa .byte vs) (hv0 : vs[0]? = some (.int b0)) (hv1 : vs[1]? = some (.int b1)) (hv2 : vs[2]? = some (.int b2)) (hv3 : vs[3]? = some (.int b3)) (hv4 : vs[4]? = some (.int b4)) (hv5 : vs[5]? = some (.int b5)) :
    own_Met l Z (⟨"com/example/needlewise/needlewise/KmpPartialMatchPinLaw", "isBorder", "([BII)Z"⟩ : MethodName) method_6_code 3 (some .boolean) ({ frames := 0, cells := 0, slots := 0, locals := 0 } : Room) #[(.ref aa), (.int (6 : Int32)), (.int (5 : Int32))] h0 n0 (fun v' h' => v' = some (.int (own_i (b0 = b1 ∧ b1 = b2 ∧ b2 = b3 ∧ b3 = b4 ∧ b4 = b5))) ∧ h' = h0) := by
  refine own_body (plainFor_of_name pn_5) (fun m => ef_rib_6_5 m aa) Z0 ?_
  intro p e s m below meth c T0 cx X0
  show own_Go p e below _ (T0.setTop (mkF m 0 #[.val (.ref aa), .val (.int (6 : Int32)), .val (.int (5 : Int32))] []))
  refine o_iloadN cx X0 d5_0 rfl ?_
  refine o_ifNo cx X0 d5_1 (by decide) ?_
  refine o_aloadN cx X0 d5_4 rfl rfl ?_
  refine o_iconst cx X0 (z := (0 : Int32)) d5_5 rfl ?_
  refine o_ldB cx X0 (v := (.int b0)) d5_6 A0 0 (by decide) rfl hv0 ?_
  refine o_aloadN cx X0 d5_7 rfl rfl ?_
  refine o_iloadN cx X0 d5_8 rfl ?_
  refine o_iloadN cx X0 d5_9 rfl ?_
  refine o_isub cx X0 (z := (1 : Int32)) d5_10 rfl ?_
  refine o_ldB cx X0 (v := (.int b1)) d5_11 A0 1 (by decide) rfl hv1 ?_
  by_cases hc31 : b0 = b1
  · refine o_icmpNo cx X0 d5_12 (teq hc31).2 ?_
    refine o_iloadN cx X0 d5_15 rfl ?_
    refine o_iconst cx X0 (z := (1 : Int32)) d5_16 rfl ?_
    refine o_icmpNo cx X0 d5_17 (by decide) ?_
    refine o_aloadN cx X0 d5_20 rfl rfl ?_
    refine o_iconst cx X0 (z := (1 : Int32)) d5_21 rfl ?_
    refine o_ldB cx X0 (v := (.int b1)) d5_22 A0 1 (by decide) rfl hv1 ?_
    refine o_aloadN cx X0 d5_23 rfl rfl ?_
    refine o_iloadN cx X0 d5_24 rfl ?_
    refine o_iloadN cx X0 d5_25 rfl ?_
    refine o_isub cx X0 (z := (1 : Int32)) d5_26 rfl ?_
    refine o_iconst cx X0 (z := (1 : Int32)) d5_27 rfl ?_
    refine o_iadd cx X0 (z := (2 : Int32)) d5_28 rfl ?_
    refine o_ldB cx X0 (v := (.int b2)) d5_29 A0 2 (by decide) rfl hv2 ?_
    by_cases hc32 : b1 = b2
    · refine o_icmpNo cx X0 d5_30 (teq hc32).2 ?_
      refine o_iloadN cx X0 d5_33 rfl ?_
      refine o_iconst cx X0 (z := (2 : Int32)) d5_34 rfl ?_
      refine o_icmpNo cx X0 d5_35 (by decide) ?_
      refine o_aloadN cx X0 d5_38 rfl rfl ?_
      refine o_iconst cx X0 (z := (2 : Int32)) d5_39 rfl ?_
      refine o_ldB cx X0 (v := (.int b2)) d5_40 A0 2 (by decide) rfl hv2 ?_
      refine o_aloadN cx X0 d5_41 rfl rfl ?_
      refine o_iloadN cx X0 d5_42 rfl ?_
      refine o_iloadN cx X0 d5_43 rfl ?_
      refine o_isub cx X0 (z := (1 : Int32)) d5_44 rfl ?_
      refine o_iconst cx X0 (z := (2 : Int32)) d5_45 rfl ?_
      refine o_iadd cx X0 (z := (3 : Int32)) d5_46 rfl ?_
      refine o_ldB cx X0 (v := (.int b3)) d5_47 A0 3 (by decide) rfl hv3 ?_
      by_cases hc33 : b2 = b3
      · refine o_icmpNo cx X0 d5_48 (teq hc33).2 ?_
        refine o_iloadN cx X0 d5_51 rfl ?_
        refine o_iconst cx X0 (z := (3 : Int32)) d5_52 rfl ?_
        refine o_icmpNo cx X0 d5_53 (by decide) ?_
        refine o_aloadN cx X0 d5_56 rfl rfl ?_
        refine o_iconst cx X0 (z := (3 : Int32)) d5_57 rfl ?_
        refine o_ldB cx X0 (v := (.int b3)) d5_58 A0 3 (by decide) rfl hv3 ?_
        refine o_aloadN cx X0 d5_59 rfl rfl ?_
        refine o_iloadN cx X0 d5_60 rfl ?_
        refine o_iloadN cx X0 d5_61 rfl ?_
        refine o_isub cx X0 (z := (1 : Int32)) d5_62 rfl ?_
        refine o_iconst cx X0 (z := (3 : Int32)) d5_63 rfl ?_
        refine o_iadd cx X0 (z := (4 : Int32)) d5_64 rfl ?_
        refine o_ldB cx X0 (v := (.int b4)) d5_65 A0 4 (by decide) rfl hv4 ?_
        by_cases hc34 : b3 = b4
        · refine o_icmpNo cx X0 d5_66 (teq hc34).2 ?_
          refine o_iloadN cx X0 d5_69 rfl ?_
          refine o_iconst cx X0 (z := (4 : Int32)) d5_70 rfl ?_
          refine o_icmpNo cx X0 d5_71 (by decide) ?_
          refine o_aloadN cx X0 d5_74 rfl rfl ?_
          refine o_iconst cx X0 (z := (4 : Int32)) d5_75 rfl ?_
          refine o_ldB cx X0 (v := (.int b4)) d5_76 A0 4 (by decide) rfl hv4 ?_
          refine o_aloadN cx X0 d5_77 rfl rfl ?_
          refine o_iloadN cx X0 d5_78 rfl ?_
          refine o_iloadN cx X0 d5_79 rfl ?_
          refine o_isub cx X0 (z := (1 : Int32)) d5_80 rfl ?_
          refine o_iconst cx X0 (z := (4 : Int32)) d5_81 rfl ?_
          refine o_iadd cx X0 (z := (5 : Int32)) d5_82 rfl ?_
          refine o_ldB cx X0 (v := (.int b5)) d5_83 A0 5 (by decide) rfl hv5 ?_
          by_cases hc35 : b4 = b5
          · refine o_icmpNo cx X0 d5_84 (teq hc35).2 ?_
            refine o_iconst cx X0 (z := (1 : Int32)) d5_87 rfl ?_
            refine o_goto cx X0 92 d5_88 (by decide) (by decide) ?_
            exact o_retN cx X0 (z' := (1 : Int32)) d5_92 (by simp) rfl ⟨congrArg (fun z => some (Value.int z)) (show (1 : Int32) = own_i (b0 = b1 ∧ b1 = b2 ∧ b2 = b3 ∧ b3 = b4 ∧ b4 = b5) from Eq.symm (own_i1 (by simp [hc31, hc32, hc33, hc34, hc35]))), rfl⟩ (by decide) (by decide)
          · refine o_icmpYes cx X0 91 d5_84 (feq hc35).2 (by decide) (by decide) ?_
            refine o_iconst cx X0 (z := (0 : Int32)) d5_91 rfl ?_
            exact o_retN cx X0 (z' := (0 : Int32)) d5_92 (by simp) rfl ⟨congrArg (fun z => some (Value.int z)) (show (0 : Int32) = own_i (b0 = b1 ∧ b1 = b2 ∧ b2 = b3 ∧ b3 = b4 ∧ b4 = b5) from Eq.symm (own_i0 (by simp [hc31, hc32, hc33, hc34, hc35]))), rfl⟩ (by decide) (by decide)
        · refine o_icmpYes cx X0 91 d5_66 (feq hc34).2 (by decide) (by decide) ?_
          refine o_iconst cx X0 (z := (0 : Int32)) d5_91 rfl ?_
          exact o_retN cx X0 (z' := (0 : Int32)) d5_92 (by simp) rfl ⟨congrArg (fun z => some (Value.int z)) (show (0 : Int32) = own_i (b0 = b1 ∧ b1 = b2 ∧ b2 = b3 ∧ b3 = b4 ∧ b4 = b5) from Eq.symm (own_i0 (by simp [hc31, hc32, hc33, hc34]))), rfl⟩ (by decide) (by decide)
      · refine o_icmpYes cx X0 91 d5_48 (feq hc33).2 (by decide) (by decide) ?_
        refine o_iconst cx X0 (z := (0 : Int32)) d5_91 rfl ?_
        exact o_retN cx X0 (z' := (0 : Int32)) d5_92 (by simp) rfl ⟨congrArg (fun z => some (Value.int z)) (show (0 : Int32) = own_i (b0 = b1 ∧ b1 = b2 ∧ b2 = b3 ∧ b3 = b4 ∧ b4 = b5) from Eq.symm (own_i0 (by simp [hc31, hc32, hc33]))), rfl⟩ (by decide) (by decide)
    · refine o_icmpYes cx X0 91 d5_30 (feq hc32).2 (by decide) (by decide) ?_
      refine o_iconst cx X0 (z := (0 : Int32)) d5_91 rfl ?_
      exact o_retN cx X0 (z' := (0 : Int32)) d5_92 (by simp) rfl ⟨congrArg (fun z => some (Value.int z)) (show (0 : Int32) = own_i (b0 = b1 ∧ b1 = b2 ∧ b2 = b3 ∧ b3 = b4 ∧ b4 = b5) from Eq.symm (own_i0 (by simp [hc31, hc32]))), rfl⟩ (by decide) (by decide)
  · refine o_icmpYes cx X0 91 d5_12 (feq hc31).2 (by decide) (by decide) ?_
    refine o_iconst cx X0 (z := (0 : Int32)) d5_91 rfl ?_
    exact o_retN cx X0 (z' := (0 : Int32)) d5_92 (by simp) rfl ⟨congrArg (fun z => some (Value.int z)) (show (0 : Int32) = own_i (b0 = b1 ∧ b1 = b2 ∧ b2 = b3 ∧ b3 = b4 ∧ b4 = b5) from Eq.symm (own_i0 (by simp [hc31]))), rfl⟩ (by decide) (by decide)
theorem d4_0 : decode method_5_code 0 = .ok (.iload_n 1, 1) := by decide +kernel
theorem d4_1 : decode method_5_code 1 = .ok (.bipush 6, 2) := by decide +kernel
theorem d4_3 : decode method_5_code 3 = .ok (.if_icmp .lt 14, 3) := by decide +kernel
theorem d4_17 : decode method_5_code 17 = .ok (.iload_n 1, 1) := by decide +kernel
theorem d4_18 : decode method_5_code 18 = .ok (.iconst 5, 1) := by decide +kernel
theorem d4_19 : decode method_5_code 19 = .ok (.if_icmp .lt 14, 3) := by decide +kernel
theorem d4_33 : decode method_5_code 33 = .ok (.iload_n 1, 1) := by decide +kernel
theorem d4_34 : decode method_5_code 34 = .ok (.iconst 4, 1) := by decide +kernel
theorem d4_35 : decode method_5_code 35 = .ok (.if_icmp .lt 14, 3) := by decide +kernel
theorem d4_49 : decode method_5_code 49 = .ok (.iload_n 1, 1) := by decide +kernel
theorem d4_50 : decode method_5_code 50 = .ok (.iconst 3, 1) := by decide +kernel
theorem d4_51 : decode method_5_code 51 = .ok (.if_icmp .lt 14, 3) := by decide +kernel
theorem d4_65 : decode method_5_code 65 = .ok (.iload_n 1, 1) := by decide +kernel
theorem d4_66 : decode method_5_code 66 = .ok (.iconst 2, 1) := by decide +kernel
theorem d4_67 : decode method_5_code 67 = .ok (.if_icmp .lt 14, 3) := by decide +kernel
theorem d4_81 : decode method_5_code 81 = .ok (.iconst 0, 1) := by decide +kernel
theorem d4_82 : decode method_5_code 82 = .ok (.ireturn, 1) := by decide +kernel
theorem ef_rbd_1 (m : MethodId) (aa : Addr) : entryFrame m #[(.ref aa), (.int (1 : Int32))] 2 = mkF m 0 #[.val (.ref aa), .val (.int (1 : Int32))] [] := by first | (simp [entryFrame, mkF, argsToLocals, Value.category]; done) | rfl
set_option maxRecDepth 65536 in
set_option maxHeartbeats 40000000 in
theorem rbd_1 (l : Launch) (Z : State) (a0 : Array Value) (hw : ∀ d ∈ tables_1, d.before a0 Z = true) (aa : Addr) (vs : List Value) (b0 : Int32) (h0 : Heap) (n0 : Nat) (Z0 : n0 ≤ h0.size) (A0 : own_Ar Z h0 aa .byte vs) (hv0 : vs[0]? = some (.int b0)) :
    own_Met l Z (⟨"com/example/needlewise/needlewise/KmpPartialMatchPinLaw", "border", "([BI)I"⟩ : MethodName) method_5_code 2 (some .int) ({ frames := 0, cells := 0, slots := 0, locals := 0 } : Room) #[(.ref aa), (.int (1 : Int32))] h0 n0 (fun v' h' => v' = some (.int (own_b1 b0)) ∧ h' = h0) := by
  refine own_body (plainFor_of_name pn_5) (fun m => ef_rbd_1 m aa) Z0 ?_
  intro p e s m below meth c T0 cx X0
  show own_Go p e below _ (T0.setTop (mkF m 0 #[.val (.ref aa), .val (.int (1 : Int32))] []))
  refine o_iloadN cx X0 d4_0 rfl ?_
  refine o_bipush cx X0 (z := (6 : Int32)) d4_1 rfl ?_
  refine o_icmpYes cx X0 17 d4_3 (by decide) (by decide) (by decide) ?_
  refine o_iloadN cx X0 d4_17 rfl ?_
  refine o_iconst cx X0 (z := (5 : Int32)) d4_18 rfl ?_
  refine o_icmpYes cx X0 33 d4_19 (by decide) (by decide) (by decide) ?_
  refine o_iloadN cx X0 d4_33 rfl ?_
  refine o_iconst cx X0 (z := (4 : Int32)) d4_34 rfl ?_
  refine o_icmpYes cx X0 49 d4_35 (by decide) (by decide) (by decide) ?_
  refine o_iloadN cx X0 d4_49 rfl ?_
  refine o_iconst cx X0 (z := (3 : Int32)) d4_50 rfl ?_
  refine o_icmpYes cx X0 65 d4_51 (by decide) (by decide) (by decide) ?_
  refine o_iloadN cx X0 d4_65 rfl ?_
  refine o_iconst cx X0 (z := (2 : Int32)) d4_66 rfl ?_
  refine o_icmpYes cx X0 81 d4_67 (by decide) (by decide) (by decide) ?_
  refine o_iconst cx X0 (z := (0 : Int32)) d4_81 rfl ?_
  exact o_retI cx X0 d4_82 ⟨congrArg (fun z => some (Value.int z)) (show (0 : Int32) = own_b1 b0 from Eq.symm (by simp [own_b1])), rfl⟩ (by decide) (by decide)
theorem d4_70 : decode method_5_code 70 = .ok (.aload_n 0, 1) := by decide +kernel
theorem d4_71 : decode method_5_code 71 = .ok (.iload_n 1, 1) := by decide +kernel
theorem d4_72 : decode method_5_code 72 = .ok (.iconst 1, 1) := by decide +kernel
theorem d4_73 : decode method_5_code 73 = .ok (.invokestatic 28, 3) := by decide +kernel
theorem pd_5 : parseMethodDescriptor "([BII)Z" = some ⟨[(.array .byte), .int, .int], some .boolean⟩ := by decide +kernel
theorem d4_76 : decode method_5_code 76 = .ok (.ifCond .eq 5, 3) := by decide +kernel
theorem d4_79 : decode method_5_code 79 = .ok (.iconst 1, 1) := by decide +kernel
theorem d4_80 : decode method_5_code 80 = .ok (.ireturn, 1) := by decide +kernel
theorem ef_rbd_2 (m : MethodId) (aa : Addr) : entryFrame m #[(.ref aa), (.int (2 : Int32))] 2 = mkF m 0 #[.val (.ref aa), .val (.int (2 : Int32))] [] := by first | (simp [entryFrame, mkF, argsToLocals, Value.category]; done) | rfl
set_option maxRecDepth 65536 in
set_option maxHeartbeats 40000000 in
theorem rbd_2 (l : Launch) (Z : State) (a0 : Array Value) (hw : ∀ d ∈ tables_1, d.before a0 Z = true) (aa : Addr) (vs : List Value) (b0 : Int32) (b1 : Int32) (h0 : Heap) (n0 : Nat) (Z0 : n0 ≤ h0.size) (A0 : own_Ar Z h0 aa .byte vs) (hv0 : vs[0]? = some (.int b0)) (hv1 : vs[1]? = some (.int b1)) :
    own_Met l Z (⟨"com/example/needlewise/needlewise/KmpPartialMatchPinLaw", "border", "([BI)I"⟩ : MethodName) method_5_code 2 (some .int) ({ frames := 1, cells := 0, slots := 0, locals := 14 } : Room) #[(.ref aa), (.int (2 : Int32))] h0 n0 (fun v' h' => v' = some (.int (own_b2 b0 b1)) ∧ h' = h0) := by
  refine own_body (plainFor_of_name pn_5) (fun m => ef_rbd_2 m aa) Z0 ?_
  intro p e s m below meth c T0 cx X0
  show own_Go p e below _ (T0.setTop (mkF m 0 #[.val (.ref aa), .val (.int (2 : Int32))] []))
  refine o_iloadN cx X0 d4_0 rfl ?_
  refine o_bipush cx X0 (z := (6 : Int32)) d4_1 rfl ?_
  refine o_icmpYes cx X0 17 d4_3 (by decide) (by decide) (by decide) ?_
  refine o_iloadN cx X0 d4_17 rfl ?_
  refine o_iconst cx X0 (z := (5 : Int32)) d4_18 rfl ?_
  refine o_icmpYes cx X0 33 d4_19 (by decide) (by decide) (by decide) ?_
  refine o_iloadN cx X0 d4_33 rfl ?_
  refine o_iconst cx X0 (z := (4 : Int32)) d4_34 rfl ?_
  refine o_icmpYes cx X0 49 d4_35 (by decide) (by decide) (by decide) ?_
  refine o_iloadN cx X0 d4_49 rfl ?_
  refine o_iconst cx X0 (z := (3 : Int32)) d4_50 rfl ?_
  refine o_icmpYes cx X0 65 d4_51 (by decide) (by decide) (by decide) ?_
  refine o_iloadN cx X0 d4_65 rfl ?_
  refine o_iconst cx X0 (z := (2 : Int32)) d4_66 rfl ?_
  refine o_icmpNo cx X0 d4_67 (by decide) ?_
  refine o_aloadN cx X0 d4_70 rfl rfl ?_
  refine o_iloadN cx X0 d4_71 rfl ?_
  refine o_iconst cx X0 (z := (1 : Int32)) d4_72 rfl ?_
  refine o_callSp cx X0 (y' := (⟨"com/example/needlewise/needlewise/KmpPartialMatchPinLaw", "isBorder", "([BII)Z"⟩ : MethodName)) (argsL := [(.ref aa), (.int (2 : Int32)), (.int (1 : Int32))]) (st := []) d4_73 (o_w hw 17 rfl) (o_w hw 18 rfl) (o_w hw 3 rfl) (o_w hw 19 rfl) (by decide) (rib_2_1 l Z a0 hw aa vs b0 b1 h0 n0 X0.ge0 A0 hv0 hv1) (by decide) 0 rfl (by decide) rfl (lenOf pd_5 rfl) rfl rfl (by decide) (by decide) fun T36 X37 => ?_
  show own_Go p e below _ (T36.setTop (mkF m 76 #[.val (.ref aa), .val (.int (2 : Int32))] [(.int (own_i (b0 = b1)))]))
  by_cases hc41 : (own_i (b0 = b1)) = (0 : Int32)
  · refine o_ifYes cx X37 81 d4_76 ((if0 _ _).trans (teq hc41).1) (by decide) (by decide) ?_
    refine o_iconst cx X37 (z := (0 : Int32)) d4_81 rfl ?_
    exact o_retI cx X37 d4_82 ⟨congrArg (fun z => some (Value.int z)) (show (0 : Int32) = own_b2 b0 b1 from Eq.symm (by simp [own_b2, hc41])), rfl⟩ (by decide) (by decide)
  · refine o_ifNo cx X37 d4_76 ((if0 _ _).trans (feq hc41).1) ?_
    refine o_iconst cx X37 (z := (1 : Int32)) d4_79 rfl ?_
    exact o_retI cx X37 d4_80 ⟨congrArg (fun z => some (Value.int z)) (show (1 : Int32) = own_b2 b0 b1 from Eq.symm (by simp [own_b2, hc41])), rfl⟩ (by decide) (by decide)
theorem d4_54 : decode method_5_code 54 = .ok (.aload_n 0, 1) := by decide +kernel
theorem d4_55 : decode method_5_code 55 = .ok (.iload_n 1, 1) := by decide +kernel
theorem d4_56 : decode method_5_code 56 = .ok (.iconst 2, 1) := by decide +kernel
theorem d4_57 : decode method_5_code 57 = .ok (.invokestatic 28, 3) := by decide +kernel
theorem d4_60 : decode method_5_code 60 = .ok (.ifCond .eq 5, 3) := by decide +kernel
theorem d4_63 : decode method_5_code 63 = .ok (.iconst 2, 1) := by decide +kernel
theorem d4_64 : decode method_5_code 64 = .ok (.ireturn, 1) := by decide +kernel
theorem ef_rbd_3 (m : MethodId) (aa : Addr) : entryFrame m #[(.ref aa), (.int (3 : Int32))] 2 = mkF m 0 #[.val (.ref aa), .val (.int (3 : Int32))] [] := by first | (simp [entryFrame, mkF, argsToLocals, Value.category]; done) | rfl
set_option maxRecDepth 65536 in
set_option maxHeartbeats 40000000 in
theorem rbd_3 (l : Launch) (Z : State) (a0 : Array Value) (hw : ∀ d ∈ tables_1, d.before a0 Z = true) (aa : Addr) (vs : List Value) (b0 : Int32) (b1 : Int32) (b2 : Int32) (h0 : Heap) (n0 : Nat) (Z0 : n0 ≤ h0.size) (A0 : own_Ar Z h0 aa .byte vs) (hv0 : vs[0]? = some (.int b0)) (hv1 : vs[1]? = some (.int b1)) (hv2 : vs[2]? = some (.int b2)) :
    own_Met l Z (⟨"com/example/needlewise/needlewise/KmpPartialMatchPinLaw", "border", "([BI)I"⟩ : MethodName) method_5_code 2 (some .int) ({ frames := 1, cells := 0, slots := 0, locals := 14 } : Room) #[(.ref aa), (.int (3 : Int32))] h0 n0 (fun v' h' => v' = some (.int (own_b3 b0 b1 b2)) ∧ h' = h0) := by
  refine own_body (plainFor_of_name pn_5) (fun m => ef_rbd_3 m aa) Z0 ?_
  intro p e s m below meth c T0 cx X0
  show own_Go p e below _ (T0.setTop (mkF m 0 #[.val (.ref aa), .val (.int (3 : Int32))] []))
  refine o_iloadN cx X0 d4_0 rfl ?_
  refine o_bipush cx X0 (z := (6 : Int32)) d4_1 rfl ?_
  refine o_icmpYes cx X0 17 d4_3 (by decide) (by decide) (by decide) ?_
  refine o_iloadN cx X0 d4_17 rfl ?_
  refine o_iconst cx X0 (z := (5 : Int32)) d4_18 rfl ?_
  refine o_icmpYes cx X0 33 d4_19 (by decide) (by decide) (by decide) ?_
  refine o_iloadN cx X0 d4_33 rfl ?_
  refine o_iconst cx X0 (z := (4 : Int32)) d4_34 rfl ?_
  refine o_icmpYes cx X0 49 d4_35 (by decide) (by decide) (by decide) ?_
  refine o_iloadN cx X0 d4_49 rfl ?_
  refine o_iconst cx X0 (z := (3 : Int32)) d4_50 rfl ?_
  refine o_icmpNo cx X0 d4_51 (by decide) ?_
  refine o_aloadN cx X0 d4_54 rfl rfl ?_
  refine o_iloadN cx X0 d4_55 rfl ?_
  refine o_iconst cx X0 (z := (2 : Int32)) d4_56 rfl ?_
  refine o_callSp cx X0 (y' := (⟨"com/example/needlewise/needlewise/KmpPartialMatchPinLaw", "isBorder", "([BII)Z"⟩ : MethodName)) (argsL := [(.ref aa), (.int (3 : Int32)), (.int (2 : Int32))]) (st := []) d4_57 (o_w hw 17 rfl) (o_w hw 18 rfl) (o_w hw 3 rfl) (o_w hw 19 rfl) (by decide) (rib_3_2 l Z a0 hw aa vs b0 b1 b2 h0 n0 X0.ge0 A0 hv0 hv1 hv2) (by decide) 0 rfl (by decide) rfl (lenOf pd_5 rfl) rfl rfl (by decide) (by decide) fun T42 X43 => ?_
  show own_Go p e below _ (T42.setTop (mkF m 60 #[.val (.ref aa), .val (.int (3 : Int32))] [(.int (own_i (b0 = b1 ∧ b1 = b2)))]))
  by_cases hc47 : (own_i (b0 = b1 ∧ b1 = b2)) = (0 : Int32)
  · refine o_ifYes cx X43 65 d4_60 ((if0 _ _).trans (teq hc47).1) (by decide) (by decide) ?_
    refine o_iloadN cx X43 d4_65 rfl ?_
    refine o_iconst cx X43 (z := (2 : Int32)) d4_66 rfl ?_
    refine o_icmpNo cx X43 d4_67 (by decide) ?_
    refine o_aloadN cx X43 d4_70 rfl rfl ?_
    refine o_iloadN cx X43 d4_71 rfl ?_
    refine o_iconst cx X43 (z := (1 : Int32)) d4_72 rfl ?_
    refine o_callSp cx X43 (y' := (⟨"com/example/needlewise/needlewise/KmpPartialMatchPinLaw", "isBorder", "([BII)Z"⟩ : MethodName)) (argsL := [(.ref aa), (.int (3 : Int32)), (.int (1 : Int32))]) (st := []) d4_73 (o_w hw 17 rfl) (o_w hw 18 rfl) (o_w hw 3 rfl) (o_w hw 19 rfl) (by decide) (rib_3_1 l Z a0 hw aa vs b0 b1 b2 h0 n0 X43.ge0 A0 hv0 hv1 hv2) (by decide) 0 rfl (by decide) rfl (lenOf pd_5 rfl) rfl rfl (by decide) (by decide) fun T48 X49 => ?_
    show own_Go p e below _ (T48.setTop (mkF m 76 #[.val (.ref aa), .val (.int (3 : Int32))] [(.int (own_i (b0 = b2)))]))
    by_cases hc53 : (own_i (b0 = b2)) = (0 : Int32)
    · refine o_ifYes cx X49 81 d4_76 ((if0 _ _).trans (teq hc53).1) (by decide) (by decide) ?_
      refine o_iconst cx X49 (z := (0 : Int32)) d4_81 rfl ?_
      exact o_retI cx X49 d4_82 ⟨congrArg (fun z => some (Value.int z)) (show (0 : Int32) = own_b3 b0 b1 b2 from Eq.symm (by simp [own_b3, hc47, hc53])), rfl⟩ (by decide) (by decide)
    · refine o_ifNo cx X49 d4_76 ((if0 _ _).trans (feq hc53).1) ?_
      refine o_iconst cx X49 (z := (1 : Int32)) d4_79 rfl ?_
      exact o_retI cx X49 d4_80 ⟨congrArg (fun z => some (Value.int z)) (show (1 : Int32) = own_b3 b0 b1 b2 from Eq.symm (by simp [own_b3, hc47, hc53])), rfl⟩ (by decide) (by decide)
  · refine o_ifNo cx X43 d4_60 ((if0 _ _).trans (feq hc47).1) ?_
    refine o_iconst cx X43 (z := (2 : Int32)) d4_63 rfl ?_
    exact o_retI cx X43 d4_64 ⟨congrArg (fun z => some (Value.int z)) (show (2 : Int32) = own_b3 b0 b1 b2 from Eq.symm (by simp [own_b3, hc47])), rfl⟩ (by decide) (by decide)
theorem d4_38 : decode method_5_code 38 = .ok (.aload_n 0, 1) := by decide +kernel
theorem d4_39 : decode method_5_code 39 = .ok (.iload_n 1, 1) := by decide +kernel
theorem d4_40 : decode method_5_code 40 = .ok (.iconst 3, 1) := by decide +kernel
theorem d4_41 : decode method_5_code 41 = .ok (.invokestatic 28, 3) := by decide +kernel
theorem d4_44 : decode method_5_code 44 = .ok (.ifCond .eq 5, 3) := by decide +kernel
theorem d4_47 : decode method_5_code 47 = .ok (.iconst 3, 1) := by decide +kernel
theorem d4_48 : decode method_5_code 48 = .ok (.ireturn, 1) := by decide +kernel
theorem ef_rbd_4 (m : MethodId) (aa : Addr) : entryFrame m #[(.ref aa), (.int (4 : Int32))] 2 = mkF m 0 #[.val (.ref aa), .val (.int (4 : Int32))] [] := by first | (simp [entryFrame, mkF, argsToLocals, Value.category]; done) | rfl
set_option maxRecDepth 65536 in
set_option maxHeartbeats 40000000 in
theorem rbd_4 (l : Launch) (Z : State) (a0 : Array Value) (hw : ∀ d ∈ tables_1, d.before a0 Z = true) (aa : Addr) (vs : List Value) (b0 : Int32) (b1 : Int32) (b2 : Int32) (b3 : Int32) (h0 : Heap) (n0 : Nat) (Z0 : n0 ≤ h0.size) (A0 : own_Ar Z h0 aa .byte vs) (hv0 : vs[0]? = some (.int b0)) (hv1 : vs[1]? = some (.int b1)) (hv2 : vs[2]? = some (.int b2)) (hv3 : vs[3]? = some (.int b3)) :
    own_Met l Z (⟨"com/example/needlewise/needlewise/KmpPartialMatchPinLaw", "border", "([BI)I"⟩ : MethodName) method_5_code 2 (some .int) ({ frames := 1, cells := 0, slots := 0, locals := 14 } : Room) #[(.ref aa), (.int (4 : Int32))] h0 n0 (fun v' h' => v' = some (.int (own_b4 b0 b1 b2 b3)) ∧ h' = h0) := by
  refine own_body (plainFor_of_name pn_5) (fun m => ef_rbd_4 m aa) Z0 ?_
  intro p e s m below meth c T0 cx X0
  show own_Go p e below _ (T0.setTop (mkF m 0 #[.val (.ref aa), .val (.int (4 : Int32))] []))
  refine o_iloadN cx X0 d4_0 rfl ?_
  refine o_bipush cx X0 (z := (6 : Int32)) d4_1 rfl ?_
  refine o_icmpYes cx X0 17 d4_3 (by decide) (by decide) (by decide) ?_
  refine o_iloadN cx X0 d4_17 rfl ?_
  refine o_iconst cx X0 (z := (5 : Int32)) d4_18 rfl ?_
  refine o_icmpYes cx X0 33 d4_19 (by decide) (by decide) (by decide) ?_
  refine o_iloadN cx X0 d4_33 rfl ?_
  refine o_iconst cx X0 (z := (4 : Int32)) d4_34 rfl ?_
  refine o_icmpNo cx X0 d4_35 (by decide) ?_
  refine o_aloadN cx X0 d4_38 rfl rfl ?_
  refine o_iloadN cx X0 d4_39 rfl ?_
  refine o_iconst cx X0 (z := (3 : Int32)) d4_40 rfl ?_
  refine o_callSp cx X0 (y' := (⟨"com/example/needlewise/needlewise/KmpPartialMatchPinLaw", "isBorder", "([BII)Z"⟩ : MethodName)) (argsL := [(.ref aa), (.int (4 : Int32)), (.int (3 : Int32))]) (st := []) d4_41 (o_w hw 17 rfl) (o_w hw 18 rfl) (o_w hw 3 rfl) (o_w hw 19 rfl) (by decide) (rib_4_3 l Z a0 hw aa vs b0 b1 b2 b3 h0 n0 X0.ge0 A0 hv0 hv1 hv2 hv3) (by decide) 0 rfl (by decide) rfl (lenOf pd_5 rfl) rfl rfl (by decide) (by decide) fun T54 X55 => ?_
  show own_Go p e below _ (T54.setTop (mkF m 44 #[.val (.ref aa), .val (.int (4 : Int32))] [(.int (own_i (b0 = b1 ∧ b1 = b2 ∧ b2 = b3)))]))
  by_cases hc59 : (own_i (b0 = b1 ∧ b1 = b2 ∧ b2 = b3)) = (0 : Int32)
  · refine o_ifYes cx X55 49 d4_44 ((if0 _ _).trans (teq hc59).1) (by decide) (by decide) ?_
    refine o_iloadN cx X55 d4_49 rfl ?_
    refine o_iconst cx X55 (z := (3 : Int32)) d4_50 rfl ?_
    refine o_icmpNo cx X55 d4_51 (by decide) ?_
    refine o_aloadN cx X55 d4_54 rfl rfl ?_
    refine o_iloadN cx X55 d4_55 rfl ?_
    refine o_iconst cx X55 (z := (2 : Int32)) d4_56 rfl ?_
    refine o_callSp cx X55 (y' := (⟨"com/example/needlewise/needlewise/KmpPartialMatchPinLaw", "isBorder", "([BII)Z"⟩ : MethodName)) (argsL := [(.ref aa), (.int (4 : Int32)), (.int (2 : Int32))]) (st := []) d4_57 (o_w hw 17 rfl) (o_w hw 18 rfl) (o_w hw 3 rfl) (o_w hw 19 rfl) (by decide) (rib_4_2 l Z a0 hw aa vs b0 b1 b2 b3 h0 n0 X55.ge0 A0 hv0 hv1 hv2 hv3) (by decide) 0 rfl (by decide) rfl (lenOf pd_5 rfl) rfl rfl (by decide) (by decide) fun T60 X61 => ?_
    show own_Go p e below _ (T60.setTop (mkF m 60 #[.val (.ref aa), .val (.int (4 : Int32))] [(.int (own_i (b0 = b2 ∧ b1 = b3)))]))
    by_cases hc65 : (own_i (b0 = b2 ∧ b1 = b3)) = (0 : Int32)
    · refine o_ifYes cx X61 65 d4_60 ((if0 _ _).trans (teq hc65).1) (by decide) (by decide) ?_
      refine o_iloadN cx X61 d4_65 rfl ?_
      refine o_iconst cx X61 (z := (2 : Int32)) d4_66 rfl ?_
      refine o_icmpNo cx X61 d4_67 (by decide) ?_
      refine o_aloadN cx X61 d4_70 rfl rfl ?_
      refine o_iloadN cx X61 d4_71 rfl ?_
      refine o_iconst cx X61 (z := (1 : Int32)) d4_72 rfl ?_
      refine o_callSp cx X61 (y' := (⟨"com/example/needlewise/needlewise/KmpPartialMatchPinLaw", "isBorder", "([BII)Z"⟩ : MethodName)) (argsL := [(.ref aa), (.int (4 : Int32)), (.int (1 : Int32))]) (st := []) d4_73 (o_w hw 17 rfl) (o_w hw 18 rfl) (o_w hw 3 rfl) (o_w hw 19 rfl) (by decide) (rib_4_1 l Z a0 hw aa vs b0 b1 b2 b3 h0 n0 X61.ge0 A0 hv0 hv1 hv2 hv3) (by decide) 0 rfl (by decide) rfl (lenOf pd_5 rfl) rfl rfl (by decide) (by decide) fun T66 X67 => ?_
      show own_Go p e below _ (T66.setTop (mkF m 76 #[.val (.ref aa), .val (.int (4 : Int32))] [(.int (own_i (b0 = b3)))]))
      by_cases hc71 : (own_i (b0 = b3)) = (0 : Int32)
      · refine o_ifYes cx X67 81 d4_76 ((if0 _ _).trans (teq hc71).1) (by decide) (by decide) ?_
        refine o_iconst cx X67 (z := (0 : Int32)) d4_81 rfl ?_
        exact o_retI cx X67 d4_82 ⟨congrArg (fun z => some (Value.int z)) (show (0 : Int32) = own_b4 b0 b1 b2 b3 from Eq.symm (by simp [own_b4, hc59, hc65, hc71])), rfl⟩ (by decide) (by decide)
      · refine o_ifNo cx X67 d4_76 ((if0 _ _).trans (feq hc71).1) ?_
        refine o_iconst cx X67 (z := (1 : Int32)) d4_79 rfl ?_
        exact o_retI cx X67 d4_80 ⟨congrArg (fun z => some (Value.int z)) (show (1 : Int32) = own_b4 b0 b1 b2 b3 from Eq.symm (by simp [own_b4, hc59, hc65, hc71])), rfl⟩ (by decide) (by decide)
    · refine o_ifNo cx X61 d4_60 ((if0 _ _).trans (feq hc65).1) ?_
      refine o_iconst cx X61 (z := (2 : Int32)) d4_63 rfl ?_
      exact o_retI cx X61 d4_64 ⟨congrArg (fun z => some (Value.int z)) (show (2 : Int32) = own_b4 b0 b1 b2 b3 from Eq.symm (by simp [own_b4, hc59, hc65])), rfl⟩ (by decide) (by decide)
  · refine o_ifNo cx X55 d4_44 ((if0 _ _).trans (feq hc59).1) ?_
    refine o_iconst cx X55 (z := (3 : Int32)) d4_47 rfl ?_
    exact o_retI cx X55 d4_48 ⟨congrArg (fun z => some (Value.int z)) (show (3 : Int32) = own_b4 b0 b1 b2 b3 from Eq.symm (by simp [own_b4, hc59])), rfl⟩ (by decide) (by decide)
theorem d4_22 : decode method_5_code 22 = .ok (.aload_n 0, 1) := by decide +kernel
theorem d4_23 : decode method_5_code 23 = .ok (.iload_n 1, 1) := by decide +kernel
theorem d4_24 : decode method_5_code 24 = .ok (.iconst 4, 1) := by decide +kernel
theorem d4_25 : decode method_5_code 25 = .ok (.invokestatic 28, 3) := by decide +kernel
theorem d4_28 : decode method_5_code 28 = .ok (.ifCond .eq 5, 3) := by decide +kernel
theorem d4_31 : decode method_5_code 31 = .ok (.iconst 4, 1) := by decide +kernel
theorem d4_32 : decode method_5_code 32 = .ok (.ireturn, 1) := by decide +kernel
theorem ef_rbd_5 (m : MethodId) (aa : Addr) : entryFrame m #[(.ref aa), (.int (5 : Int32))] 2 = mkF m 0 #[.val (.ref aa), .val (.int (5 : Int32))] [] := by first | (simp [entryFrame, mkF, argsToLocals, Value.category]; done) | rfl
set_option maxRecDepth 65536 in
set_option maxHeartbeats 40000000 in
theorem rbd_5 (l : Launch) (Z : State) (a0 : Array Value) (hw : ∀ d ∈ tables_1, d.before a0 Z = true) (aa : Addr) (vs : List Value) (b0 : Int32) (b1 : Int32) (b2 : Int32) (b3 : Int32) (b4 : Int32) (h0 : Heap) (n0 : Nat) (Z0 : n0 ≤ h0.size) (A0 : own_Ar Z h0 aa .byte vs) (hv0 : vs[0]? = some (.int b0)) (hv1 : vs[1]? = some (.int b1)) (hv2 : vs[2]? = some (.int b2)) (hv3 : vs[3]? = some (.int b3)) (hv4 : vs[4]? = some (.int b4)) :
    own_Met l Z (⟨"com/example/needlewise/needlewise/KmpPartialMatchPinLaw", "border", "([BI)I"⟩ : MethodName) method_5_code 2 (some .int) ({ frames := 1, cells := 0, slots := 0, locals := 14 } : Room) #[(.ref aa), (.int (5 : Int32))] h0 n0 (fun v' h' => v' = some (.int (own_b5 b0 b1 b2 b3 b4)) ∧ h' = h0) := by
  refine own_body (plainFor_of_name pn_5) (fun m => ef_rbd_5 m aa) Z0 ?_
  intro p e s m below meth c T0 cx X0
  show own_Go p e below _ (T0.setTop (mkF m 0 #[.val (.ref aa), .val (.int (5 : Int32))] []))
  refine o_iloadN cx X0 d4_0 rfl ?_
  refine o_bipush cx X0 (z := (6 : Int32)) d4_1 rfl ?_
  refine o_icmpYes cx X0 17 d4_3 (by decide) (by decide) (by decide) ?_
  refine o_iloadN cx X0 d4_17 rfl ?_
  refine o_iconst cx X0 (z := (5 : Int32)) d4_18 rfl ?_
  refine o_icmpNo cx X0 d4_19 (by decide) ?_
  refine o_aloadN cx X0 d4_22 rfl rfl ?_
  refine o_iloadN cx X0 d4_23 rfl ?_
  refine o_iconst cx X0 (z := (4 : Int32)) d4_24 rfl ?_
  refine o_callSp cx X0 (y' := (⟨"com/example/needlewise/needlewise/KmpPartialMatchPinLaw", "isBorder", "([BII)Z"⟩ : MethodName)) (argsL := [(.ref aa), (.int (5 : Int32)), (.int (4 : Int32))]) (st := []) d4_25 (o_w hw 17 rfl) (o_w hw 18 rfl) (o_w hw 3 rfl) (o_w hw 19 rfl) (by decide) (rib_5_4 l Z a0 hw aa vs b0 b1 b2 b3 b4 h0 n0 X0.ge0 A0 hv0 hv1 hv2 hv3 hv4) (by decide) 0 rfl (by decide) rfl (lenOf pd_5 rfl) rfl rfl (by decide) (by decide) fun T72 X73 => ?_
  show own_Go p e below _ (T72.setTop (mkF m 28 #[.val (.ref aa), .val (.int (5 : Int32))] [(.int (own_i (b0 = b1 ∧ b1 = b2 ∧ b2 = b3 ∧ b3 = b4)))]))
  by_cases hc77 : (own_i (b0 = b1 ∧ b1 = b2 ∧ b2 = b3 ∧ b3 = b4)) = (0 : Int32)
  · refine o_ifYes cx X73 33 d4_28 ((if0 _ _).trans (teq hc77).1) (by decide) (by decide) ?_
    refine o_iloadN cx X73 d4_33 rfl ?_
    refine o_iconst cx X73 (z := (4 : Int32)) d4_34 rfl ?_
    refine o_icmpNo cx X73 d4_35 (by decide) ?_
    refine o_aloadN cx X73 d4_38 rfl rfl ?_
    refine o_iloadN cx X73 d4_39 rfl ?_
    refine o_iconst cx X73 (z := (3 : Int32)) d4_40 rfl ?_
    refine o_callSp cx X73 (y' := (⟨"com/example/needlewise/needlewise/KmpPartialMatchPinLaw", "isBorder", "([BII)Z"⟩ : MethodName)) (argsL := [(.ref aa), (.int (5 : Int32)), (.int (3 : Int32))]) (st := []) d4_41 (o_w hw 17 rfl) (o_w hw 18 rfl) (o_w hw 3 rfl) (o_w hw 19 rfl) (by decide) (rib_5_3 l Z a0 hw aa vs b0 b1 b2 b3 b4 h0 n0 X73.ge0 A0 hv0 hv1 hv2 hv3 hv4) (by decide) 0 rfl (by decide) rfl (lenOf pd_5 rfl) rfl rfl (by decide) (by decide) fun T78 X79 => ?_
    show own_Go p e below _ (T78.setTop (mkF m 44 #[.val (.ref aa), .val (.int (5 : Int32))] [(.int (own_i (b0 = b2 ∧ b1 = b3 ∧ b2 = b4)))]))
    by_cases hc83 : (own_i (b0 = b2 ∧ b1 = b3 ∧ b2 = b4)) = (0 : Int32)
    · refine o_ifYes cx X79 49 d4_44 ((if0 _ _).trans (teq hc83).1) (by decide) (by decide) ?_
      refine o_iloadN cx X79 d4_49 rfl ?_
      refine o_iconst cx X79 (z := (3 : Int32)) d4_50 rfl ?_
      refine o_icmpNo cx X79 d4_51 (by decide) ?_
      refine o_aloadN cx X79 d4_54 rfl rfl ?_
      refine o_iloadN cx X79 d4_55 rfl ?_
      refine o_iconst cx X79 (z := (2 : Int32)) d4_56 rfl ?_
      refine o_callSp cx X79 (y' := (⟨"com/example/needlewise/needlewise/KmpPartialMatchPinLaw", "isBorder", "([BII)Z"⟩ : MethodName)) (argsL := [(.ref aa), (.int (5 : Int32)), (.int (2 : Int32))]) (st := []) d4_57 (o_w hw 17 rfl) (o_w hw 18 rfl) (o_w hw 3 rfl) (o_w hw 19 rfl) (by decide) (rib_5_2 l Z a0 hw aa vs b0 b1 b2 b3 b4 h0 n0 X79.ge0 A0 hv0 hv1 hv2 hv3 hv4) (by decide) 0 rfl (by decide) rfl (lenOf pd_5 rfl) rfl rfl (by decide) (by decide) fun T84 X85 => ?_
      show own_Go p e below _ (T84.setTop (mkF m 60 #[.val (.ref aa), .val (.int (5 : Int32))] [(.int (own_i (b0 = b3 ∧ b1 = b4)))]))
      by_cases hc89 : (own_i (b0 = b3 ∧ b1 = b4)) = (0 : Int32)
      · refine o_ifYes cx X85 65 d4_60 ((if0 _ _).trans (teq hc89).1) (by decide) (by decide) ?_
        refine o_iloadN cx X85 d4_65 rfl ?_
        refine o_iconst cx X85 (z := (2 : Int32)) d4_66 rfl ?_
        refine o_icmpNo cx X85 d4_67 (by decide) ?_
        refine o_aloadN cx X85 d4_70 rfl rfl ?_
        refine o_iloadN cx X85 d4_71 rfl ?_
        refine o_iconst cx X85 (z := (1 : Int32)) d4_72 rfl ?_
        refine o_callSp cx X85 (y' := (⟨"com/example/needlewise/needlewise/KmpPartialMatchPinLaw", "isBorder", "([BII)Z"⟩ : MethodName)) (argsL := [(.ref aa), (.int (5 : Int32)), (.int (1 : Int32))]) (st := []) d4_73 (o_w hw 17 rfl) (o_w hw 18 rfl) (o_w hw 3 rfl) (o_w hw 19 rfl) (by decide) (rib_5_1 l Z a0 hw aa vs b0 b1 b2 b3 b4 h0 n0 X85.ge0 A0 hv0 hv1 hv2 hv3 hv4) (by decide) 0 rfl (by decide) rfl (lenOf pd_5 rfl) rfl rfl (by decide) (by decide) fun T90 X91 => ?_
        show own_Go p e below _ (T90.setTop (mkF m 76 #[.val (.ref aa), .val (.int (5 : Int32))] [(.int (own_i (b0 = b4)))]))
        by_cases hc95 : (own_i (b0 = b4)) = (0 : Int32)
        · refine o_ifYes cx X91 81 d4_76 ((if0 _ _).trans (teq hc95).1) (by decide) (by decide) ?_
          refine o_iconst cx X91 (z := (0 : Int32)) d4_81 rfl ?_
          exact o_retI cx X91 d4_82 ⟨congrArg (fun z => some (Value.int z)) (show (0 : Int32) = own_b5 b0 b1 b2 b3 b4 from Eq.symm (by simp [own_b5, hc77, hc83, hc89, hc95])), rfl⟩ (by decide) (by decide)
        · refine o_ifNo cx X91 d4_76 ((if0 _ _).trans (feq hc95).1) ?_
          refine o_iconst cx X91 (z := (1 : Int32)) d4_79 rfl ?_
          exact o_retI cx X91 d4_80 ⟨congrArg (fun z => some (Value.int z)) (show (1 : Int32) = own_b5 b0 b1 b2 b3 b4 from Eq.symm (by simp [own_b5, hc77, hc83, hc89, hc95])), rfl⟩ (by decide) (by decide)
      · refine o_ifNo cx X85 d4_60 ((if0 _ _).trans (feq hc89).1) ?_
        refine o_iconst cx X85 (z := (2 : Int32)) d4_63 rfl ?_
        exact o_retI cx X85 d4_64 ⟨congrArg (fun z => some (Value.int z)) (show (2 : Int32) = own_b5 b0 b1 b2 b3 b4 from Eq.symm (by simp [own_b5, hc77, hc83, hc89])), rfl⟩ (by decide) (by decide)
    · refine o_ifNo cx X79 d4_44 ((if0 _ _).trans (feq hc83).1) ?_
      refine o_iconst cx X79 (z := (3 : Int32)) d4_47 rfl ?_
      exact o_retI cx X79 d4_48 ⟨congrArg (fun z => some (Value.int z)) (show (3 : Int32) = own_b5 b0 b1 b2 b3 b4 from Eq.symm (by simp [own_b5, hc77, hc83])), rfl⟩ (by decide) (by decide)
  · refine o_ifNo cx X73 d4_28 ((if0 _ _).trans (feq hc77).1) ?_
    refine o_iconst cx X73 (z := (4 : Int32)) d4_31 rfl ?_
    exact o_retI cx X73 d4_32 ⟨congrArg (fun z => some (Value.int z)) (show (4 : Int32) = own_b5 b0 b1 b2 b3 b4 from Eq.symm (by simp [own_b5, hc77])), rfl⟩ (by decide) (by decide)
theorem d4_6 : decode method_5_code 6 = .ok (.aload_n 0, 1) := by decide +kernel
theorem d4_7 : decode method_5_code 7 = .ok (.iload_n 1, 1) := by decide +kernel
theorem d4_8 : decode method_5_code 8 = .ok (.iconst 5, 1) := by decide +kernel
theorem d4_9 : decode method_5_code 9 = .ok (.invokestatic 28, 3) := by decide +kernel
theorem d4_12 : decode method_5_code 12 = .ok (.ifCond .eq 5, 3) := by decide +kernel
theorem d4_15 : decode method_5_code 15 = .ok (.iconst 5, 1) := by decide +kernel
theorem d4_16 : decode method_5_code 16 = .ok (.ireturn, 1) := by decide +kernel
theorem ef_rbd_6 (m : MethodId) (aa : Addr) : entryFrame m #[(.ref aa), (.int (6 : Int32))] 2 = mkF m 0 #[.val (.ref aa), .val (.int (6 : Int32))] [] := by first | (simp [entryFrame, mkF, argsToLocals, Value.category]; done) | rfl
set_option maxRecDepth 65536 in
set_option maxHeartbeats 40000000 in
theorem rbd_6 (l : Launch) (Z : State) (a0 : Array Value) (hw : ∀ d ∈ tables_1, d.before a0 Z = true) (aa : Addr) (vs : List Value) (b0 : Int32) (b1 : Int32) (b2 : Int32) (b3 : Int32) (b4 : Int32) (b5 : Int32) (h0 : Heap) (n0 : Nat) (Z0 : n0 ≤ h0.size) (A0 : own_Ar Z h0 aa .byte vs) (hv0 : vs[0]? = some (.int b0)) (hv1 : vs[1]? = some (.int b1)) (hv2 : vs[2]? = some (.int b2)) (hv3 : vs[3]? = some (.int b3)) (hv4 : vs[4]? = some (.int b4)) (hv5 : vs[5]? = some (.int b5)) :
    own_Met l Z (⟨"com/example/needlewise/needlewise/KmpPartialMatchPinLaw", "border", "([BI)I"⟩ : MethodName) method_5_code 2 (some .int) ({ frames := 1, cells := 0, slots := 0, locals := 14 } : Room) #[(.ref aa), (.int (6 : Int32))] h0 n0 (fun v' h' => v' = some (.int (own_b6 b0 b1 b2 b3 b4 b5)) ∧ h' = h0) := by
  refine own_body (plainFor_of_name pn_5) (fun m => ef_rbd_6 m aa) Z0 ?_
  intro p e s m below meth c T0 cx X0
  show own_Go p e below _ (T0.setTop (mkF m 0 #[.val (.ref aa), .val (.int (6 : Int32))] []))
  refine o_iloadN cx X0 d4_0 rfl ?_
  refine o_bipush cx X0 (z := (6 : Int32)) d4_1 rfl ?_
  refine o_icmpNo cx X0 d4_3 (by decide) ?_
  refine o_aloadN cx X0 d4_6 rfl rfl ?_
  refine o_iloadN cx X0 d4_7 rfl ?_
  refine o_iconst cx X0 (z := (5 : Int32)) d4_8 rfl ?_
  refine o_callSp cx X0 (y' := (⟨"com/example/needlewise/needlewise/KmpPartialMatchPinLaw", "isBorder", "([BII)Z"⟩ : MethodName)) (argsL := [(.ref aa), (.int (6 : Int32)), (.int (5 : Int32))]) (st := []) d4_9 (o_w hw 17 rfl) (o_w hw 18 rfl) (o_w hw 3 rfl) (o_w hw 19 rfl) (by decide) (rib_6_5 l Z a0 hw aa vs b0 b1 b2 b3 b4 b5 h0 n0 X0.ge0 A0 hv0 hv1 hv2 hv3 hv4 hv5) (by decide) 0 rfl (by decide) rfl (lenOf pd_5 rfl) rfl rfl (by decide) (by decide) fun T96 X97 => ?_
  show own_Go p e below _ (T96.setTop (mkF m 12 #[.val (.ref aa), .val (.int (6 : Int32))] [(.int (own_i (b0 = b1 ∧ b1 = b2 ∧ b2 = b3 ∧ b3 = b4 ∧ b4 = b5)))]))
  by_cases hc101 : (own_i (b0 = b1 ∧ b1 = b2 ∧ b2 = b3 ∧ b3 = b4 ∧ b4 = b5)) = (0 : Int32)
  · refine o_ifYes cx X97 17 d4_12 ((if0 _ _).trans (teq hc101).1) (by decide) (by decide) ?_
    refine o_iloadN cx X97 d4_17 rfl ?_
    refine o_iconst cx X97 (z := (5 : Int32)) d4_18 rfl ?_
    refine o_icmpNo cx X97 d4_19 (by decide) ?_
    refine o_aloadN cx X97 d4_22 rfl rfl ?_
    refine o_iloadN cx X97 d4_23 rfl ?_
    refine o_iconst cx X97 (z := (4 : Int32)) d4_24 rfl ?_
    refine o_callSp cx X97 (y' := (⟨"com/example/needlewise/needlewise/KmpPartialMatchPinLaw", "isBorder", "([BII)Z"⟩ : MethodName)) (argsL := [(.ref aa), (.int (6 : Int32)), (.int (4 : Int32))]) (st := []) d4_25 (o_w hw 17 rfl) (o_w hw 18 rfl) (o_w hw 3 rfl) (o_w hw 19 rfl) (by decide) (rib_6_4 l Z a0 hw aa vs b0 b1 b2 b3 b4 b5 h0 n0 X97.ge0 A0 hv0 hv1 hv2 hv3 hv4 hv5) (by decide) 0 rfl (by decide) rfl (lenOf pd_5 rfl) rfl rfl (by decide) (by decide) fun T102 X103 => ?_
    show own_Go p e below _ (T102.setTop (mkF m 28 #[.val (.ref aa), .val (.int (6 : Int32))] [(.int (own_i (b0 = b2 ∧ b1 = b3 ∧ b2 = b4 ∧ b3 = b5)))]))
    by_cases hc107 : (own_i (b0 = b2 ∧ b1 = b3 ∧ b2 = b4 ∧ b3 = b5)) = (0 : Int32)
    · refine o_ifYes cx X103 33 d4_28 ((if0 _ _).trans (teq hc107).1) (by decide) (by decide) ?_
      refine o_iloadN cx X103 d4_33 rfl ?_
      refine o_iconst cx X103 (z := (4 : Int32)) d4_34 rfl ?_
      refine o_icmpNo cx X103 d4_35 (by decide) ?_
      refine o_aloadN cx X103 d4_38 rfl rfl ?_
      refine o_iloadN cx X103 d4_39 rfl ?_
      refine o_iconst cx X103 (z := (3 : Int32)) d4_40 rfl ?_
      refine o_callSp cx X103 (y' := (⟨"com/example/needlewise/needlewise/KmpPartialMatchPinLaw", "isBorder", "([BII)Z"⟩ : MethodName)) (argsL := [(.ref aa), (.int (6 : Int32)), (.int (3 : Int32))]) (st := []) d4_41 (o_w hw 17 rfl) (o_w hw 18 rfl) (o_w hw 3 rfl) (o_w hw 19 rfl) (by decide) (rib_6_3 l Z a0 hw aa vs b0 b1 b2 b3 b4 b5 h0 n0 X103.ge0 A0 hv0 hv1 hv2 hv3 hv4 hv5) (by decide) 0 rfl (by decide) rfl (lenOf pd_5 rfl) rfl rfl (by decide) (by decide) fun T108 X109 => ?_
      show own_Go p e below _ (T108.setTop (mkF m 44 #[.val (.ref aa), .val (.int (6 : Int32))] [(.int (own_i (b0 = b3 ∧ b1 = b4 ∧ b2 = b5)))]))
      by_cases hc113 : (own_i (b0 = b3 ∧ b1 = b4 ∧ b2 = b5)) = (0 : Int32)
      · refine o_ifYes cx X109 49 d4_44 ((if0 _ _).trans (teq hc113).1) (by decide) (by decide) ?_
        refine o_iloadN cx X109 d4_49 rfl ?_
        refine o_iconst cx X109 (z := (3 : Int32)) d4_50 rfl ?_
        refine o_icmpNo cx X109 d4_51 (by decide) ?_
        refine o_aloadN cx X109 d4_54 rfl rfl ?_
        refine o_iloadN cx X109 d4_55 rfl ?_
        refine o_iconst cx X109 (z := (2 : Int32)) d4_56 rfl ?_
        refine o_callSp cx X109 (y' := (⟨"com/example/needlewise/needlewise/KmpPartialMatchPinLaw", "isBorder", "([BII)Z"⟩ : MethodName)) (argsL := [(.ref aa), (.int (6 : Int32)), (.int (2 : Int32))]) (st := []) d4_57 (o_w hw 17 rfl) (o_w hw 18 rfl) (o_w hw 3 rfl) (o_w hw 19 rfl) (by decide) (rib_6_2 l Z a0 hw aa vs b0 b1 b2 b3 b4 b5 h0 n0 X109.ge0 A0 hv0 hv1 hv2 hv3 hv4 hv5) (by decide) 0 rfl (by decide) rfl (lenOf pd_5 rfl) rfl rfl (by decide) (by decide) fun T114 X115 => ?_
        show own_Go p e below _ (T114.setTop (mkF m 60 #[.val (.ref aa), .val (.int (6 : Int32))] [(.int (own_i (b0 = b4 ∧ b1 = b5)))]))
        by_cases hc119 : (own_i (b0 = b4 ∧ b1 = b5)) = (0 : Int32)
        · refine o_ifYes cx X115 65 d4_60 ((if0 _ _).trans (teq hc119).1) (by decide) (by decide) ?_
          refine o_iloadN cx X115 d4_65 rfl ?_
          refine o_iconst cx X115 (z := (2 : Int32)) d4_66 rfl ?_
          refine o_icmpNo cx X115 d4_67 (by decide) ?_
          refine o_aloadN cx X115 d4_70 rfl rfl ?_
          refine o_iloadN cx X115 d4_71 rfl ?_
          refine o_iconst cx X115 (z := (1 : Int32)) d4_72 rfl ?_
          refine o_callSp cx X115 (y' := (⟨"com/example/needlewise/needlewise/KmpPartialMatchPinLaw", "isBorder", "([BII)Z"⟩ : MethodName)) (argsL := [(.ref aa), (.int (6 : Int32)), (.int (1 : Int32))]) (st := []) d4_73 (o_w hw 17 rfl) (o_w hw 18 rfl) (o_w hw 3 rfl) (o_w hw 19 rfl) (by decide) (rib_6_1 l Z a0 hw aa vs b0 b1 b2 b3 b4 b5 h0 n0 X115.ge0 A0 hv0 hv1 hv2 hv3 hv4 hv5) (by decide) 0 rfl (by decide) rfl (lenOf pd_5 rfl) rfl rfl (by decide) (by decide) fun T120 X121 => ?_
          show own_Go p e below _ (T120.setTop (mkF m 76 #[.val (.ref aa), .val (.int (6 : Int32))] [(.int (own_i (b0 = b5)))]))
          by_cases hc125 : (own_i (b0 = b5)) = (0 : Int32)
          · refine o_ifYes cx X121 81 d4_76 ((if0 _ _).trans (teq hc125).1) (by decide) (by decide) ?_
            refine o_iconst cx X121 (z := (0 : Int32)) d4_81 rfl ?_
            exact o_retI cx X121 d4_82 ⟨congrArg (fun z => some (Value.int z)) (show (0 : Int32) = own_b6 b0 b1 b2 b3 b4 b5 from Eq.symm (by simp [own_b6, hc101, hc107, hc113, hc119, hc125])), rfl⟩ (by decide) (by decide)
          · refine o_ifNo cx X121 d4_76 ((if0 _ _).trans (feq hc125).1) ?_
            refine o_iconst cx X121 (z := (1 : Int32)) d4_79 rfl ?_
            exact o_retI cx X121 d4_80 ⟨congrArg (fun z => some (Value.int z)) (show (1 : Int32) = own_b6 b0 b1 b2 b3 b4 b5 from Eq.symm (by simp [own_b6, hc101, hc107, hc113, hc119, hc125])), rfl⟩ (by decide) (by decide)
        · refine o_ifNo cx X115 d4_60 ((if0 _ _).trans (feq hc119).1) ?_
          refine o_iconst cx X115 (z := (2 : Int32)) d4_63 rfl ?_
          exact o_retI cx X115 d4_64 ⟨congrArg (fun z => some (Value.int z)) (show (2 : Int32) = own_b6 b0 b1 b2 b3 b4 b5 from Eq.symm (by simp [own_b6, hc101, hc107, hc113, hc119])), rfl⟩ (by decide) (by decide)
      · refine o_ifNo cx X109 d4_44 ((if0 _ _).trans (feq hc113).1) ?_
        refine o_iconst cx X109 (z := (3 : Int32)) d4_47 rfl ?_
        exact o_retI cx X109 d4_48 ⟨congrArg (fun z => some (Value.int z)) (show (3 : Int32) = own_b6 b0 b1 b2 b3 b4 b5 from Eq.symm (by simp [own_b6, hc101, hc107, hc113])), rfl⟩ (by decide) (by decide)
    · refine o_ifNo cx X103 d4_28 ((if0 _ _).trans (feq hc107).1) ?_
      refine o_iconst cx X103 (z := (4 : Int32)) d4_31 rfl ?_
      exact o_retI cx X103 d4_32 ⟨congrArg (fun z => some (Value.int z)) (show (4 : Int32) = own_b6 b0 b1 b2 b3 b4 b5 from Eq.symm (by simp [own_b6, hc101, hc107])), rfl⟩ (by decide) (by decide)
  · refine o_ifNo cx X97 d4_12 ((if0 _ _).trans (feq hc101).1) ?_
    refine o_iconst cx X97 (z := (5 : Int32)) d4_15 rfl ?_
    exact o_retI cx X97 d4_16 ⟨congrArg (fun z => some (Value.int z)) (show (5 : Int32) = own_b6 b0 b1 b2 b3 b4 b5 from Eq.symm (by simp [own_b6, hc101])), rfl⟩ (by decide) (by decide)
theorem d3_0 : decode method_4_code 0 = .ok (.iload_n 3, 1) := by decide +kernel
theorem d3_1 : decode method_4_code 1 = .ok (.iload_n 2, 1) := by decide +kernel
theorem d3_2 : decode method_4_code 2 = .ok (.if_icmp .ge 16, 3) := by decide +kernel
theorem d3_5 : decode method_4_code 5 = .ok (.aload_n 0, 1) := by decide +kernel
theorem d3_6 : decode method_4_code 6 = .ok (.iload_n 3, 1) := by decide +kernel
theorem d3_7 : decode method_4_code 7 = .ok (.iaload, 1) := by decide +kernel
theorem d3_8 : decode method_4_code 8 = .ok (.aload_n 1, 1) := by decide +kernel
theorem d3_9 : decode method_4_code 9 = .ok (.iload_n 3, 1) := by decide +kernel
theorem d3_10 : decode method_4_code 10 = .ok (.iconst 1, 1) := by decide +kernel
theorem d3_11 : decode method_4_code 11 = .ok (.iadd, 1) := by decide +kernel
theorem d3_12 : decode method_4_code 12 = .ok (.invokestatic 24, 3) := by decide +kernel
theorem pd_4 : parseMethodDescriptor "([BI)I" = some ⟨[(.array .byte), .int], some .int⟩ := by decide +kernel
theorem d3_15 : decode method_4_code 15 = .ok (.if_icmp .ne 7, 3) := by decide +kernel
theorem d3_18 : decode method_4_code 18 = .ok (.iconst 1, 1) := by decide +kernel
theorem d3_19 : decode method_4_code 19 = .ok (.goto 4, 3) := by decide +kernel
theorem d3_23 : decode method_4_code 23 = .ok (.ireturn, 1) := by decide +kernel
theorem ef_rok_1_0 (m : MethodId) (ab : Addr) (aa : Addr) : entryFrame m #[(.ref ab), (.ref aa), (.int (1 : Int32)), (.int (0 : Int32))] 4 = mkF m 0 #[.val (.ref ab), .val (.ref aa), .val (.int (1 : Int32)), .val (.int (0 : Int32))] [] := by first | (simp [entryFrame, mkF, argsToLocals, Value.category]; done) | rfl
set_option maxRecDepth 65536 in
set_option maxHeartbeats 40000000 in
theorem rok_1_0 (l : Launch) (Z : State) (a0 : Array Value) (hw : ∀ d ∈ tables_1, d.before a0 Z = true) (ab : Addr) (aa : Addr) (ts : List Value) (vs : List Value) (b0 : Int32) (h0 : Heap) (n0 : Nat) (Z0 : n0 ≤ h0.size) (A0 : own_Ar Z h0 aa .byte vs) (hv0 : vs[0]? = some (.int b0)) (A1 : own_Ar Z h0 ab .int ts) (ht : ts[0]? = some (.int (own_b1 b0))) :
    own_Met l Z (⟨"com/example/needlewise/needlewise/KmpPartialMatchPinLaw", "ok", "([I[BII)Z"⟩ : MethodName) method_4_code 4 (some .boolean) ({ frames := 1, cells := 0, slots := 0, locals := 14 } : Room) #[(.ref ab), (.ref aa), (.int (1 : Int32)), (.int (0 : Int32))] h0 n0 (fun v' h' => v' = some (.int 1) ∧ h' = h0) := by
  refine own_body (plainFor_of_name pn_5) (fun m => ef_rok_1_0 m ab aa) Z0 ?_
  intro p e s m below meth c T0 cx X0
  show own_Go p e below _ (T0.setTop (mkF m 0 #[.val (.ref ab), .val (.ref aa), .val (.int (1 : Int32)), .val (.int (0 : Int32))] []))
  refine o_iloadN cx X0 d3_0 rfl ?_
  refine o_iloadN cx X0 d3_1 rfl ?_
  refine o_icmpNo cx X0 d3_2 (by decide) ?_
  refine o_aloadN cx X0 d3_5 rfl rfl ?_
  refine o_iloadN cx X0 d3_6 rfl ?_
  refine o_ldI cx X0 (v := (.int (own_b1 b0))) d3_7 A1 0 (by decide) rfl ht ?_
  refine o_aloadN cx X0 d3_8 rfl rfl ?_
  refine o_iloadN cx X0 d3_9 rfl ?_
  refine o_iconst cx X0 (z := (1 : Int32)) d3_10 rfl ?_
  refine o_iadd cx X0 (z := (1 : Int32)) d3_11 rfl ?_
  refine o_callSp cx X0 (y' := (⟨"com/example/needlewise/needlewise/KmpPartialMatchPinLaw", "border", "([BI)I"⟩ : MethodName)) (argsL := [(.ref aa), (.int (1 : Int32))]) (st := [(.int (own_b1 b0))]) d3_12 (o_w hw 14 rfl) (o_w hw 15 rfl) (o_w hw 3 rfl) (o_w hw 16 rfl) (by decide) (rbd_1 l Z a0 hw aa vs b0 h0 n0 X0.ge0 A0 hv0) (by decide) 1 rfl (by decide) rfl (lenOf pd_4 rfl) rfl rfl (by decide) (by decide) fun T126 X127 => ?_
  show own_Go p e below _ (T126.setTop (mkF m 15 #[.val (.ref ab), .val (.ref aa), .val (.int (1 : Int32)), .val (.int (0 : Int32))] [(.int (own_b1 b0)), (.int (own_b1 b0))]))
  refine o_icmpNo cx X127 d3_15 (teq rfl).2 ?_
  refine o_iconst cx X127 (z := (1 : Int32)) d3_18 rfl ?_
  refine o_goto cx X127 23 d3_19 (by decide) (by decide) ?_
  exact o_retN cx X127 (z' := (1 : Int32)) d3_23 (by simp) rfl ⟨rfl, rfl⟩ (by decide) (by decide)
theorem ef_rok_2_0 (m : MethodId) (ab : Addr) (aa : Addr) : entryFrame m #[(.ref ab), (.ref aa), (.int (2 : Int32)), (.int (0 : Int32))] 4 = mkF m 0 #[.val (.ref ab), .val (.ref aa), .val (.int (2 : Int32)), .val (.int (0 : Int32))] [] := by first | (simp [entryFrame, mkF, argsToLocals, Value.category]; done) | rfl
set_option maxRecDepth 65536 in
set_option maxHeartbeats 40000000 in
theorem rok_2_0 (l : Launch) (Z : State) (a0 : Array Value) (hw : ∀ d ∈ tables_1, d.before a0 Z = true) (ab : Addr) (aa : Addr) (ts : List Value) (vs : List Value) (b0 : Int32) (h0 : Heap) (n0 : Nat) (Z0 : n0 ≤ h0.size) (A0 : own_Ar Z h0 aa .byte vs) (hv0 : vs[0]? = some (.int b0)) (A1 : own_Ar Z h0 ab .int ts) (ht : ts[0]? = some (.int (own_b1 b0))) :
    own_Met l Z (⟨"com/example/needlewise/needlewise/KmpPartialMatchPinLaw", "ok", "([I[BII)Z"⟩ : MethodName) method_4_code 4 (some .boolean) ({ frames := 1, cells := 0, slots := 0, locals := 14 } : Room) #[(.ref ab), (.ref aa), (.int (2 : Int32)), (.int (0 : Int32))] h0 n0 (fun v' h' => v' = some (.int 1) ∧ h' = h0) := by
  refine own_body (plainFor_of_name pn_5) (fun m => ef_rok_2_0 m ab aa) Z0 ?_
  intro p e s m below meth c T0 cx X0
  show own_Go p e below _ (T0.setTop (mkF m 0 #[.val (.ref ab), .val (.ref aa), .val (.int (2 : Int32)), .val (.int (0 : Int32))] []))
  refine o_iloadN cx X0 d3_0 rfl ?_
  refine o_iloadN cx X0 d3_1 rfl ?_
  refine o_icmpNo cx X0 d3_2 (by decide) ?_
  refine o_aloadN cx X0 d3_5 rfl rfl ?_
  refine o_iloadN cx X0 d3_6 rfl ?_
  refine o_ldI cx X0 (v := (.int (own_b1 b0))) d3_7 A1 0 (by decide) rfl ht ?_
  refine o_aloadN cx X0 d3_8 rfl rfl ?_
  refine o_iloadN cx X0 d3_9 rfl ?_
  refine o_iconst cx X0 (z := (1 : Int32)) d3_10 rfl ?_
  refine o_iadd cx X0 (z := (1 : Int32)) d3_11 rfl ?_
  refine o_callSp cx X0 (y' := (⟨"com/example/needlewise/needlewise/KmpPartialMatchPinLaw", "border", "([BI)I"⟩ : MethodName)) (argsL := [(.ref aa), (.int (1 : Int32))]) (st := [(.int (own_b1 b0))]) d3_12 (o_w hw 14 rfl) (o_w hw 15 rfl) (o_w hw 3 rfl) (o_w hw 16 rfl) (by decide) (rbd_1 l Z a0 hw aa vs b0 h0 n0 X0.ge0 A0 hv0) (by decide) 1 rfl (by decide) rfl (lenOf pd_4 rfl) rfl rfl (by decide) (by decide) fun T131 X132 => ?_
  show own_Go p e below _ (T131.setTop (mkF m 15 #[.val (.ref ab), .val (.ref aa), .val (.int (2 : Int32)), .val (.int (0 : Int32))] [(.int (own_b1 b0)), (.int (own_b1 b0))]))
  refine o_icmpNo cx X132 d3_15 (teq rfl).2 ?_
  refine o_iconst cx X132 (z := (1 : Int32)) d3_18 rfl ?_
  refine o_goto cx X132 23 d3_19 (by decide) (by decide) ?_
  exact o_retN cx X132 (z' := (1 : Int32)) d3_23 (by simp) rfl ⟨rfl, rfl⟩ (by decide) (by decide)
theorem ef_rok_3_0 (m : MethodId) (ab : Addr) (aa : Addr) : entryFrame m #[(.ref ab), (.ref aa), (.int (3 : Int32)), (.int (0 : Int32))] 4 = mkF m 0 #[.val (.ref ab), .val (.ref aa), .val (.int (3 : Int32)), .val (.int (0 : Int32))] [] := by first | (simp [entryFrame, mkF, argsToLocals, Value.category]; done) | rfl
set_option maxRecDepth 65536 in
set_option maxHeartbeats 40000000 in
theorem rok_3_0 (l : Launch) (Z : State) (a0 : Array Value) (hw : ∀ d ∈ tables_1, d.before a0 Z = true) (ab : Addr) (aa : Addr) (ts : List Value) (vs : List Value) (b0 : Int32) (h0 : Heap) (n0 : Nat) (Z0 : n0 ≤ h0.size) (A0 : own_Ar Z h0 aa .byte vs) (hv0 : vs[0]? = some (.int b0)) (A1 : own_Ar Z h0 ab .int ts) (ht : ts[0]? = some (.int (own_b1 b0))) :
    own_Met l Z (⟨"com/example/needlewise/needlewise/KmpPartialMatchPinLaw", "ok", "([I[BII)Z"⟩ : MethodName) method_4_code 4 (some .boolean) ({ frames := 1, cells := 0, slots := 0, locals := 14 } : Room) #[(.ref ab), (.ref aa), (.int (3 : Int32)), (.int (0 : Int32))] h0 n0 (fun v' h' => v' = some (.int 1) ∧ h' = h0) := by
  refine own_body (plainFor_of_name pn_5) (fun m => ef_rok_3_0 m ab aa) Z0 ?_
  intro p e s m below meth c T0 cx X0
  show own_Go p e below _ (T0.setTop (mkF m 0 #[.val (.ref ab), .val (.ref aa), .val (.int (3 : Int32)), .val (.int (0 : Int32))] []))
  refine o_iloadN cx X0 d3_0 rfl ?_
  refine o_iloadN cx X0 d3_1 rfl ?_
  refine o_icmpNo cx X0 d3_2 (by decide) ?_
  refine o_aloadN cx X0 d3_5 rfl rfl ?_
  refine o_iloadN cx X0 d3_6 rfl ?_
  refine o_ldI cx X0 (v := (.int (own_b1 b0))) d3_7 A1 0 (by decide) rfl ht ?_
  refine o_aloadN cx X0 d3_8 rfl rfl ?_
  refine o_iloadN cx X0 d3_9 rfl ?_
  refine o_iconst cx X0 (z := (1 : Int32)) d3_10 rfl ?_
  refine o_iadd cx X0 (z := (1 : Int32)) d3_11 rfl ?_
  refine o_callSp cx X0 (y' := (⟨"com/example/needlewise/needlewise/KmpPartialMatchPinLaw", "border", "([BI)I"⟩ : MethodName)) (argsL := [(.ref aa), (.int (1 : Int32))]) (st := [(.int (own_b1 b0))]) d3_12 (o_w hw 14 rfl) (o_w hw 15 rfl) (o_w hw 3 rfl) (o_w hw 16 rfl) (by decide) (rbd_1 l Z a0 hw aa vs b0 h0 n0 X0.ge0 A0 hv0) (by decide) 1 rfl (by decide) rfl (lenOf pd_4 rfl) rfl rfl (by decide) (by decide) fun T136 X137 => ?_
  show own_Go p e below _ (T136.setTop (mkF m 15 #[.val (.ref ab), .val (.ref aa), .val (.int (3 : Int32)), .val (.int (0 : Int32))] [(.int (own_b1 b0)), (.int (own_b1 b0))]))
  refine o_icmpNo cx X137 d3_15 (teq rfl).2 ?_
  refine o_iconst cx X137 (z := (1 : Int32)) d3_18 rfl ?_
  refine o_goto cx X137 23 d3_19 (by decide) (by decide) ?_
  exact o_retN cx X137 (z' := (1 : Int32)) d3_23 (by simp) rfl ⟨rfl, rfl⟩ (by decide) (by decide)
theorem ef_rok_4_0 (m : MethodId) (ab : Addr) (aa : Addr) : entryFrame m #[(.ref ab), (.ref aa), (.int (4 : Int32)), (.int (0 : Int32))] 4 = mkF m 0 #[.val (.ref ab), .val (.ref aa), .val (.int (4 : Int32)), .val (.int (0 : Int32))] [] := by first | (simp [entryFrame, mkF, argsToLocals, Value.category]; done) | rfl
set_option maxRecDepth 65536 in
set_option maxHeartbeats 40000000 in
theorem rok_4_0 (l : Launch) (Z : State) (a0 : Array Value) (hw : ∀ d ∈ tables_1, d.before a0 Z = true) (ab : Addr) (aa : Addr) (ts : List Value) (vs : List Value) (b0 : Int32) (h0 : Heap) (n0 : Nat) (Z0 : n0 ≤ h0.size) (A0 : own_Ar Z h0 aa .byte vs) (hv0 : vs[0]? = some (.int b0)) (A1 : own_Ar Z h0 ab .int ts) (ht : ts[0]? = some (.int (own_b1 b0))) :
    own_Met l Z (⟨"com/example/needlewise/needlewise/KmpPartialMatchPinLaw", "ok", "([I[BII)Z"⟩ : MethodName) method_4_code 4 (some .boolean) ({ frames := 1, cells := 0, slots := 0, locals := 14 } : Room) #[(.ref ab), (.ref aa), (.int (4 : Int32)), (.int (0 : Int32))] h0 n0 (fun v' h' => v' = some (.int 1) ∧ h' = h0) := by
  refine own_body (plainFor_of_name pn_5) (fun m => ef_rok_4_0 m ab aa) Z0 ?_
  intro p e s m below meth c T0 cx X0
  show own_Go p e below _ (T0.setTop (mkF m 0 #[.val (.ref ab), .val (.ref aa), .val (.int (4 : Int32)), .val (.int (0 : Int32))] []))
  refine o_iloadN cx X0 d3_0 rfl ?_
  refine o_iloadN cx X0 d3_1 rfl ?_
  refine o_icmpNo cx X0 d3_2 (by decide) ?_
  refine o_aloadN cx X0 d3_5 rfl rfl ?_
  refine o_iloadN cx X0 d3_6 rfl ?_
  refine o_ldI cx X0 (v := (.int (own_b1 b0))) d3_7 A1 0 (by decide) rfl ht ?_
  refine o_aloadN cx X0 d3_8 rfl rfl ?_
  refine o_iloadN cx X0 d3_9 rfl ?_
  refine o_iconst cx X0 (z := (1 : Int32)) d3_10 rfl ?_
  refine o_iadd cx X0 (z := (1 : Int32)) d3_11 rfl ?_
  refine o_callSp cx X0 (y' := (⟨"com/example/needlewise/needlewise/KmpPartialMatchPinLaw", "border", "([BI)I"⟩ : MethodName)) (argsL := [(.ref aa), (.int (1 : Int32))]) (st := [(.int (own_b1 b0))]) d3_12 (o_w hw 14 rfl) (o_w hw 15 rfl) (o_w hw 3 rfl) (o_w hw 16 rfl) (by decide) (rbd_1 l Z a0 hw aa vs b0 h0 n0 X0.ge0 A0 hv0) (by decide) 1 rfl (by decide) rfl (lenOf pd_4 rfl) rfl rfl (by decide) (by decide) fun T141 X142 => ?_
  show own_Go p e below _ (T141.setTop (mkF m 15 #[.val (.ref ab), .val (.ref aa), .val (.int (4 : Int32)), .val (.int (0 : Int32))] [(.int (own_b1 b0)), (.int (own_b1 b0))]))
  refine o_icmpNo cx X142 d3_15 (teq rfl).2 ?_
  refine o_iconst cx X142 (z := (1 : Int32)) d3_18 rfl ?_
  refine o_goto cx X142 23 d3_19 (by decide) (by decide) ?_
  exact o_retN cx X142 (z' := (1 : Int32)) d3_23 (by simp) rfl ⟨rfl, rfl⟩ (by decide) (by decide)
theorem ef_rok_5_0 (m : MethodId) (ab : Addr) (aa : Addr) : entryFrame m #[(.ref ab), (.ref aa), (.int (5 : Int32)), (.int (0 : Int32))] 4 = mkF m 0 #[.val (.ref ab), .val (.ref aa), .val (.int (5 : Int32)), .val (.int (0 : Int32))] [] := by first | (simp [entryFrame, mkF, argsToLocals, Value.category]; done) | rfl
set_option maxRecDepth 65536 in
set_option maxHeartbeats 40000000 in
theorem rok_5_0 (l : Launch) (Z : State) (a0 : Array Value) (hw : ∀ d ∈ tables_1, d.before a0 Z = true) (ab : Addr) (aa : Addr) (ts : List Value) (vs : List Value) (b0 : Int32) (h0 : Heap) (n0 : Nat) (Z0 : n0 ≤ h0.size) (A0 : own_Ar Z h0 aa .byte vs) (hv0 : vs[0]? = some (.int b0)) (A1 : own_Ar Z h0 ab .int ts) (ht : ts[0]? = some (.int (own_b1 b0))) :
    own_Met l Z (⟨"com/example/needlewise/needlewise/KmpPartialMatchPinLaw", "ok", "([I[BII)Z"⟩ : MethodName) method_4_code 4 (some .boolean) ({ frames := 1, cells := 0, slots := 0, locals := 14 } : Room) #[(.ref ab), (.ref aa), (.int (5 : Int32)), (.int (0 : Int32))] h0 n0 (fun v' h' => v' = some (.int 1) ∧ h' = h0) := by
  refine own_body (plainFor_of_name pn_5) (fun m => ef_rok_5_0 m ab aa) Z0 ?_
  intro p e s m below meth c T0 cx X0
  show own_Go p e below _ (T0.setTop (mkF m 0 #[.val (.ref ab), .val (.ref aa), .val (.int (5 : Int32)), .val (.int (0 : Int32))] []))
  refine o_iloadN cx X0 d3_0 rfl ?_
  refine o_iloadN cx X0 d3_1 rfl ?_
  refine o_icmpNo cx X0 d3_2 (by decide) ?_
  refine o_aloadN cx X0 d3_5 rfl rfl ?_
  refine o_iloadN cx X0 d3_6 rfl ?_
  refine o_ldI cx X0 (v := (.int (own_b1 b0))) d3_7 A1 0 (by decide) rfl ht ?_
  refine o_aloadN cx X0 d3_8 rfl rfl ?_
  refine o_iloadN cx X0 d3_9 rfl ?_
  refine o_iconst cx X0 (z := (1 : Int32)) d3_10 rfl ?_
  refine o_iadd cx X0 (z := (1 : Int32)) d3_11 rfl ?_
  refine o_callSp cx X0 (y' := (⟨"com/example/needlewise/needlewise/KmpPartialMatchPinLaw", "border", "([BI)I"⟩ : MethodName)) (argsL := [(.ref aa), (.int (1 : Int32))]) (st := [(.int (own_b1 b0))]) d3_12 (o_w hw 14 rfl) (o_w hw 15 rfl) (o_w hw 3 rfl) (o_w hw 16 rfl) (by decide) (rbd_1 l Z a0 hw aa vs b0 h0 n0 X0.ge0 A0 hv0) (by decide) 1 rfl (by decide) rfl (lenOf pd_4 rfl) rfl rfl (by decide) (by decide) fun T146 X147 => ?_
  show own_Go p e below _ (T146.setTop (mkF m 15 #[.val (.ref ab), .val (.ref aa), .val (.int (5 : Int32)), .val (.int (0 : Int32))] [(.int (own_b1 b0)), (.int (own_b1 b0))]))
  refine o_icmpNo cx X147 d3_15 (teq rfl).2 ?_
  refine o_iconst cx X147 (z := (1 : Int32)) d3_18 rfl ?_
  refine o_goto cx X147 23 d3_19 (by decide) (by decide) ?_
  exact o_retN cx X147 (z' := (1 : Int32)) d3_23 (by simp) rfl ⟨rfl, rfl⟩ (by decide) (by decide)
theorem ef_rok_6_0 (m : MethodId) (ab : Addr) (aa : Addr) : entryFrame m #[(.ref ab), (.ref aa), (.int (6 : Int32)), (.int (0 : Int32))] 4 = mkF m 0 #[.val (.ref ab), .val (.ref aa), .val (.int (6 : Int32)), .val (.int (0 : Int32))] [] := by first | (simp [entryFrame, mkF, argsToLocals, Value.category]; done) | rfl
set_option maxRecDepth 65536 in
set_option maxHeartbeats 40000000 in
theorem rok_6_0 (l : Launch) (Z : State) (a0 : Array Value) (hw : ∀ d ∈ tables_1, d.before a0 Z = true) (ab : Addr) (aa : Addr) (ts : List Value) (vs : List Value) (b0 : Int32) (h0 : Heap) (n0 : Nat) (Z0 : n0 ≤ h0.size) (A0 : own_Ar Z h0 aa .byte vs) (hv0 : vs[0]? = some (.int b0)) (A1 : own_Ar Z h0 ab .int ts) (ht : ts[0]? = some (.int (own_b1 b0))) :
    own_Met l Z (⟨"com/example/needlewise/needlewise/KmpPartialMatchPinLaw", "ok", "([I[BII)Z"⟩ : MethodName) method_4_code 4 (some .boolean) ({ frames := 1, cells := 0, slots := 0, locals := 14 } : Room) #[(.ref ab), (.ref aa), (.int (6 : Int32)), (.int (0 : Int32))] h0 n0 (fun v' h' => v' = some (.int 1) ∧ h' = h0) := by
  refine own_body (plainFor_of_name pn_5) (fun m => ef_rok_6_0 m ab aa) Z0 ?_
  intro p e s m below meth c T0 cx X0
  show own_Go p e below _ (T0.setTop (mkF m 0 #[.val (.ref ab), .val (.ref aa), .val (.int (6 : Int32)), .val (.int (0 : Int32))] []))
  refine o_iloadN cx X0 d3_0 rfl ?_
  refine o_iloadN cx X0 d3_1 rfl ?_
  refine o_icmpNo cx X0 d3_2 (by decide) ?_
  refine o_aloadN cx X0 d3_5 rfl rfl ?_
  refine o_iloadN cx X0 d3_6 rfl ?_
  refine o_ldI cx X0 (v := (.int (own_b1 b0))) d3_7 A1 0 (by decide) rfl ht ?_
  refine o_aloadN cx X0 d3_8 rfl rfl ?_
  refine o_iloadN cx X0 d3_9 rfl ?_
  refine o_iconst cx X0 (z := (1 : Int32)) d3_10 rfl ?_
  refine o_iadd cx X0 (z := (1 : Int32)) d3_11 rfl ?_
  refine o_callSp cx X0 (y' := (⟨"com/example/needlewise/needlewise/KmpPartialMatchPinLaw", "border", "([BI)I"⟩ : MethodName)) (argsL := [(.ref aa), (.int (1 : Int32))]) (st := [(.int (own_b1 b0))]) d3_12 (o_w hw 14 rfl) (o_w hw 15 rfl) (o_w hw 3 rfl) (o_w hw 16 rfl) (by decide) (rbd_1 l Z a0 hw aa vs b0 h0 n0 X0.ge0 A0 hv0) (by decide) 1 rfl (by decide) rfl (lenOf pd_4 rfl) rfl rfl (by decide) (by decide) fun T151 X152 => ?_
  show own_Go p e below _ (T151.setTop (mkF m 15 #[.val (.ref ab), .val (.ref aa), .val (.int (6 : Int32)), .val (.int (0 : Int32))] [(.int (own_b1 b0)), (.int (own_b1 b0))]))
  refine o_icmpNo cx X152 d3_15 (teq rfl).2 ?_
  refine o_iconst cx X152 (z := (1 : Int32)) d3_18 rfl ?_
  refine o_goto cx X152 23 d3_19 (by decide) (by decide) ?_
  exact o_retN cx X152 (z' := (1 : Int32)) d3_23 (by simp) rfl ⟨rfl, rfl⟩ (by decide) (by decide)
theorem ef_rok_2_1 (m : MethodId) (ab : Addr) (aa : Addr) : entryFrame m #[(.ref ab), (.ref aa), (.int (2 : Int32)), (.int (1 : Int32))] 4 = mkF m 0 #[.val (.ref ab), .val (.ref aa), .val (.int (2 : Int32)), .val (.int (1 : Int32))] [] := by first | (simp [entryFrame, mkF, argsToLocals, Value.category]; done) | rfl
set_option maxRecDepth 65536 in
set_option maxHeartbeats 40000000 in
theorem rok_2_1 (l : Launch) (Z : State) (a0 : Array Value) (hw : ∀ d ∈ tables_1, d.before a0 Z = true) (ab : Addr) (aa : Addr) (ts : List Value) (vs : List Value) (b0 : Int32) (b1 : Int32) (h0 : Heap) (n0 : Nat) (Z0 : n0 ≤ h0.size) (A0 : own_Ar Z h0 aa .byte vs) (hv0 : vs[0]? = some (.int b0)) (hv1 : vs[1]? = some (.int b1)) (A1 : own_Ar Z h0 ab .int ts) (ht : ts[1]? = some (.int (own_b2 b0 b1))) :
    own_Met l Z (⟨"com/example/needlewise/needlewise/KmpPartialMatchPinLaw", "ok", "([I[BII)Z"⟩ : MethodName) method_4_code 4 (some .boolean) ({ frames := 2, cells := 0, slots := 0, locals := 28 } : Room) #[(.ref ab), (.ref aa), (.int (2 : Int32)), (.int (1 : Int32))] h0 n0 (fun v' h' => v' = some (.int 1) ∧ h' = h0) := by
  refine own_body (plainFor_of_name pn_5) (fun m => ef_rok_2_1 m ab aa) Z0 ?_
  intro p e s m below meth c T0 cx X0
  show own_Go p e below _ (T0.setTop (mkF m 0 #[.val (.ref ab), .val (.ref aa), .val (.int (2 : Int32)), .val (.int (1 : Int32))] []))
  refine o_iloadN cx X0 d3_0 rfl ?_
  refine o_iloadN cx X0 d3_1 rfl ?_
  refine o_icmpNo cx X0 d3_2 (by decide) ?_
  refine o_aloadN cx X0 d3_5 rfl rfl ?_
  refine o_iloadN cx X0 d3_6 rfl ?_
  refine o_ldI cx X0 (v := (.int (own_b2 b0 b1))) d3_7 A1 1 (by decide) rfl ht ?_
  refine o_aloadN cx X0 d3_8 rfl rfl ?_
  refine o_iloadN cx X0 d3_9 rfl ?_
  refine o_iconst cx X0 (z := (1 : Int32)) d3_10 rfl ?_
  refine o_iadd cx X0 (z := (2 : Int32)) d3_11 rfl ?_
  refine o_callSp cx X0 (y' := (⟨"com/example/needlewise/needlewise/KmpPartialMatchPinLaw", "border", "([BI)I"⟩ : MethodName)) (argsL := [(.ref aa), (.int (2 : Int32))]) (st := [(.int (own_b2 b0 b1))]) d3_12 (o_w hw 14 rfl) (o_w hw 15 rfl) (o_w hw 3 rfl) (o_w hw 16 rfl) (by decide) (rbd_2 l Z a0 hw aa vs b0 b1 h0 n0 X0.ge0 A0 hv0 hv1) (by decide) 1 rfl (by decide) rfl (lenOf pd_4 rfl) rfl rfl (by decide) (by decide) fun T156 X157 => ?_
  show own_Go p e below _ (T156.setTop (mkF m 15 #[.val (.ref ab), .val (.ref aa), .val (.int (2 : Int32)), .val (.int (1 : Int32))] [(.int (own_b2 b0 b1)), (.int (own_b2 b0 b1))]))
  refine o_icmpNo cx X157 d3_15 (teq rfl).2 ?_
  refine o_iconst cx X157 (z := (1 : Int32)) d3_18 rfl ?_
  refine o_goto cx X157 23 d3_19 (by decide) (by decide) ?_
  exact o_retN cx X157 (z' := (1 : Int32)) d3_23 (by simp) rfl ⟨rfl, rfl⟩ (by decide) (by decide)
theorem ef_rok_3_1 (m : MethodId) (ab : Addr) (aa : Addr) : entryFrame m #[(.ref ab), (.ref aa), (.int (3 : Int32)), (.int (1 : Int32))] 4 = mkF m 0 #[.val (.ref ab), .val (.ref aa), .val (.int (3 : Int32)), .val (.int (1 : Int32))] [] := by first | (simp [entryFrame, mkF, argsToLocals, Value.category]; done) | rfl
set_option maxRecDepth 65536 in
set_option maxHeartbeats 40000000 in
theorem rok_3_1 (l : Launch) (Z : State) (a0 : Array Value) (hw : ∀ d ∈ tables_1, d.before a0 Z = true) (ab : Addr) (aa : Addr) (ts : List Value) (vs : List Value) (b0 : Int32) (b1 : Int32) (h0 : Heap) (n0 : Nat) (Z0 : n0 ≤ h0.size) (A0 : own_Ar Z h0 aa .byte vs) (hv0 : vs[0]? = some (.int b0)) (hv1 : vs[1]? = some (.int b1)) (A1 : own_Ar Z h0 ab .int ts) (ht : ts[1]? = some (.int (own_b2 b0 b1))) :
    own_Met l Z (⟨"com/example/needlewise/needlewise/KmpPartialMatchPinLaw", "ok", "([I[BII)Z"⟩ : MethodName) method_4_code 4 (some .boolean) ({ frames := 2, cells := 0, slots := 0, locals := 28 } : Room) #[(.ref ab), (.ref aa), (.int (3 : Int32)), (.int (1 : Int32))] h0 n0 (fun v' h' => v' = some (.int 1) ∧ h' = h0) := by
  refine own_body (plainFor_of_name pn_5) (fun m => ef_rok_3_1 m ab aa) Z0 ?_
  intro p e s m below meth c T0 cx X0
  show own_Go p e below _ (T0.setTop (mkF m 0 #[.val (.ref ab), .val (.ref aa), .val (.int (3 : Int32)), .val (.int (1 : Int32))] []))
  refine o_iloadN cx X0 d3_0 rfl ?_
  refine o_iloadN cx X0 d3_1 rfl ?_
  refine o_icmpNo cx X0 d3_2 (by decide) ?_
  refine o_aloadN cx X0 d3_5 rfl rfl ?_
  refine o_iloadN cx X0 d3_6 rfl ?_
  refine o_ldI cx X0 (v := (.int (own_b2 b0 b1))) d3_7 A1 1 (by decide) rfl ht ?_
  refine o_aloadN cx X0 d3_8 rfl rfl ?_
  refine o_iloadN cx X0 d3_9 rfl ?_
  refine o_iconst cx X0 (z := (1 : Int32)) d3_10 rfl ?_
  refine o_iadd cx X0 (z := (2 : Int32)) d3_11 rfl ?_
  refine o_callSp cx X0 (y' := (⟨"com/example/needlewise/needlewise/KmpPartialMatchPinLaw", "border", "([BI)I"⟩ : MethodName)) (argsL := [(.ref aa), (.int (2 : Int32))]) (st := [(.int (own_b2 b0 b1))]) d3_12 (o_w hw 14 rfl) (o_w hw 15 rfl) (o_w hw 3 rfl) (o_w hw 16 rfl) (by decide) (rbd_2 l Z a0 hw aa vs b0 b1 h0 n0 X0.ge0 A0 hv0 hv1) (by decide) 1 rfl (by decide) rfl (lenOf pd_4 rfl) rfl rfl (by decide) (by decide) fun T161 X162 => ?_
  show own_Go p e below _ (T161.setTop (mkF m 15 #[.val (.ref ab), .val (.ref aa), .val (.int (3 : Int32)), .val (.int (1 : Int32))] [(.int (own_b2 b0 b1)), (.int (own_b2 b0 b1))]))
  refine o_icmpNo cx X162 d3_15 (teq rfl).2 ?_
  refine o_iconst cx X162 (z := (1 : Int32)) d3_18 rfl ?_
  refine o_goto cx X162 23 d3_19 (by decide) (by decide) ?_
  exact o_retN cx X162 (z' := (1 : Int32)) d3_23 (by simp) rfl ⟨rfl, rfl⟩ (by decide) (by decide)
theorem ef_rok_4_1 (m : MethodId) (ab : Addr) (aa : Addr) : entryFrame m #[(.ref ab), (.ref aa), (.int (4 : Int32)), (.int (1 : Int32))] 4 = mkF m 0 #[.val (.ref ab), .val (.ref aa), .val (.int (4 : Int32)), .val (.int (1 : Int32))] [] := by first | (simp [entryFrame, mkF, argsToLocals, Value.category]; done) | rfl
set_option maxRecDepth 65536 in
set_option maxHeartbeats 40000000 in
theorem rok_4_1 (l : Launch) (Z : State) (a0 : Array Value) (hw : ∀ d ∈ tables_1, d.before a0 Z = true) (ab : Addr) (aa : Addr) (ts : List Value) (vs : List Value) (b0 : Int32) (b1 : Int32) (h0 : Heap) (n0 : Nat) (Z0 : n0 ≤ h0.size) (A0 : own_Ar Z h0 aa .byte vs) (hv0 : vs[0]? = some (.int b0)) (hv1 : vs[1]? = some (.int b1)) (A1 : own_Ar Z h0 ab .int ts) (ht : ts[1]? = some (.int (own_b2 b0 b1))) :
    own_Met l Z (⟨"com/example/needlewise/needlewise/KmpPartialMatchPinLaw", "ok", "([I[BII)Z"⟩ : MethodName) method_4_code 4 (some .boolean) ({ frames := 2, cells := 0, slots := 0, locals := 28 } : Room) #[(.ref ab), (.ref aa), (.int (4 : Int32)), (.int (1 : Int32))] h0 n0 (fun v' h' => v' = some (.int 1) ∧ h' = h0) := by
  refine own_body (plainFor_of_name pn_5) (fun m => ef_rok_4_1 m ab aa) Z0 ?_
  intro p e s m below meth c T0 cx X0
  show own_Go p e below _ (T0.setTop (mkF m 0 #[.val (.ref ab), .val (.ref aa), .val (.int (4 : Int32)), .val (.int (1 : Int32))] []))
  refine o_iloadN cx X0 d3_0 rfl ?_
  refine o_iloadN cx X0 d3_1 rfl ?_
  refine o_icmpNo cx X0 d3_2 (by decide) ?_
  refine o_aloadN cx X0 d3_5 rfl rfl ?_
  refine o_iloadN cx X0 d3_6 rfl ?_
  refine o_ldI cx X0 (v := (.int (own_b2 b0 b1))) d3_7 A1 1 (by decide) rfl ht ?_
  refine o_aloadN cx X0 d3_8 rfl rfl ?_
  refine o_iloadN cx X0 d3_9 rfl ?_
  refine o_iconst cx X0 (z := (1 : Int32)) d3_10 rfl ?_
  refine o_iadd cx X0 (z := (2 : Int32)) d3_11 rfl ?_
  refine o_callSp cx X0 (y' := (⟨"com/example/needlewise/needlewise/KmpPartialMatchPinLaw", "border", "([BI)I"⟩ : MethodName)) (argsL := [(.ref aa), (.int (2 : Int32))]) (st := [(.int (own_b2 b0 b1))]) d3_12 (o_w hw 14 rfl) (o_w hw 15 rfl) (o_w hw 3 rfl) (o_w hw 16 rfl) (by decide) (rbd_2 l Z a0 hw aa vs b0 b1 h0 n0 X0.ge0 A0 hv0 hv1) (by decide) 1 rfl (by decide) rfl (lenOf pd_4 rfl) rfl rfl (by decide) (by decide) fun T166 X167 => ?_
  show own_Go p e below _ (T166.setTop (mkF m 15 #[.val (.ref ab), .val (.ref aa), .val (.int (4 : Int32)), .val (.int (1 : Int32))] [(.int (own_b2 b0 b1)), (.int (own_b2 b0 b1))]))
  refine o_icmpNo cx X167 d3_15 (teq rfl).2 ?_
  refine o_iconst cx X167 (z := (1 : Int32)) d3_18 rfl ?_
  refine o_goto cx X167 23 d3_19 (by decide) (by decide) ?_
  exact o_retN cx X167 (z' := (1 : Int32)) d3_23 (by simp) rfl ⟨rfl, rfl⟩ (by decide) (by decide)
theorem ef_rok_5_1 (m : MethodId) (ab : Addr) (aa : Addr) : entryFrame m #[(.ref ab), (.ref aa), (.int (5 : Int32)), (.int (1 : Int32))] 4 = mkF m 0 #[.val (.ref ab), .val (.ref aa), .val (.int (5 : Int32)), .val (.int (1 : Int32))] [] := by first | (simp [entryFrame, mkF, argsToLocals, Value.category]; done) | rfl
set_option maxRecDepth 65536 in
set_option maxHeartbeats 40000000 in
theorem rok_5_1 (l : Launch) (Z : State) (a0 : Array Value) (hw : ∀ d ∈ tables_1, d.before a0 Z = true) (ab : Addr) (aa : Addr) (ts : List Value) (vs : List Value) (b0 : Int32) (b1 : Int32) (h0 : Heap) (n0 : Nat) (Z0 : n0 ≤ h0.size) (A0 : own_Ar Z h0 aa .byte vs) (hv0 : vs[0]? = some (.int b0)) (hv1 : vs[1]? = some (.int b1)) (A1 : own_Ar Z h0 ab .int ts) (ht : ts[1]? = some (.int (own_b2 b0 b1))) :
    own_Met l Z (⟨"com/example/needlewise/needlewise/KmpPartialMatchPinLaw", "ok", "([I[BII)Z"⟩ : MethodName) method_4_code 4 (some .boolean) ({ frames := 2, cells := 0, slots := 0, locals := 28 } : Room) #[(.ref ab), (.ref aa), (.int (5 : Int32)), (.int (1 : Int32))] h0 n0 (fun v' h' => v' = some (.int 1) ∧ h' = h0) := by
  refine own_body (plainFor_of_name pn_5) (fun m => ef_rok_5_1 m ab aa) Z0 ?_
  intro p e s m below meth c T0 cx X0
  show own_Go p e below _ (T0.setTop (mkF m 0 #[.val (.ref ab), .val (.ref aa), .val (.int (5 : Int32)), .val (.int (1 : Int32))] []))
  refine o_iloadN cx X0 d3_0 rfl ?_
  refine o_iloadN cx X0 d3_1 rfl ?_
  refine o_icmpNo cx X0 d3_2 (by decide) ?_
  refine o_aloadN cx X0 d3_5 rfl rfl ?_
  refine o_iloadN cx X0 d3_6 rfl ?_
  refine o_ldI cx X0 (v := (.int (own_b2 b0 b1))) d3_7 A1 1 (by decide) rfl ht ?_
  refine o_aloadN cx X0 d3_8 rfl rfl ?_
  refine o_iloadN cx X0 d3_9 rfl ?_
  refine o_iconst cx X0 (z := (1 : Int32)) d3_10 rfl ?_
  refine o_iadd cx X0 (z := (2 : Int32)) d3_11 rfl ?_
  refine o_callSp cx X0 (y' := (⟨"com/example/needlewise/needlewise/KmpPartialMatchPinLaw", "border", "([BI)I"⟩ : MethodName)) (argsL := [(.ref aa), (.int (2 : Int32))]) (st := [(.int (own_b2 b0 b1))]) d3_12 (o_w hw 14 rfl) (o_w hw 15 rfl) (o_w hw 3 rfl) (o_w hw 16 rfl) (by decide) (rbd_2 l Z a0 hw aa vs b0 b1 h0 n0 X0.ge0 A0 hv0 hv1) (by decide) 1 rfl (by decide) rfl (lenOf pd_4 rfl) rfl rfl (by decide) (by decide) fun T171 X172 => ?_
  show own_Go p e below _ (T171.setTop (mkF m 15 #[.val (.ref ab), .val (.ref aa), .val (.int (5 : Int32)), .val (.int (1 : Int32))] [(.int (own_b2 b0 b1)), (.int (own_b2 b0 b1))]))
  refine o_icmpNo cx X172 d3_15 (teq rfl).2 ?_
  refine o_iconst cx X172 (z := (1 : Int32)) d3_18 rfl ?_
  refine o_goto cx X172 23 d3_19 (by decide) (by decide) ?_
  exact o_retN cx X172 (z' := (1 : Int32)) d3_23 (by simp) rfl ⟨rfl, rfl⟩ (by decide) (by decide)
theorem ef_rok_6_1 (m : MethodId) (ab : Addr) (aa : Addr) : entryFrame m #[(.ref ab), (.ref aa), (.int (6 : Int32)), (.int (1 : Int32))] 4 = mkF m 0 #[.val (.ref ab), .val (.ref aa), .val (.int (6 : Int32)), .val (.int (1 : Int32))] [] := by first | (simp [entryFrame, mkF, argsToLocals, Value.category]; done) | rfl
set_option maxRecDepth 65536 in
set_option maxHeartbeats 40000000 in
theorem rok_6_1 (l : Launch) (Z : State) (a0 : Array Value) (hw : ∀ d ∈ tables_1, d.before a0 Z = true) (ab : Addr) (aa : Addr) (ts : List Value) (vs : List Value) (b0 : Int32) (b1 : Int32) (h0 : Heap) (n0 : Nat) (Z0 : n0 ≤ h0.size) (A0 : own_Ar Z h0 aa .byte vs) (hv0 : vs[0]? = some (.int b0)) (hv1 : vs[1]? = some (.int b1)) (A1 : own_Ar Z h0 ab .int ts) (ht : ts[1]? = some (.int (own_b2 b0 b1))) :
    own_Met l Z (⟨"com/example/needlewise/needlewise/KmpPartialMatchPinLaw", "ok", "([I[BII)Z"⟩ : MethodName) method_4_code 4 (some .boolean) ({ frames := 2, cells := 0, slots := 0, locals := 28 } : Room) #[(.ref ab), (.ref aa), (.int (6 : Int32)), (.int (1 : Int32))] h0 n0 (fun v' h' => v' = some (.int 1) ∧ h' = h0) := by
  refine own_body (plainFor_of_name pn_5) (fun m => ef_rok_6_1 m ab aa) Z0 ?_
  intro p e s m below meth c T0 cx X0
  show own_Go p e below _ (T0.setTop (mkF m 0 #[.val (.ref ab), .val (.ref aa), .val (.int (6 : Int32)), .val (.int (1 : Int32))] []))
  refine o_iloadN cx X0 d3_0 rfl ?_
  refine o_iloadN cx X0 d3_1 rfl ?_
  refine o_icmpNo cx X0 d3_2 (by decide) ?_
  refine o_aloadN cx X0 d3_5 rfl rfl ?_
  refine o_iloadN cx X0 d3_6 rfl ?_
  refine o_ldI cx X0 (v := (.int (own_b2 b0 b1))) d3_7 A1 1 (by decide) rfl ht ?_
  refine o_aloadN cx X0 d3_8 rfl rfl ?_
  refine o_iloadN cx X0 d3_9 rfl ?_
  refine o_iconst cx X0 (z := (1 : Int32)) d3_10 rfl ?_
  refine o_iadd cx X0 (z := (2 : Int32)) d3_11 rfl ?_
  refine o_callSp cx X0 (y' := (⟨"com/example/needlewise/needlewise/KmpPartialMatchPinLaw", "border", "([BI)I"⟩ : MethodName)) (argsL := [(.ref aa), (.int (2 : Int32))]) (st := [(.int (own_b2 b0 b1))]) d3_12 (o_w hw 14 rfl) (o_w hw 15 rfl) (o_w hw 3 rfl) (o_w hw 16 rfl) (by decide) (rbd_2 l Z a0 hw aa vs b0 b1 h0 n0 X0.ge0 A0 hv0 hv1) (by decide) 1 rfl (by decide) rfl (lenOf pd_4 rfl) rfl rfl (by decide) (by decide) fun T176 X177 => ?_
  show own_Go p e below _ (T176.setTop (mkF m 15 #[.val (.ref ab), .val (.ref aa), .val (.int (6 : Int32)), .val (.int (1 : Int32))] [(.int (own_b2 b0 b1)), (.int (own_b2 b0 b1))]))
  refine o_icmpNo cx X177 d3_15 (teq rfl).2 ?_
  refine o_iconst cx X177 (z := (1 : Int32)) d3_18 rfl ?_
  refine o_goto cx X177 23 d3_19 (by decide) (by decide) ?_
  exact o_retN cx X177 (z' := (1 : Int32)) d3_23 (by simp) rfl ⟨rfl, rfl⟩ (by decide) (by decide)
theorem ef_rok_3_2 (m : MethodId) (ab : Addr) (aa : Addr) : entryFrame m #[(.ref ab), (.ref aa), (.int (3 : Int32)), (.int (2 : Int32))] 4 = mkF m 0 #[.val (.ref ab), .val (.ref aa), .val (.int (3 : Int32)), .val (.int (2 : Int32))] [] := by first | (simp [entryFrame, mkF, argsToLocals, Value.category]; done) | rfl
set_option maxRecDepth 65536 in
set_option maxHeartbeats 40000000 in
theorem rok_3_2 (l : Launch) (Z : State) (a0 : Array Value) (hw : ∀ d ∈ tables_1, d.before a0 Z = true) (ab : Addr) (aa : Addr) (ts : List Value) (vs : List Value) (b0 : Int32) (b1 : Int32) (b2 : Int32) (h0 : Heap) (n0 : Nat) (Z0 : n0 ≤ h0.size) (A0 : own_Ar Z h0 aa .byte vs) (hv0 : vs[0]? = some (.int b0)) (hv1 : vs[1]? = some (.int b1)) (hv2 : vs[2]? = some (.int b2)) (A1 : own_Ar Z h0 ab .int ts) (ht : ts[2]? = some (.int (own_b3 b0 b1 b2))) :
    own_Met l Z (⟨"com/example/needlewise/needlewise/KmpPartialMatchPinLaw", "ok", "([I[BII)Z"⟩ : MethodName) method_4_code 4 (some .boolean) ({ frames := 2, cells := 0, slots := 0, locals := 28 } : Room) #[(.ref ab), (.ref aa), (.int (3 : Int32)), (.int (2 : Int32))] h0 n0 (fun v' h' => v' = some (.int 1) ∧ h' = h0) := by
  refine own_body (plainFor_of_name pn_5) (fun m => ef_rok_3_2 m ab aa) Z0 ?_
  intro p e s m below meth c T0 cx X0
  show own_Go p e below _ (T0.setTop (mkF m 0 #[.val (.ref ab), .val (.ref aa), .val (.int (3 : Int32)), .val (.int (2 : Int32))] []))
  refine o_iloadN cx X0 d3_0 rfl ?_
  refine o_iloadN cx X0 d3_1 rfl ?_
  refine o_icmpNo cx X0 d3_2 (by decide) ?_
  refine o_aloadN cx X0 d3_5 rfl rfl ?_
  refine o_iloadN cx X0 d3_6 rfl ?_
  refine o_ldI cx X0 (v := (.int (own_b3 b0 b1 b2))) d3_7 A1 2 (by decide) rfl ht ?_
  refine o_aloadN cx X0 d3_8 rfl rfl ?_
  refine o_iloadN cx X0 d3_9 rfl ?_
  refine o_iconst cx X0 (z := (1 : Int32)) d3_10 rfl ?_
  refine o_iadd cx X0 (z := (3 : Int32)) d3_11 rfl ?_
  refine o_callSp cx X0 (y' := (⟨"com/example/needlewise/needlewise/KmpPartialMatchPinLaw", "border", "([BI)I"⟩ : MethodName)) (argsL := [(.ref aa), (.int (3 : Int32))]) (st := [(.int (own_b3 b0 b1 b2))]) d3_12 (o_w hw 14 rfl) (o_w hw 15 rfl) (o_w hw 3 rfl) (o_w hw 16 rfl) (by decide) (rbd_3 l Z a0 hw aa vs b0 b1 b2 h0 n0 X0.ge0 A0 hv0 hv1 hv2) (by decide) 1 rfl (by decide) rfl (lenOf pd_4 rfl) rfl rfl (by decide) (by decide) fun T181 X182 => ?_
  show own_Go p e below _ (T181.setTop (mkF m 15 #[.val (.ref ab), .val (.ref aa), .val (.int (3 : Int32)), .val (.int (2 : Int32))] [(.int (own_b3 b0 b1 b2)), (.int (own_b3 b0 b1 b2))]))
  refine o_icmpNo cx X182 d3_15 (teq rfl).2 ?_
  refine o_iconst cx X182 (z := (1 : Int32)) d3_18 rfl ?_
  refine o_goto cx X182 23 d3_19 (by decide) (by decide) ?_
  exact o_retN cx X182 (z' := (1 : Int32)) d3_23 (by simp) rfl ⟨rfl, rfl⟩ (by decide) (by decide)
theorem ef_rok_4_2 (m : MethodId) (ab : Addr) (aa : Addr) : entryFrame m #[(.ref ab), (.ref aa), (.int (4 : Int32)), (.int (2 : Int32))] 4 = mkF m 0 #[.val (.ref ab), .val (.ref aa), .val (.int (4 : Int32)), .val (.int (2 : Int32))] [] := by first | (simp [entryFrame, mkF, argsToLocals, Value.category]; done) | rfl
set_option maxRecDepth 65536 in
set_option maxHeartbeats 40000000 in
theorem rok_4_2 (l : Launch) (Z : State) (a0 : Array Value) (hw : ∀ d ∈ tables_1, d.before a0 Z = true) (ab : Addr) (aa : Addr) (ts : List Value) (vs : List Value) (b0 : Int32) (b1 : Int32) (b2 : Int32) (h0 : Heap) (n0 : Nat) (Z0 : n0 ≤ h0.size) (A0 : own_Ar Z h0 aa .byte vs) (hv0 : vs[0]? = some (.int b0)) (hv1 : vs[1]? = some (.int b1)) (hv2 : vs[2]? = some (.int b2)) (A1 : own_Ar Z h0 ab .int ts) (ht : ts[2]? = some (.int (own_b3 b0 b1 b2))) :
    own_Met l Z (⟨"com/example/needlewise/needlewise/KmpPartialMatchPinLaw", "ok", "([I[BII)Z"⟩ : MethodName) method_4_code 4 (some .boolean) ({ frames := 2, cells := 0, slots := 0, locals := 28 } : Room) #[(.ref ab), (.ref aa), (.int (4 : Int32)), (.int (2 : Int32))] h0 n0 (fun v' h' => v' = some (.int 1) ∧ h' = h0) := by
  refine own_body (plainFor_of_name pn_5) (fun m => ef_rok_4_2 m ab aa) Z0 ?_
  intro p e s m below meth c T0 cx X0
  show own_Go p e below _ (T0.setTop (mkF m 0 #[.val (.ref ab), .val (.ref aa), .val (.int (4 : Int32)), .val (.int (2 : Int32))] []))
  refine o_iloadN cx X0 d3_0 rfl ?_
  refine o_iloadN cx X0 d3_1 rfl ?_
  refine o_icmpNo cx X0 d3_2 (by decide) ?_
  refine o_aloadN cx X0 d3_5 rfl rfl ?_
  refine o_iloadN cx X0 d3_6 rfl ?_
  refine o_ldI cx X0 (v := (.int (own_b3 b0 b1 b2))) d3_7 A1 2 (by decide) rfl ht ?_
  refine o_aloadN cx X0 d3_8 rfl rfl ?_
  refine o_iloadN cx X0 d3_9 rfl ?_
  refine o_iconst cx X0 (z := (1 : Int32)) d3_10 rfl ?_
  refine o_iadd cx X0 (z := (3 : Int32)) d3_11 rfl ?_
  refine o_callSp cx X0 (y' := (⟨"com/example/needlewise/needlewise/KmpPartialMatchPinLaw", "border", "([BI)I"⟩ : MethodName)) (argsL := [(.ref aa), (.int (3 : Int32))]) (st := [(.int (own_b3 b0 b1 b2))]) d3_12 (o_w hw 14 rfl) (o_w hw 15 rfl) (o_w hw 3 rfl) (o_w hw 16 rfl) (by decide) (rbd_3 l Z a0 hw aa vs b0 b1 b2 h0 n0 X0.ge0 A0 hv0 hv1 hv2) (by decide) 1 rfl (by decide) rfl (lenOf pd_4 rfl) rfl rfl (by decide) (by decide) fun T186 X187 => ?_
  show own_Go p e below _ (T186.setTop (mkF m 15 #[.val (.ref ab), .val (.ref aa), .val (.int (4 : Int32)), .val (.int (2 : Int32))] [(.int (own_b3 b0 b1 b2)), (.int (own_b3 b0 b1 b2))]))
  refine o_icmpNo cx X187 d3_15 (teq rfl).2 ?_
  refine o_iconst cx X187 (z := (1 : Int32)) d3_18 rfl ?_
  refine o_goto cx X187 23 d3_19 (by decide) (by decide) ?_
  exact o_retN cx X187 (z' := (1 : Int32)) d3_23 (by simp) rfl ⟨rfl, rfl⟩ (by decide) (by decide)
theorem ef_rok_5_2 (m : MethodId) (ab : Addr) (aa : Addr) : entryFrame m #[(.ref ab), (.ref aa), (.int (5 : Int32)), (.int (2 : Int32))] 4 = mkF m 0 #[.val (.ref ab), .val (.ref aa), .val (.int (5 : Int32)), .val (.int (2 : Int32))] [] := by first | (simp [entryFrame, mkF, argsToLocals, Value.category]; done) | rfl
set_option maxRecDepth 65536 in
set_option maxHeartbeats 40000000 in
theorem rok_5_2 (l : Launch) (Z : State) (a0 : Array Value) (hw : ∀ d ∈ tables_1, d.before a0 Z = true) (ab : Addr) (aa : Addr) (ts : List Value) (vs : List Value) (b0 : Int32) (b1 : Int32) (b2 : Int32) (h0 : Heap) (n0 : Nat) (Z0 : n0 ≤ h0.size) (A0 : own_Ar Z h0 aa .byte vs) (hv0 : vs[0]? = some (.int b0)) (hv1 : vs[1]? = some (.int b1)) (hv2 : vs[2]? = some (.int b2)) (A1 : own_Ar Z h0 ab .int ts) (ht : ts[2]? = some (.int (own_b3 b0 b1 b2))) :
    own_Met l Z (⟨"com/example/needlewise/needlewise/KmpPartialMatchPinLaw", "ok", "([I[BII)Z"⟩ : MethodName) method_4_code 4 (some .boolean) ({ frames := 2, cells := 0, slots := 0, locals := 28 } : Room) #[(.ref ab), (.ref aa), (.int (5 : Int32)), (.int (2 : Int32))] h0 n0 (fun v' h' => v' = some (.int 1) ∧ h' = h0) := by
  refine own_body (plainFor_of_name pn_5) (fun m => ef_rok_5_2 m ab aa) Z0 ?_
  intro p e s m below meth c T0 cx X0
  show own_Go p e below _ (T0.setTop (mkF m 0 #[.val (.ref ab), .val (.ref aa), .val (.int (5 : Int32)), .val (.int (2 : Int32))] []))
  refine o_iloadN cx X0 d3_0 rfl ?_
  refine o_iloadN cx X0 d3_1 rfl ?_
  refine o_icmpNo cx X0 d3_2 (by decide) ?_
  refine o_aloadN cx X0 d3_5 rfl rfl ?_
  refine o_iloadN cx X0 d3_6 rfl ?_
  refine o_ldI cx X0 (v := (.int (own_b3 b0 b1 b2))) d3_7 A1 2 (by decide) rfl ht ?_
  refine o_aloadN cx X0 d3_8 rfl rfl ?_
  refine o_iloadN cx X0 d3_9 rfl ?_
  refine o_iconst cx X0 (z := (1 : Int32)) d3_10 rfl ?_
  refine o_iadd cx X0 (z := (3 : Int32)) d3_11 rfl ?_
  refine o_callSp cx X0 (y' := (⟨"com/example/needlewise/needlewise/KmpPartialMatchPinLaw", "border", "([BI)I"⟩ : MethodName)) (argsL := [(.ref aa), (.int (3 : Int32))]) (st := [(.int (own_b3 b0 b1 b2))]) d3_12 (o_w hw 14 rfl) (o_w hw 15 rfl) (o_w hw 3 rfl) (o_w hw 16 rfl) (by decide) (rbd_3 l Z a0 hw aa vs b0 b1 b2 h0 n0 X0.ge0 A0 hv0 hv1 hv2) (by decide) 1 rfl (by decide) rfl (lenOf pd_4 rfl) rfl rfl (by decide) (by decide) fun T191 X192 => ?_
  show own_Go p e below _ (T191.setTop (mkF m 15 #[.val (.ref ab), .val (.ref aa), .val (.int (5 : Int32)), .val (.int (2 : Int32))] [(.int (own_b3 b0 b1 b2)), (.int (own_b3 b0 b1 b2))]))
  refine o_icmpNo cx X192 d3_15 (teq rfl).2 ?_
  refine o_iconst cx X192 (z := (1 : Int32)) d3_18 rfl ?_
  refine o_goto cx X192 23 d3_19 (by decide) (by decide) ?_
  exact o_retN cx X192 (z' := (1 : Int32)) d3_23 (by simp) rfl ⟨rfl, rfl⟩ (by decide) (by decide)
theorem ef_rok_6_2 (m : MethodId) (ab : Addr) (aa : Addr) : entryFrame m #[(.ref ab), (.ref aa), (.int (6 : Int32)), (.int (2 : Int32))] 4 = mkF m 0 #[.val (.ref ab), .val (.ref aa), .val (.int (6 : Int32)), .val (.int (2 : Int32))] [] := by first | (simp [entryFrame, mkF, argsToLocals, Value.category]; done) | rfl
set_option maxRecDepth 65536 in
set_option maxHeartbeats 40000000 in
theorem rok_6_2 (l : Launch) (Z : State) (a0 : Array Value) (hw : ∀ d ∈ tables_1, d.before a0 Z = true) (ab : Addr) (aa : Addr) (ts : List Value) (vs : List Value) (b0 : Int32) (b1 : Int32) (b2 : Int32) (h0 : Heap) (n0 : Nat) (Z0 : n0 ≤ h0.size) (A0 : own_Ar Z h0 aa .byte vs) (hv0 : vs[0]? = some (.int b0)) (hv1 : vs[1]? = some (.int b1)) (hv2 : vs[2]? = some (.int b2)) (A1 : own_Ar Z h0 ab .int ts) (ht : ts[2]? = some (.int (own_b3 b0 b1 b2))) :
    own_Met l Z (⟨"com/example/needlewise/needlewise/KmpPartialMatchPinLaw", "ok", "([I[BII)Z"⟩ : MethodName) method_4_code 4 (some .boolean) ({ frames := 2, cells := 0, slots := 0, locals := 28 } : Room) #[(.ref ab), (.ref aa), (.int (6 : Int32)), (.int (2 : Int32))] h0 n0 (fun v' h' => v' = some (.int 1) ∧ h' = h0) := by
  refine own_body (plainFor_of_name pn_5) (fun m => ef_rok_6_2 m ab aa) Z0 ?_
  intro p e s m below meth c T0 cx X0
  show own_Go p e below _ (T0.setTop (mkF m 0 #[.val (.ref ab), .val (.ref aa), .val (.int (6 : Int32)), .val (.int (2 : Int32))] []))
  refine o_iloadN cx X0 d3_0 rfl ?_
  refine o_iloadN cx X0 d3_1 rfl ?_
  refine o_icmpNo cx X0 d3_2 (by decide) ?_
  refine o_aloadN cx X0 d3_5 rfl rfl ?_
  refine o_iloadN cx X0 d3_6 rfl ?_
  refine o_ldI cx X0 (v := (.int (own_b3 b0 b1 b2))) d3_7 A1 2 (by decide) rfl ht ?_
  refine o_aloadN cx X0 d3_8 rfl rfl ?_
  refine o_iloadN cx X0 d3_9 rfl ?_
  refine o_iconst cx X0 (z := (1 : Int32)) d3_10 rfl ?_
  refine o_iadd cx X0 (z := (3 : Int32)) d3_11 rfl ?_
  refine o_callSp cx X0 (y' := (⟨"com/example/needlewise/needlewise/KmpPartialMatchPinLaw", "border", "([BI)I"⟩ : MethodName)) (argsL := [(.ref aa), (.int (3 : Int32))]) (st := [(.int (own_b3 b0 b1 b2))]) d3_12 (o_w hw 14 rfl) (o_w hw 15 rfl) (o_w hw 3 rfl) (o_w hw 16 rfl) (by decide) (rbd_3 l Z a0 hw aa vs b0 b1 b2 h0 n0 X0.ge0 A0 hv0 hv1 hv2) (by decide) 1 rfl (by decide) rfl (lenOf pd_4 rfl) rfl rfl (by decide) (by decide) fun T196 X197 => ?_
  show own_Go p e below _ (T196.setTop (mkF m 15 #[.val (.ref ab), .val (.ref aa), .val (.int (6 : Int32)), .val (.int (2 : Int32))] [(.int (own_b3 b0 b1 b2)), (.int (own_b3 b0 b1 b2))]))
  refine o_icmpNo cx X197 d3_15 (teq rfl).2 ?_
  refine o_iconst cx X197 (z := (1 : Int32)) d3_18 rfl ?_
  refine o_goto cx X197 23 d3_19 (by decide) (by decide) ?_
  exact o_retN cx X197 (z' := (1 : Int32)) d3_23 (by simp) rfl ⟨rfl, rfl⟩ (by decide) (by decide)
theorem ef_rok_4_3 (m : MethodId) (ab : Addr) (aa : Addr) : entryFrame m #[(.ref ab), (.ref aa), (.int (4 : Int32)), (.int (3 : Int32))] 4 = mkF m 0 #[.val (.ref ab), .val (.ref aa), .val (.int (4 : Int32)), .val (.int (3 : Int32))] [] := by first | (simp [entryFrame, mkF, argsToLocals, Value.category]; done) | rfl
set_option maxRecDepth 65536 in
set_option maxHeartbeats 40000000 in
theorem rok_4_3 (l : Launch) (Z : State) (a0 : Array Value) (hw : ∀ d ∈ tables_1, d.before a0 Z = true) (ab : Addr) (aa : Addr) (ts : List Value) (vs : List Value) (b0 : Int32) (b1 : Int32) (b2 : Int32) (b3 : Int32) (h0 : Heap) (n0 : Nat) (Z0 : n0 ≤ h0.size) (A0 : own_Ar Z h0 aa .byte vs) (hv0 : vs[0]? = some (.int b0)) (hv1 : vs[1]? = some (.int b1)) (hv2 : vs[2]? = some (.int b2)) (hv3 : vs[3]? = some (.int b3)) (A1 : own_Ar Z h0 ab .int ts) (ht : ts[3]? = some (.int (own_b4 b0 b1 b2 b3))) :
    own_Met l Z (⟨"com/example/needlewise/needlewise/KmpPartialMatchPinLaw", "ok", "([I[BII)Z"⟩ : MethodName) method_4_code 4 (some .boolean) ({ frames := 2, cells := 0, slots := 0, locals := 28 } : Room) #[(.ref ab), (.ref aa), (.int (4 : Int32)), (.int (3 : Int32))] h0 n0 (fun v' h' => v' = some (.int 1) ∧ h' = h0) := by
  refine own_body (plainFor_of_name pn_5) (fun m => ef_rok_4_3 m ab aa) Z0 ?_
  intro p e s m below meth c T0 cx X0
  show own_Go p e below _ (T0.setTop (mkF m 0 #[.val (.ref ab), .val (.ref aa), .val (.int (4 : Int32)), .val (.int (3 : Int32))] []))
  refine o_iloadN cx X0 d3_0 rfl ?_
  refine o_iloadN cx X0 d3_1 rfl ?_
  refine o_icmpNo cx X0 d3_2 (by decide) ?_
  refine o_aloadN cx X0 d3_5 rfl rfl ?_
  refine o_iloadN cx X0 d3_6 rfl ?_
  refine o_ldI cx X0 (v := (.int (own_b4 b0 b1 b2 b3))) d3_7 A1 3 (by decide) rfl ht ?_
  refine o_aloadN cx X0 d3_8 rfl rfl ?_
  refine o_iloadN cx X0 d3_9 rfl ?_
  refine o_iconst cx X0 (z := (1 : Int32)) d3_10 rfl ?_
  refine o_iadd cx X0 (z := (4 : Int32)) d3_11 rfl ?_
  refine o_callSp cx X0 (y' := (⟨"com/example/needlewise/needlewise/KmpPartialMatchPinLaw", "border", "([BI)I"⟩ : MethodName)) (argsL := [(.ref aa), (.int (4 : Int32))]) (st := [(.int (own_b4 b0 b1 b2 b3))]) d3_12 (o_w hw 14 rfl) (o_w hw 15 rfl) (o_w hw 3 rfl) (o_w hw 16 rfl) (by decide) (rbd_4 l Z a0 hw aa vs b0 b1 b2 b3 h0 n0 X0.ge0 A0 hv0 hv1 hv2 hv3) (by decide) 1 rfl (by decide) rfl (lenOf pd_4 rfl) rfl rfl (by decide) (by decide) fun T201 X202 => ?_
  show own_Go p e below _ (T201.setTop (mkF m 15 #[.val (.ref ab), .val (.ref aa), .val (.int (4 : Int32)), .val (.int (3 : Int32))] [(.int (own_b4 b0 b1 b2 b3)), (.int (own_b4 b0 b1 b2 b3))]))
  refine o_icmpNo cx X202 d3_15 (teq rfl).2 ?_
  refine o_iconst cx X202 (z := (1 : Int32)) d3_18 rfl ?_
  refine o_goto cx X202 23 d3_19 (by decide) (by decide) ?_
  exact o_retN cx X202 (z' := (1 : Int32)) d3_23 (by simp) rfl ⟨rfl, rfl⟩ (by decide) (by decide)
theorem ef_rok_5_3 (m : MethodId) (ab : Addr) (aa : Addr) : entryFrame m #[(.ref ab), (.ref aa), (.int (5 : Int32)), (.int (3 : Int32))] 4 = mkF m 0 #[.val (.ref ab), .val (.ref aa), .val (.int (5 : Int32)), .val (.int (3 : Int32))] [] := by first | (simp [entryFrame, mkF, argsToLocals, Value.category]; done) | rfl
set_option maxRecDepth 65536 in
set_option maxHeartbeats 40000000 in
theorem rok_5_3 (l : Launch) (Z : State) (a0 : Array Value) (hw : ∀ d ∈ tables_1, d.before a0 Z = true) (ab : Addr) (aa : Addr) (ts : List Value) (vs : List Value) (b0 : Int32) (b1 : Int32) (b2 : Int32) (b3 : Int32) (h0 : Heap) (n0 : Nat) (Z0 : n0 ≤ h0.size) (A0 : own_Ar Z h0 aa .byte vs) (hv0 : vs[0]? = some (.int b0)) (hv1 : vs[1]? = some (.int b1)) (hv2 : vs[2]? = some (.int b2)) (hv3 : vs[3]? = some (.int b3)) (A1 : own_Ar Z h0 ab .int ts) (ht : ts[3]? = some (.int (own_b4 b0 b1 b2 b3))) :
    own_Met l Z (⟨"com/example/needlewise/needlewise/KmpPartialMatchPinLaw", "ok", "([I[BII)Z"⟩ : MethodName) method_4_code 4 (some .boolean) ({ frames := 2, cells := 0, slots := 0, locals := 28 } : Room) #[(.ref ab), (.ref aa), (.int (5 : Int32)), (.int (3 : Int32))] h0 n0 (fun v' h' => v' = some (.int 1) ∧ h' = h0) := by
  refine own_body (plainFor_of_name pn_5) (fun m => ef_rok_5_3 m ab aa) Z0 ?_
  intro p e s m below meth c T0 cx X0
  show own_Go p e below _ (T0.setTop (mkF m 0 #[.val (.ref ab), .val (.ref aa), .val (.int (5 : Int32)), .val (.int (3 : Int32))] []))
  refine o_iloadN cx X0 d3_0 rfl ?_
  refine o_iloadN cx X0 d3_1 rfl ?_
  refine o_icmpNo cx X0 d3_2 (by decide) ?_
  refine o_aloadN cx X0 d3_5 rfl rfl ?_
  refine o_iloadN cx X0 d3_6 rfl ?_
  refine o_ldI cx X0 (v := (.int (own_b4 b0 b1 b2 b3))) d3_7 A1 3 (by decide) rfl ht ?_
  refine o_aloadN cx X0 d3_8 rfl rfl ?_
  refine o_iloadN cx X0 d3_9 rfl ?_
  refine o_iconst cx X0 (z := (1 : Int32)) d3_10 rfl ?_
  refine o_iadd cx X0 (z := (4 : Int32)) d3_11 rfl ?_
  refine o_callSp cx X0 (y' := (⟨"com/example/needlewise/needlewise/KmpPartialMatchPinLaw", "border", "([BI)I"⟩ : MethodName)) (argsL := [(.ref aa), (.int (4 : Int32))]) (st := [(.int (own_b4 b0 b1 b2 b3))]) d3_12 (o_w hw 14 rfl) (o_w hw 15 rfl) (o_w hw 3 rfl) (o_w hw 16 rfl) (by decide) (rbd_4 l Z a0 hw aa vs b0 b1 b2 b3 h0 n0 X0.ge0 A0 hv0 hv1 hv2 hv3) (by decide) 1 rfl (by decide) rfl (lenOf pd_4 rfl) rfl rfl (by decide) (by decide) fun T206 X207 => ?_
  show own_Go p e below _ (T206.setTop (mkF m 15 #[.val (.ref ab), .val (.ref aa), .val (.int (5 : Int32)), .val (.int (3 : Int32))] [(.int (own_b4 b0 b1 b2 b3)), (.int (own_b4 b0 b1 b2 b3))]))
  refine o_icmpNo cx X207 d3_15 (teq rfl).2 ?_
  refine o_iconst cx X207 (z := (1 : Int32)) d3_18 rfl ?_
  refine o_goto cx X207 23 d3_19 (by decide) (by decide) ?_
  exact o_retN cx X207 (z' := (1 : Int32)) d3_23 (by simp) rfl ⟨rfl, rfl⟩ (by decide) (by decide)
theorem ef_rok_6_3 (m : MethodId) (ab : Addr) (aa : Addr) : entryFrame m #[(.ref ab), (.ref aa), (.int (6 : Int32)), (.int (3 : Int32))] 4 = mkF m 0 #[.val (.ref ab), .val (.ref aa), .val (.int (6 : Int32)), .val (.int (3 : Int32))] [] := by first | (simp [entryFrame, mkF, argsToLocals, Value.category]; done) | rfl
set_option maxRecDepth 65536 in
set_option maxHeartbeats 40000000 in
theorem rok_6_3 (l : Launch) (Z : State) (a0 : Array Value) (hw : ∀ d ∈ tables_1, d.before a0 Z = true) (ab : Addr) (aa : Addr) (ts : List Value) (vs : List Value) (b0 : Int32) (b1 : Int32) (b2 : Int32) (b3 : Int32) (h0 : Heap) (n0 : Nat) (Z0 : n0 ≤ h0.size) (A0 : own_Ar Z h0 aa .byte vs) (hv0 : vs[0]? = some (.int b0)) (hv1 : vs[1]? = some (.int b1)) (hv2 : vs[2]? = some (.int b2)) (hv3 : vs[3]? = some (.int b3)) (A1 : own_Ar Z h0 ab .int ts) (ht : ts[3]? = some (.int (own_b4 b0 b1 b2 b3))) :
    own_Met l Z (⟨"com/example/needlewise/needlewise/KmpPartialMatchPinLaw", "ok", "([I[BII)Z"⟩ : MethodName) method_4_code 4 (some .boolean) ({ frames := 2, cells := 0, slots := 0, locals := 28 } : Room) #[(.ref ab), (.ref aa), (.int (6 : Int32)), (.int (3 : Int32))] h0 n0 (fun v' h' => v' = some (.int 1) ∧ h' = h0) := by
  refine own_body (plainFor_of_name pn_5) (fun m => ef_rok_6_3 m ab aa) Z0 ?_
  intro p e s m below meth c T0 cx X0
  show own_Go p e below _ (T0.setTop (mkF m 0 #[.val (.ref ab), .val (.ref aa), .val (.int (6 : Int32)), .val (.int (3 : Int32))] []))
  refine o_iloadN cx X0 d3_0 rfl ?_
  refine o_iloadN cx X0 d3_1 rfl ?_
  refine o_icmpNo cx X0 d3_2 (by decide) ?_
  refine o_aloadN cx X0 d3_5 rfl rfl ?_
  refine o_iloadN cx X0 d3_6 rfl ?_
  refine o_ldI cx X0 (v := (.int (own_b4 b0 b1 b2 b3))) d3_7 A1 3 (by decide) rfl ht ?_
  refine o_aloadN cx X0 d3_8 rfl rfl ?_
  refine o_iloadN cx X0 d3_9 rfl ?_
  refine o_iconst cx X0 (z := (1 : Int32)) d3_10 rfl ?_
  refine o_iadd cx X0 (z := (4 : Int32)) d3_11 rfl ?_
  refine o_callSp cx X0 (y' := (⟨"com/example/needlewise/needlewise/KmpPartialMatchPinLaw", "border", "([BI)I"⟩ : MethodName)) (argsL := [(.ref aa), (.int (4 : Int32))]) (st := [(.int (own_b4 b0 b1 b2 b3))]) d3_12 (o_w hw 14 rfl) (o_w hw 15 rfl) (o_w hw 3 rfl) (o_w hw 16 rfl) (by decide) (rbd_4 l Z a0 hw aa vs b0 b1 b2 b3 h0 n0 X0.ge0 A0 hv0 hv1 hv2 hv3) (by decide) 1 rfl (by decide) rfl (lenOf pd_4 rfl) rfl rfl (by decide) (by decide) fun T211 X212 => ?_
  show own_Go p e below _ (T211.setTop (mkF m 15 #[.val (.ref ab), .val (.ref aa), .val (.int (6 : Int32)), .val (.int (3 : Int32))] [(.int (own_b4 b0 b1 b2 b3)), (.int (own_b4 b0 b1 b2 b3))]))
  refine o_icmpNo cx X212 d3_15 (teq rfl).2 ?_
  refine o_iconst cx X212 (z := (1 : Int32)) d3_18 rfl ?_
  refine o_goto cx X212 23 d3_19 (by decide) (by decide) ?_
  exact o_retN cx X212 (z' := (1 : Int32)) d3_23 (by simp) rfl ⟨rfl, rfl⟩ (by decide) (by decide)
theorem ef_rok_5_4 (m : MethodId) (ab : Addr) (aa : Addr) : entryFrame m #[(.ref ab), (.ref aa), (.int (5 : Int32)), (.int (4 : Int32))] 4 = mkF m 0 #[.val (.ref ab), .val (.ref aa), .val (.int (5 : Int32)), .val (.int (4 : Int32))] [] := by first | (simp [entryFrame, mkF, argsToLocals, Value.category]; done) | rfl
set_option maxRecDepth 65536 in
set_option maxHeartbeats 40000000 in
theorem rok_5_4 (l : Launch) (Z : State) (a0 : Array Value) (hw : ∀ d ∈ tables_1, d.before a0 Z = true) (ab : Addr) (aa : Addr) (ts : List Value) (vs : List Value) (b0 : Int32) (b1 : Int32) (b2 : Int32) (b3 : Int32) (b4 : Int32) (h0 : Heap) (n0 : Nat) (Z0 : n0 ≤ h0.size) (A0 : own_Ar Z h0 aa .byte vs) (hv0 : vs[0]? = some (.int b0)) (hv1 : vs[1]? = some (.int b1)) (hv2 : vs[2]? = some (.int b2)) (hv3 : vs[3]? = some (.int b3)) (hv4 : vs[4]? = some (.int b4)) (A1 : own_Ar Z h0 ab .int ts) (ht : ts[4]? = some (.int (own_b5 b0 b1 b2 b3 b4))) :
    own_Met l Z (⟨"com/example/needlewise/needlewise/KmpPartialMatchPinLaw", "ok", "([I[BII)Z"⟩ : MethodName) method_4_code 4 (some .boolean) ({ frames := 2, cells := 0, slots := 0, locals := 28 } : Room) #[(.ref ab), (.ref aa), (.int (5 : Int32)), (.int (4 : Int32))] h0 n0 (fun v' h' => v' = some (.int 1) ∧ h' = h0) := by
  refine own_body (plainFor_of_name pn_5) (fun m => ef_rok_5_4 m ab aa) Z0 ?_
  intro p e s m below meth c T0 cx X0
  show own_Go p e below _ (T0.setTop (mkF m 0 #[.val (.ref ab), .val (.ref aa), .val (.int (5 : Int32)), .val (.int (4 : Int32))] []))
  refine o_iloadN cx X0 d3_0 rfl ?_
  refine o_iloadN cx X0 d3_1 rfl ?_
  refine o_icmpNo cx X0 d3_2 (by decide) ?_
  refine o_aloadN cx X0 d3_5 rfl rfl ?_
  refine o_iloadN cx X0 d3_6 rfl ?_
  refine o_ldI cx X0 (v := (.int (own_b5 b0 b1 b2 b3 b4))) d3_7 A1 4 (by decide) rfl ht ?_
  refine o_aloadN cx X0 d3_8 rfl rfl ?_
  refine o_iloadN cx X0 d3_9 rfl ?_
  refine o_iconst cx X0 (z := (1 : Int32)) d3_10 rfl ?_
  refine o_iadd cx X0 (z := (5 : Int32)) d3_11 rfl ?_
  refine o_callSp cx X0 (y' := (⟨"com/example/needlewise/needlewise/KmpPartialMatchPinLaw", "border", "([BI)I"⟩ : MethodName)) (argsL := [(.ref aa), (.int (5 : Int32))]) (st := [(.int (own_b5 b0 b1 b2 b3 b4))]) d3_12 (o_w hw 14 rfl) (o_w hw 15 rfl) (o_w hw 3 rfl) (o_w hw 16 rfl) (by decide) (rbd_5 l Z a0 hw aa vs b0 b1 b2 b3 b4 h0 n0 X0.ge0 A0 hv0 hv1 hv2 hv3 hv4) (by decide) 1 rfl (by decide) rfl (lenOf pd_4 rfl) rfl rfl (by decide) (by decide) fun T216 X217 => ?_
  show own_Go p e below _ (T216.setTop (mkF m 15 #[.val (.ref ab), .val (.ref aa), .val (.int (5 : Int32)), .val (.int (4 : Int32))] [(.int (own_b5 b0 b1 b2 b3 b4)), (.int (own_b5 b0 b1 b2 b3 b4))]))
  refine o_icmpNo cx X217 d3_15 (teq rfl).2 ?_
  refine o_iconst cx X217 (z := (1 : Int32)) d3_18 rfl ?_
  refine o_goto cx X217 23 d3_19 (by decide) (by decide) ?_
  exact o_retN cx X217 (z' := (1 : Int32)) d3_23 (by simp) rfl ⟨rfl, rfl⟩ (by decide) (by decide)
theorem ef_rok_6_4 (m : MethodId) (ab : Addr) (aa : Addr) : entryFrame m #[(.ref ab), (.ref aa), (.int (6 : Int32)), (.int (4 : Int32))] 4 = mkF m 0 #[.val (.ref ab), .val (.ref aa), .val (.int (6 : Int32)), .val (.int (4 : Int32))] [] := by first | (simp [entryFrame, mkF, argsToLocals, Value.category]; done) | rfl
set_option maxRecDepth 65536 in
set_option maxHeartbeats 40000000 in
theorem rok_6_4 (l : Launch) (Z : State) (a0 : Array Value) (hw : ∀ d ∈ tables_1, d.before a0 Z = true) (ab : Addr) (aa : Addr) (ts : List Value) (vs : List Value) (b0 : Int32) (b1 : Int32) (b2 : Int32) (b3 : Int32) (b4 : Int32) (h0 : Heap) (n0 : Nat) (Z0 : n0 ≤ h0.size) (A0 : own_Ar Z h0 aa .byte vs) (hv0 : vs[0]? = some (.int b0)) (hv1 : vs[1]? = some (.int b1)) (hv2 : vs[2]? = some (.int b2)) (hv3 : vs[3]? = some (.int b3)) (hv4 : vs[4]? = some (.int b4)) (A1 : own_Ar Z h0 ab .int ts) (ht : ts[4]? = some (.int (own_b5 b0 b1 b2 b3 b4))) :
    own_Met l Z (⟨"com/example/needlewise/needlewise/KmpPartialMatchPinLaw", "ok", "([I[BII)Z"⟩ : MethodName) method_4_code 4 (some .boolean) ({ frames := 2, cells := 0, slots := 0, locals := 28 } : Room) #[(.ref ab), (.ref aa), (.int (6 : Int32)), (.int (4 : Int32))] h0 n0 (fun v' h' => v' = some (.int 1) ∧ h' = h0) := by
  refine own_body (plainFor_of_name pn_5) (fun m => ef_rok_6_4 m ab aa) Z0 ?_
  intro p e s m below meth c T0 cx X0
  show own_Go p e below _ (T0.setTop (mkF m 0 #[.val (.ref ab), .val (.ref aa), .val (.int (6 : Int32)), .val (.int (4 : Int32))] []))
  refine o_iloadN cx X0 d3_0 rfl ?_
  refine o_iloadN cx X0 d3_1 rfl ?_
  refine o_icmpNo cx X0 d3_2 (by decide) ?_
  refine o_aloadN cx X0 d3_5 rfl rfl ?_
  refine o_iloadN cx X0 d3_6 rfl ?_
  refine o_ldI cx X0 (v := (.int (own_b5 b0 b1 b2 b3 b4))) d3_7 A1 4 (by decide) rfl ht ?_
  refine o_aloadN cx X0 d3_8 rfl rfl ?_
  refine o_iloadN cx X0 d3_9 rfl ?_
  refine o_iconst cx X0 (z := (1 : Int32)) d3_10 rfl ?_
  refine o_iadd cx X0 (z := (5 : Int32)) d3_11 rfl ?_
  refine o_callSp cx X0 (y' := (⟨"com/example/needlewise/needlewise/KmpPartialMatchPinLaw", "border", "([BI)I"⟩ : MethodName)) (argsL := [(.ref aa), (.int (5 : Int32))]) (st := [(.int (own_b5 b0 b1 b2 b3 b4))]) d3_12 (o_w hw 14 rfl) (o_w hw 15 rfl) (o_w hw 3 rfl) (o_w hw 16 rfl) (by decide) (rbd_5 l Z a0 hw aa vs b0 b1 b2 b3 b4 h0 n0 X0.ge0 A0 hv0 hv1 hv2 hv3 hv4) (by decide) 1 rfl (by decide) rfl (lenOf pd_4 rfl) rfl rfl (by decide) (by decide) fun T221 X222 => ?_
  show own_Go p e below _ (T221.setTop (mkF m 15 #[.val (.ref ab), .val (.ref aa), .val (.int (6 : Int32)), .val (.int (4 : Int32))] [(.int (own_b5 b0 b1 b2 b3 b4)), (.int (own_b5 b0 b1 b2 b3 b4))]))
  refine o_icmpNo cx X222 d3_15 (teq rfl).2 ?_
  refine o_iconst cx X222 (z := (1 : Int32)) d3_18 rfl ?_
  refine o_goto cx X222 23 d3_19 (by decide) (by decide) ?_
  exact o_retN cx X222 (z' := (1 : Int32)) d3_23 (by simp) rfl ⟨rfl, rfl⟩ (by decide) (by decide)
theorem ef_rok_6_5 (m : MethodId) (ab : Addr) (aa : Addr) : entryFrame m #[(.ref ab), (.ref aa), (.int (6 : Int32)), (.int (5 : Int32))] 4 = mkF m 0 #[.val (.ref ab), .val (.ref aa), .val (.int (6 : Int32)), .val (.int (5 : Int32))] [] := by first | (simp [entryFrame, mkF, argsToLocals, Value.category]; done) | rfl
set_option maxRecDepth 65536 in
set_option maxHeartbeats 40000000 in
theorem rok_6_5 (l : Launch) (Z : State) (a0 : Array Value) (hw : ∀ d ∈ tables_1, d.before a0 Z = true) (ab : Addr) (aa : Addr) (ts : List Value) (vs : List Value) (b0 : Int32) (b1 : Int32) (b2 : Int32) (b3 : Int32) (b4 : Int32) (b5 : Int32) (h0 : Heap) (n0 : Nat) (Z0 : n0 ≤ h0.size) (A0 : own_Ar Z h0 aa .byte vs) (hv0 : vs[0]? = some (.int b0)) (hv1 : vs[1]? = some (.int b1)) (hv2 : vs[2]? = some (.int b2)) (hv3 : vs[3]? = some (.int b3)) (hv4 : vs[4]? = some (.int b4)) (hv5 : vs[5]? = some (.int b5)) (A1 : own_Ar Z h0 ab .int ts) (ht : ts[5]? = some (.int (own_b6 b0 b1 b2 b3 b4 b5))) :
    own_Met l Z (⟨"com/example/needlewise/needlewise/KmpPartialMatchPinLaw", "ok", "([I[BII)Z"⟩ : MethodName) method_4_code 4 (some .boolean) ({ frames := 2, cells := 0, slots := 0, locals := 28 } : Room) #[(.ref ab), (.ref aa), (.int (6 : Int32)), (.int (5 : Int32))] h0 n0 (fun v' h' => v' = some (.int 1) ∧ h' = h0) := by
  refine own_body (plainFor_of_name pn_5) (fun m => ef_rok_6_5 m ab aa) Z0 ?_
  intro p e s m below meth c T0 cx X0
  show own_Go p e below _ (T0.setTop (mkF m 0 #[.val (.ref ab), .val (.ref aa), .val (.int (6 : Int32)), .val (.int (5 : Int32))] []))
  refine o_iloadN cx X0 d3_0 rfl ?_
  refine o_iloadN cx X0 d3_1 rfl ?_
  refine o_icmpNo cx X0 d3_2 (by decide) ?_
  refine o_aloadN cx X0 d3_5 rfl rfl ?_
  refine o_iloadN cx X0 d3_6 rfl ?_
  refine o_ldI cx X0 (v := (.int (own_b6 b0 b1 b2 b3 b4 b5))) d3_7 A1 5 (by decide) rfl ht ?_
  refine o_aloadN cx X0 d3_8 rfl rfl ?_
  refine o_iloadN cx X0 d3_9 rfl ?_
  refine o_iconst cx X0 (z := (1 : Int32)) d3_10 rfl ?_
  refine o_iadd cx X0 (z := (6 : Int32)) d3_11 rfl ?_
  refine o_callSp cx X0 (y' := (⟨"com/example/needlewise/needlewise/KmpPartialMatchPinLaw", "border", "([BI)I"⟩ : MethodName)) (argsL := [(.ref aa), (.int (6 : Int32))]) (st := [(.int (own_b6 b0 b1 b2 b3 b4 b5))]) d3_12 (o_w hw 14 rfl) (o_w hw 15 rfl) (o_w hw 3 rfl) (o_w hw 16 rfl) (by decide) (rbd_6 l Z a0 hw aa vs b0 b1 b2 b3 b4 b5 h0 n0 X0.ge0 A0 hv0 hv1 hv2 hv3 hv4 hv5) (by decide) 1 rfl (by decide) rfl (lenOf pd_4 rfl) rfl rfl (by decide) (by decide) fun T226 X227 => ?_
  show own_Go p e below _ (T226.setTop (mkF m 15 #[.val (.ref ab), .val (.ref aa), .val (.int (6 : Int32)), .val (.int (5 : Int32))] [(.int (own_b6 b0 b1 b2 b3 b4 b5)), (.int (own_b6 b0 b1 b2 b3 b4 b5))]))
  refine o_icmpNo cx X227 d3_15 (teq rfl).2 ?_
  refine o_iconst cx X227 (z := (1 : Int32)) d3_18 rfl ?_
  refine o_goto cx X227 23 d3_19 (by decide) (by decide) ?_
  exact o_retN cx X227 (z' := (1 : Int32)) d3_23 (by simp) rfl ⟨rfl, rfl⟩ (by decide) (by decide)
theorem ef_rok_1_1 (m : MethodId) (ab : Addr) (aa : Addr) : entryFrame m #[(.ref ab), (.ref aa), (.int (1 : Int32)), (.int (1 : Int32))] 4 = mkF m 0 #[.val (.ref ab), .val (.ref aa), .val (.int (1 : Int32)), .val (.int (1 : Int32))] [] := by first | (simp [entryFrame, mkF, argsToLocals, Value.category]; done) | rfl
set_option maxRecDepth 65536 in
set_option maxHeartbeats 40000000 in
theorem rok_1_1 (l : Launch) (Z : State) (a0 : Array Value) (hw : ∀ d ∈ tables_1, d.before a0 Z = true) (ab : Addr) (aa : Addr) (h0 : Heap) (n0 : Nat) (Z0 : n0 ≤ h0.size) :
    own_Met l Z (⟨"com/example/needlewise/needlewise/KmpPartialMatchPinLaw", "ok", "([I[BII)Z"⟩ : MethodName) method_4_code 4 (some .boolean) ({ frames := 0, cells := 0, slots := 0, locals := 0 } : Room) #[(.ref ab), (.ref aa), (.int (1 : Int32)), (.int (1 : Int32))] h0 n0 (fun v' h' => v' = some (.int 1) ∧ h' = h0) := by
  refine own_body (plainFor_of_name pn_5) (fun m => ef_rok_1_1 m ab aa) Z0 ?_
  intro p e s m below meth c T0 cx X0
  show own_Go p e below _ (T0.setTop (mkF m 0 #[.val (.ref ab), .val (.ref aa), .val (.int (1 : Int32)), .val (.int (1 : Int32))] []))
  refine o_iloadN cx X0 d3_0 rfl ?_
  refine o_iloadN cx X0 d3_1 rfl ?_
  refine o_icmpYes cx X0 18 d3_2 (by decide) (by decide) (by decide) ?_
  refine o_iconst cx X0 (z := (1 : Int32)) d3_18 rfl ?_
  refine o_goto cx X0 23 d3_19 (by decide) (by decide) ?_
  exact o_retN cx X0 (z' := (1 : Int32)) d3_23 (by simp) rfl ⟨rfl, rfl⟩ (by decide) (by decide)
theorem ef_rok_1_2 (m : MethodId) (ab : Addr) (aa : Addr) : entryFrame m #[(.ref ab), (.ref aa), (.int (1 : Int32)), (.int (2 : Int32))] 4 = mkF m 0 #[.val (.ref ab), .val (.ref aa), .val (.int (1 : Int32)), .val (.int (2 : Int32))] [] := by first | (simp [entryFrame, mkF, argsToLocals, Value.category]; done) | rfl
set_option maxRecDepth 65536 in
set_option maxHeartbeats 40000000 in
theorem rok_1_2 (l : Launch) (Z : State) (a0 : Array Value) (hw : ∀ d ∈ tables_1, d.before a0 Z = true) (ab : Addr) (aa : Addr) (h0 : Heap) (n0 : Nat) (Z0 : n0 ≤ h0.size) :
    own_Met l Z (⟨"com/example/needlewise/needlewise/KmpPartialMatchPinLaw", "ok", "([I[BII)Z"⟩ : MethodName) method_4_code 4 (some .boolean) ({ frames := 0, cells := 0, slots := 0, locals := 0 } : Room) #[(.ref ab), (.ref aa), (.int (1 : Int32)), (.int (2 : Int32))] h0 n0 (fun v' h' => v' = some (.int 1) ∧ h' = h0) := by
  refine own_body (plainFor_of_name pn_5) (fun m => ef_rok_1_2 m ab aa) Z0 ?_
  intro p e s m below meth c T0 cx X0
  show own_Go p e below _ (T0.setTop (mkF m 0 #[.val (.ref ab), .val (.ref aa), .val (.int (1 : Int32)), .val (.int (2 : Int32))] []))
  refine o_iloadN cx X0 d3_0 rfl ?_
  refine o_iloadN cx X0 d3_1 rfl ?_
  refine o_icmpYes cx X0 18 d3_2 (by decide) (by decide) (by decide) ?_
  refine o_iconst cx X0 (z := (1 : Int32)) d3_18 rfl ?_
  refine o_goto cx X0 23 d3_19 (by decide) (by decide) ?_
  exact o_retN cx X0 (z' := (1 : Int32)) d3_23 (by simp) rfl ⟨rfl, rfl⟩ (by decide) (by decide)
theorem ef_rok_2_2 (m : MethodId) (ab : Addr) (aa : Addr) : entryFrame m #[(.ref ab), (.ref aa), (.int (2 : Int32)), (.int (2 : Int32))] 4 = mkF m 0 #[.val (.ref ab), .val (.ref aa), .val (.int (2 : Int32)), .val (.int (2 : Int32))] [] := by first | (simp [entryFrame, mkF, argsToLocals, Value.category]; done) | rfl
set_option maxRecDepth 65536 in
set_option maxHeartbeats 40000000 in
theorem rok_2_2 (l : Launch) (Z : State) (a0 : Array Value) (hw : ∀ d ∈ tables_1, d.before a0 Z = true) (ab : Addr) (aa : Addr) (h0 : Heap) (n0 : Nat) (Z0 : n0 ≤ h0.size) :
    own_Met l Z (⟨"com/example/needlewise/needlewise/KmpPartialMatchPinLaw", "ok", "([I[BII)Z"⟩ : MethodName) method_4_code 4 (some .boolean) ({ frames := 0, cells := 0, slots := 0, locals := 0 } : Room) #[(.ref ab), (.ref aa), (.int (2 : Int32)), (.int (2 : Int32))] h0 n0 (fun v' h' => v' = some (.int 1) ∧ h' = h0) := by
  refine own_body (plainFor_of_name pn_5) (fun m => ef_rok_2_2 m ab aa) Z0 ?_
  intro p e s m below meth c T0 cx X0
  show own_Go p e below _ (T0.setTop (mkF m 0 #[.val (.ref ab), .val (.ref aa), .val (.int (2 : Int32)), .val (.int (2 : Int32))] []))
  refine o_iloadN cx X0 d3_0 rfl ?_
  refine o_iloadN cx X0 d3_1 rfl ?_
  refine o_icmpYes cx X0 18 d3_2 (by decide) (by decide) (by decide) ?_
  refine o_iconst cx X0 (z := (1 : Int32)) d3_18 rfl ?_
  refine o_goto cx X0 23 d3_19 (by decide) (by decide) ?_
  exact o_retN cx X0 (z' := (1 : Int32)) d3_23 (by simp) rfl ⟨rfl, rfl⟩ (by decide) (by decide)
theorem ef_rok_1_3 (m : MethodId) (ab : Addr) (aa : Addr) : entryFrame m #[(.ref ab), (.ref aa), (.int (1 : Int32)), (.int (3 : Int32))] 4 = mkF m 0 #[.val (.ref ab), .val (.ref aa), .val (.int (1 : Int32)), .val (.int (3 : Int32))] [] := by first | (simp [entryFrame, mkF, argsToLocals, Value.category]; done) | rfl
set_option maxRecDepth 65536 in
set_option maxHeartbeats 40000000 in
theorem rok_1_3 (l : Launch) (Z : State) (a0 : Array Value) (hw : ∀ d ∈ tables_1, d.before a0 Z = true) (ab : Addr) (aa : Addr) (h0 : Heap) (n0 : Nat) (Z0 : n0 ≤ h0.size) :
    own_Met l Z (⟨"com/example/needlewise/needlewise/KmpPartialMatchPinLaw", "ok", "([I[BII)Z"⟩ : MethodName) method_4_code 4 (some .boolean) ({ frames := 0, cells := 0, slots := 0, locals := 0 } : Room) #[(.ref ab), (.ref aa), (.int (1 : Int32)), (.int (3 : Int32))] h0 n0 (fun v' h' => v' = some (.int 1) ∧ h' = h0) := by
  refine own_body (plainFor_of_name pn_5) (fun m => ef_rok_1_3 m ab aa) Z0 ?_
  intro p e s m below meth c T0 cx X0
  show own_Go p e below _ (T0.setTop (mkF m 0 #[.val (.ref ab), .val (.ref aa), .val (.int (1 : Int32)), .val (.int (3 : Int32))] []))
  refine o_iloadN cx X0 d3_0 rfl ?_
  refine o_iloadN cx X0 d3_1 rfl ?_
  refine o_icmpYes cx X0 18 d3_2 (by decide) (by decide) (by decide) ?_
  refine o_iconst cx X0 (z := (1 : Int32)) d3_18 rfl ?_
  refine o_goto cx X0 23 d3_19 (by decide) (by decide) ?_
  exact o_retN cx X0 (z' := (1 : Int32)) d3_23 (by simp) rfl ⟨rfl, rfl⟩ (by decide) (by decide)
theorem ef_rok_2_3 (m : MethodId) (ab : Addr) (aa : Addr) : entryFrame m #[(.ref ab), (.ref aa), (.int (2 : Int32)), (.int (3 : Int32))] 4 = mkF m 0 #[.val (.ref ab), .val (.ref aa), .val (.int (2 : Int32)), .val (.int (3 : Int32))] [] := by first | (simp [entryFrame, mkF, argsToLocals, Value.category]; done) | rfl
set_option maxRecDepth 65536 in
set_option maxHeartbeats 40000000 in
theorem rok_2_3 (l : Launch) (Z : State) (a0 : Array Value) (hw : ∀ d ∈ tables_1, d.before a0 Z = true) (ab : Addr) (aa : Addr) (h0 : Heap) (n0 : Nat) (Z0 : n0 ≤ h0.size) :
    own_Met l Z (⟨"com/example/needlewise/needlewise/KmpPartialMatchPinLaw", "ok", "([I[BII)Z"⟩ : MethodName) method_4_code 4 (some .boolean) ({ frames := 0, cells := 0, slots := 0, locals := 0 } : Room) #[(.ref ab), (.ref aa), (.int (2 : Int32)), (.int (3 : Int32))] h0 n0 (fun v' h' => v' = some (.int 1) ∧ h' = h0) := by
  refine own_body (plainFor_of_name pn_5) (fun m => ef_rok_2_3 m ab aa) Z0 ?_
  intro p e s m below meth c T0 cx X0
  show own_Go p e below _ (T0.setTop (mkF m 0 #[.val (.ref ab), .val (.ref aa), .val (.int (2 : Int32)), .val (.int (3 : Int32))] []))
  refine o_iloadN cx X0 d3_0 rfl ?_
  refine o_iloadN cx X0 d3_1 rfl ?_
  refine o_icmpYes cx X0 18 d3_2 (by decide) (by decide) (by decide) ?_
  refine o_iconst cx X0 (z := (1 : Int32)) d3_18 rfl ?_
  refine o_goto cx X0 23 d3_19 (by decide) (by decide) ?_
  exact o_retN cx X0 (z' := (1 : Int32)) d3_23 (by simp) rfl ⟨rfl, rfl⟩ (by decide) (by decide)
theorem ef_rok_3_3 (m : MethodId) (ab : Addr) (aa : Addr) : entryFrame m #[(.ref ab), (.ref aa), (.int (3 : Int32)), (.int (3 : Int32))] 4 = mkF m 0 #[.val (.ref ab), .val (.ref aa), .val (.int (3 : Int32)), .val (.int (3 : Int32))] [] := by first | (simp [entryFrame, mkF, argsToLocals, Value.category]; done) | rfl
set_option maxRecDepth 65536 in
set_option maxHeartbeats 40000000 in
theorem rok_3_3 (l : Launch) (Z : State) (a0 : Array Value) (hw : ∀ d ∈ tables_1, d.before a0 Z = true) (ab : Addr) (aa : Addr) (h0 : Heap) (n0 : Nat) (Z0 : n0 ≤ h0.size) :
    own_Met l Z (⟨"com/example/needlewise/needlewise/KmpPartialMatchPinLaw", "ok", "([I[BII)Z"⟩ : MethodName) method_4_code 4 (some .boolean) ({ frames := 0, cells := 0, slots := 0, locals := 0 } : Room) #[(.ref ab), (.ref aa), (.int (3 : Int32)), (.int (3 : Int32))] h0 n0 (fun v' h' => v' = some (.int 1) ∧ h' = h0) := by
  refine own_body (plainFor_of_name pn_5) (fun m => ef_rok_3_3 m ab aa) Z0 ?_
  intro p e s m below meth c T0 cx X0
  show own_Go p e below _ (T0.setTop (mkF m 0 #[.val (.ref ab), .val (.ref aa), .val (.int (3 : Int32)), .val (.int (3 : Int32))] []))
  refine o_iloadN cx X0 d3_0 rfl ?_
  refine o_iloadN cx X0 d3_1 rfl ?_
  refine o_icmpYes cx X0 18 d3_2 (by decide) (by decide) (by decide) ?_
  refine o_iconst cx X0 (z := (1 : Int32)) d3_18 rfl ?_
  refine o_goto cx X0 23 d3_19 (by decide) (by decide) ?_
  exact o_retN cx X0 (z' := (1 : Int32)) d3_23 (by simp) rfl ⟨rfl, rfl⟩ (by decide) (by decide)
theorem ef_rok_1_4 (m : MethodId) (ab : Addr) (aa : Addr) : entryFrame m #[(.ref ab), (.ref aa), (.int (1 : Int32)), (.int (4 : Int32))] 4 = mkF m 0 #[.val (.ref ab), .val (.ref aa), .val (.int (1 : Int32)), .val (.int (4 : Int32))] [] := by first | (simp [entryFrame, mkF, argsToLocals, Value.category]; done) | rfl
set_option maxRecDepth 65536 in
set_option maxHeartbeats 40000000 in
theorem rok_1_4 (l : Launch) (Z : State) (a0 : Array Value) (hw : ∀ d ∈ tables_1, d.before a0 Z = true) (ab : Addr) (aa : Addr) (h0 : Heap) (n0 : Nat) (Z0 : n0 ≤ h0.size) :
    own_Met l Z (⟨"com/example/needlewise/needlewise/KmpPartialMatchPinLaw", "ok", "([I[BII)Z"⟩ : MethodName) method_4_code 4 (some .boolean) ({ frames := 0, cells := 0, slots := 0, locals := 0 } : Room) #[(.ref ab), (.ref aa), (.int (1 : Int32)), (.int (4 : Int32))] h0 n0 (fun v' h' => v' = some (.int 1) ∧ h' = h0) := by
  refine own_body (plainFor_of_name pn_5) (fun m => ef_rok_1_4 m ab aa) Z0 ?_
  intro p e s m below meth c T0 cx X0
  show own_Go p e below _ (T0.setTop (mkF m 0 #[.val (.ref ab), .val (.ref aa), .val (.int (1 : Int32)), .val (.int (4 : Int32))] []))
  refine o_iloadN cx X0 d3_0 rfl ?_
  refine o_iloadN cx X0 d3_1 rfl ?_
  refine o_icmpYes cx X0 18 d3_2 (by decide) (by decide) (by decide) ?_
  refine o_iconst cx X0 (z := (1 : Int32)) d3_18 rfl ?_
  refine o_goto cx X0 23 d3_19 (by decide) (by decide) ?_
  exact o_retN cx X0 (z' := (1 : Int32)) d3_23 (by simp) rfl ⟨rfl, rfl⟩ (by decide) (by decide)
theorem ef_rok_2_4 (m : MethodId) (ab : Addr) (aa : Addr) : entryFrame m #[(.ref ab), (.ref aa), (.int (2 : Int32)), (.int (4 : Int32))] 4 = mkF m 0 #[.val (.ref ab), .val (.ref aa), .val (.int (2 : Int32)), .val (.int (4 : Int32))] [] := by first | (simp [entryFrame, mkF, argsToLocals, Value.category]; done) | rfl
set_option maxRecDepth 65536 in
set_option maxHeartbeats 40000000 in
theorem rok_2_4 (l : Launch) (Z : State) (a0 : Array Value) (hw : ∀ d ∈ tables_1, d.before a0 Z = true) (ab : Addr) (aa : Addr) (h0 : Heap) (n0 : Nat) (Z0 : n0 ≤ h0.size) :
    own_Met l Z (⟨"com/example/needlewise/needlewise/KmpPartialMatchPinLaw", "ok", "([I[BII)Z"⟩ : MethodName) method_4_code 4 (some .boolean) ({ frames := 0, cells := 0, slots := 0, locals := 0 } : Room) #[(.ref ab), (.ref aa), (.int (2 : Int32)), (.int (4 : Int32))] h0 n0 (fun v' h' => v' = some (.int 1) ∧ h' = h0) := by
  refine own_body (plainFor_of_name pn_5) (fun m => ef_rok_2_4 m ab aa) Z0 ?_
  intro p e s m below meth c T0 cx X0
  show own_Go p e below _ (T0.setTop (mkF m 0 #[.val (.ref ab), .val (.ref aa), .val (.int (2 : Int32)), .val (.int (4 : Int32))] []))
  refine o_iloadN cx X0 d3_0 rfl ?_
  refine o_iloadN cx X0 d3_1 rfl ?_
  refine o_icmpYes cx X0 18 d3_2 (by decide) (by decide) (by decide) ?_
  refine o_iconst cx X0 (z := (1 : Int32)) d3_18 rfl ?_
  refine o_goto cx X0 23 d3_19 (by decide) (by decide) ?_
  exact o_retN cx X0 (z' := (1 : Int32)) d3_23 (by simp) rfl ⟨rfl, rfl⟩ (by decide) (by decide)
theorem ef_rok_3_4 (m : MethodId) (ab : Addr) (aa : Addr) : entryFrame m #[(.ref ab), (.ref aa), (.int (3 : Int32)), (.int (4 : Int32))] 4 = mkF m 0 #[.val (.ref ab), .val (.ref aa), .val (.int (3 : Int32)), .val (.int (4 : Int32))] [] := by first | (simp [entryFrame, mkF, argsToLocals, Value.category]; done) | rfl
set_option maxRecDepth 65536 in
set_option maxHeartbeats 40000000 in
theorem rok_3_4 (l : Launch) (Z : State) (a0 : Array Value) (hw : ∀ d ∈ tables_1, d.before a0 Z = true) (ab : Addr) (aa : Addr) (h0 : Heap) (n0 : Nat) (Z0 : n0 ≤ h0.size) :
    own_Met l Z (⟨"com/example/needlewise/needlewise/KmpPartialMatchPinLaw", "ok", "([I[BII)Z"⟩ : MethodName) method_4_code 4 (some .boolean) ({ frames := 0, cells := 0, slots := 0, locals := 0 } : Room) #[(.ref ab), (.ref aa), (.int (3 : Int32)), (.int (4 : Int32))] h0 n0 (fun v' h' => v' = some (.int 1) ∧ h' = h0) := by
  refine own_body (plainFor_of_name pn_5) (fun m => ef_rok_3_4 m ab aa) Z0 ?_
  intro p e s m below meth c T0 cx X0
  show own_Go p e below _ (T0.setTop (mkF m 0 #[.val (.ref ab), .val (.ref aa), .val (.int (3 : Int32)), .val (.int (4 : Int32))] []))
  refine o_iloadN cx X0 d3_0 rfl ?_
  refine o_iloadN cx X0 d3_1 rfl ?_
  refine o_icmpYes cx X0 18 d3_2 (by decide) (by decide) (by decide) ?_
  refine o_iconst cx X0 (z := (1 : Int32)) d3_18 rfl ?_
  refine o_goto cx X0 23 d3_19 (by decide) (by decide) ?_
  exact o_retN cx X0 (z' := (1 : Int32)) d3_23 (by simp) rfl ⟨rfl, rfl⟩ (by decide) (by decide)
theorem ef_rok_4_4 (m : MethodId) (ab : Addr) (aa : Addr) : entryFrame m #[(.ref ab), (.ref aa), (.int (4 : Int32)), (.int (4 : Int32))] 4 = mkF m 0 #[.val (.ref ab), .val (.ref aa), .val (.int (4 : Int32)), .val (.int (4 : Int32))] [] := by first | (simp [entryFrame, mkF, argsToLocals, Value.category]; done) | rfl
set_option maxRecDepth 65536 in
set_option maxHeartbeats 40000000 in
theorem rok_4_4 (l : Launch) (Z : State) (a0 : Array Value) (hw : ∀ d ∈ tables_1, d.before a0 Z = true) (ab : Addr) (aa : Addr) (h0 : Heap) (n0 : Nat) (Z0 : n0 ≤ h0.size) :
    own_Met l Z (⟨"com/example/needlewise/needlewise/KmpPartialMatchPinLaw", "ok", "([I[BII)Z"⟩ : MethodName) method_4_code 4 (some .boolean) ({ frames := 0, cells := 0, slots := 0, locals := 0 } : Room) #[(.ref ab), (.ref aa), (.int (4 : Int32)), (.int (4 : Int32))] h0 n0 (fun v' h' => v' = some (.int 1) ∧ h' = h0) := by
  refine own_body (plainFor_of_name pn_5) (fun m => ef_rok_4_4 m ab aa) Z0 ?_
  intro p e s m below meth c T0 cx X0
  show own_Go p e below _ (T0.setTop (mkF m 0 #[.val (.ref ab), .val (.ref aa), .val (.int (4 : Int32)), .val (.int (4 : Int32))] []))
  refine o_iloadN cx X0 d3_0 rfl ?_
  refine o_iloadN cx X0 d3_1 rfl ?_
  refine o_icmpYes cx X0 18 d3_2 (by decide) (by decide) (by decide) ?_
  refine o_iconst cx X0 (z := (1 : Int32)) d3_18 rfl ?_
  refine o_goto cx X0 23 d3_19 (by decide) (by decide) ?_
  exact o_retN cx X0 (z' := (1 : Int32)) d3_23 (by simp) rfl ⟨rfl, rfl⟩ (by decide) (by decide)
theorem ef_rok_1_5 (m : MethodId) (ab : Addr) (aa : Addr) : entryFrame m #[(.ref ab), (.ref aa), (.int (1 : Int32)), (.int (5 : Int32))] 4 = mkF m 0 #[.val (.ref ab), .val (.ref aa), .val (.int (1 : Int32)), .val (.int (5 : Int32))] [] := by first | (simp [entryFrame, mkF, argsToLocals, Value.category]; done) | rfl
set_option maxRecDepth 65536 in
set_option maxHeartbeats 40000000 in
theorem rok_1_5 (l : Launch) (Z : State) (a0 : Array Value) (hw : ∀ d ∈ tables_1, d.before a0 Z = true) (ab : Addr) (aa : Addr) (h0 : Heap) (n0 : Nat) (Z0 : n0 ≤ h0.size) :
    own_Met l Z (⟨"com/example/needlewise/needlewise/KmpPartialMatchPinLaw", "ok", "([I[BII)Z"⟩ : MethodName) method_4_code 4 (some .boolean) ({ frames := 0, cells := 0, slots := 0, locals := 0 } : Room) #[(.ref ab), (.ref aa), (.int (1 : Int32)), (.int (5 : Int32))] h0 n0 (fun v' h' => v' = some (.int 1) ∧ h' = h0) := by
  refine own_body (plainFor_of_name pn_5) (fun m => ef_rok_1_5 m ab aa) Z0 ?_
  intro p e s m below meth c T0 cx X0
  show own_Go p e below _ (T0.setTop (mkF m 0 #[.val (.ref ab), .val (.ref aa), .val (.int (1 : Int32)), .val (.int (5 : Int32))] []))
  refine o_iloadN cx X0 d3_0 rfl ?_
  refine o_iloadN cx X0 d3_1 rfl ?_
  refine o_icmpYes cx X0 18 d3_2 (by decide) (by decide) (by decide) ?_
  refine o_iconst cx X0 (z := (1 : Int32)) d3_18 rfl ?_
  refine o_goto cx X0 23 d3_19 (by decide) (by decide) ?_
  exact o_retN cx X0 (z' := (1 : Int32)) d3_23 (by simp) rfl ⟨rfl, rfl⟩ (by decide) (by decide)
theorem ef_rok_2_5 (m : MethodId) (ab : Addr) (aa : Addr) : entryFrame m #[(.ref ab), (.ref aa), (.int (2 : Int32)), (.int (5 : Int32))] 4 = mkF m 0 #[.val (.ref ab), .val (.ref aa), .val (.int (2 : Int32)), .val (.int (5 : Int32))] [] := by first | (simp [entryFrame, mkF, argsToLocals, Value.category]; done) | rfl
set_option maxRecDepth 65536 in
set_option maxHeartbeats 40000000 in
theorem rok_2_5 (l : Launch) (Z : State) (a0 : Array Value) (hw : ∀ d ∈ tables_1, d.before a0 Z = true) (ab : Addr) (aa : Addr) (h0 : Heap) (n0 : Nat) (Z0 : n0 ≤ h0.size) :
    own_Met l Z (⟨"com/example/needlewise/needlewise/KmpPartialMatchPinLaw", "ok", "([I[BII)Z"⟩ : MethodName) method_4_code 4 (some .boolean) ({ frames := 0, cells := 0, slots := 0, locals := 0 } : Room) #[(.ref ab), (.ref aa), (.int (2 : Int32)), (.int (5 : Int32))] h0 n0 (fun v' h' => v' = some (.int 1) ∧ h' = h0) := by
  refine own_body (plainFor_of_name pn_5) (fun m => ef_rok_2_5 m ab aa) Z0 ?_
  intro p e s m below meth c T0 cx X0
  show own_Go p e below _ (T0.setTop (mkF m 0 #[.val (.ref ab), .val (.ref aa), .val (.int (2 : Int32)), .val (.int (5 : Int32))] []))
  refine o_iloadN cx X0 d3_0 rfl ?_
  refine o_iloadN cx X0 d3_1 rfl ?_
  refine o_icmpYes cx X0 18 d3_2 (by decide) (by decide) (by decide) ?_
  refine o_iconst cx X0 (z := (1 : Int32)) d3_18 rfl ?_
  refine o_goto cx X0 23 d3_19 (by decide) (by decide) ?_
  exact o_retN cx X0 (z' := (1 : Int32)) d3_23 (by simp) rfl ⟨rfl, rfl⟩ (by decide) (by decide)
theorem ef_rok_3_5 (m : MethodId) (ab : Addr) (aa : Addr) : entryFrame m #[(.ref ab), (.ref aa), (.int (3 : Int32)), (.int (5 : Int32))] 4 = mkF m 0 #[.val (.ref ab), .val (.ref aa), .val (.int (3 : Int32)), .val (.int (5 : Int32))] [] := by first | (simp [entryFrame, mkF, argsToLocals, Value.category]; done) | rfl
set_option maxRecDepth 65536 in
set_option maxHeartbeats 40000000 in
theorem rok_3_5 (l : Launch) (Z : State) (a0 : Array Value) (hw : ∀ d ∈ tables_1, d.before a0 Z = true) (ab : Addr) (aa : Addr) (h0 : Heap) (n0 : Nat) (Z0 : n0 ≤ h0.size) :
    own_Met l Z (⟨"com/example/needlewise/needlewise/KmpPartialMatchPinLaw", "ok", "([I[BII)Z"⟩ : MethodName) method_4_code 4 (some .boolean) ({ frames := 0, cells := 0, slots := 0, locals := 0 } : Room) #[(.ref ab), (.ref aa), (.int (3 : Int32)), (.int (5 : Int32))] h0 n0 (fun v' h' => v' = some (.int 1) ∧ h' = h0) := by
  refine own_body (plainFor_of_name pn_5) (fun m => ef_rok_3_5 m ab aa) Z0 ?_
  intro p e s m below meth c T0 cx X0
  show own_Go p e below _ (T0.setTop (mkF m 0 #[.val (.ref ab), .val (.ref aa), .val (.int (3 : Int32)), .val (.int (5 : Int32))] []))
  refine o_iloadN cx X0 d3_0 rfl ?_
  refine o_iloadN cx X0 d3_1 rfl ?_
  refine o_icmpYes cx X0 18 d3_2 (by decide) (by decide) (by decide) ?_
  refine o_iconst cx X0 (z := (1 : Int32)) d3_18 rfl ?_
  refine o_goto cx X0 23 d3_19 (by decide) (by decide) ?_
  exact o_retN cx X0 (z' := (1 : Int32)) d3_23 (by simp) rfl ⟨rfl, rfl⟩ (by decide) (by decide)
theorem ef_rok_4_5 (m : MethodId) (ab : Addr) (aa : Addr) : entryFrame m #[(.ref ab), (.ref aa), (.int (4 : Int32)), (.int (5 : Int32))] 4 = mkF m 0 #[.val (.ref ab), .val (.ref aa), .val (.int (4 : Int32)), .val (.int (5 : Int32))] [] := by first | (simp [entryFrame, mkF, argsToLocals, Value.category]; done) | rfl
set_option maxRecDepth 65536 in
set_option maxHeartbeats 40000000 in
theorem rok_4_5 (l : Launch) (Z : State) (a0 : Array Value) (hw : ∀ d ∈ tables_1, d.before a0 Z = true) (ab : Addr) (aa : Addr) (h0 : Heap) (n0 : Nat) (Z0 : n0 ≤ h0.size) :
    own_Met l Z (⟨"com/example/needlewise/needlewise/KmpPartialMatchPinLaw", "ok", "([I[BII)Z"⟩ : MethodName) method_4_code 4 (some .boolean) ({ frames := 0, cells := 0, slots := 0, locals := 0 } : Room) #[(.ref ab), (.ref aa), (.int (4 : Int32)), (.int (5 : Int32))] h0 n0 (fun v' h' => v' = some (.int 1) ∧ h' = h0) := by
  refine own_body (plainFor_of_name pn_5) (fun m => ef_rok_4_5 m ab aa) Z0 ?_
  intro p e s m below meth c T0 cx X0
  show own_Go p e below _ (T0.setTop (mkF m 0 #[.val (.ref ab), .val (.ref aa), .val (.int (4 : Int32)), .val (.int (5 : Int32))] []))
  refine o_iloadN cx X0 d3_0 rfl ?_
  refine o_iloadN cx X0 d3_1 rfl ?_
  refine o_icmpYes cx X0 18 d3_2 (by decide) (by decide) (by decide) ?_
  refine o_iconst cx X0 (z := (1 : Int32)) d3_18 rfl ?_
  refine o_goto cx X0 23 d3_19 (by decide) (by decide) ?_
  exact o_retN cx X0 (z' := (1 : Int32)) d3_23 (by simp) rfl ⟨rfl, rfl⟩ (by decide) (by decide)
theorem ef_rok_5_5 (m : MethodId) (ab : Addr) (aa : Addr) : entryFrame m #[(.ref ab), (.ref aa), (.int (5 : Int32)), (.int (5 : Int32))] 4 = mkF m 0 #[.val (.ref ab), .val (.ref aa), .val (.int (5 : Int32)), .val (.int (5 : Int32))] [] := by first | (simp [entryFrame, mkF, argsToLocals, Value.category]; done) | rfl
set_option maxRecDepth 65536 in
set_option maxHeartbeats 40000000 in
theorem rok_5_5 (l : Launch) (Z : State) (a0 : Array Value) (hw : ∀ d ∈ tables_1, d.before a0 Z = true) (ab : Addr) (aa : Addr) (h0 : Heap) (n0 : Nat) (Z0 : n0 ≤ h0.size) :
    own_Met l Z (⟨"com/example/needlewise/needlewise/KmpPartialMatchPinLaw", "ok", "([I[BII)Z"⟩ : MethodName) method_4_code 4 (some .boolean) ({ frames := 0, cells := 0, slots := 0, locals := 0 } : Room) #[(.ref ab), (.ref aa), (.int (5 : Int32)), (.int (5 : Int32))] h0 n0 (fun v' h' => v' = some (.int 1) ∧ h' = h0) := by
  refine own_body (plainFor_of_name pn_5) (fun m => ef_rok_5_5 m ab aa) Z0 ?_
  intro p e s m below meth c T0 cx X0
  show own_Go p e below _ (T0.setTop (mkF m 0 #[.val (.ref ab), .val (.ref aa), .val (.int (5 : Int32)), .val (.int (5 : Int32))] []))
  refine o_iloadN cx X0 d3_0 rfl ?_
  refine o_iloadN cx X0 d3_1 rfl ?_
  refine o_icmpYes cx X0 18 d3_2 (by decide) (by decide) (by decide) ?_
  refine o_iconst cx X0 (z := (1 : Int32)) d3_18 rfl ?_
  refine o_goto cx X0 23 d3_19 (by decide) (by decide) ?_
  exact o_retN cx X0 (z' := (1 : Int32)) d3_23 (by simp) rfl ⟨rfl, rfl⟩ (by decide) (by decide)
theorem d2_0 : decode prog_12_method_2_code 0 = .ok (.aload_n 0, 1) := by decide +kernel
theorem d2_1 : decode prog_12_method_2_code 1 = .ok (.arraylength, 1) := by decide +kernel
theorem d2_2 : decode prog_12_method_2_code 2 = .ok (.newarray .int, 2) := by decide +kernel
theorem d2_4 : decode prog_12_method_2_code 4 = .ok (.astore_n 1, 1) := by decide +kernel
theorem d2_5 : decode prog_12_method_2_code 5 = .ok (.iconst 0, 1) := by decide +kernel
theorem d2_6 : decode prog_12_method_2_code 6 = .ok (.istore_n 2, 1) := by decide +kernel
theorem d2_7 : decode prog_12_method_2_code 7 = .ok (.iconst 1, 1) := by decide +kernel
theorem d2_8 : decode prog_12_method_2_code 8 = .ok (.istore_n 3, 1) := by decide +kernel
theorem d2_9 : decode prog_12_method_2_code 9 = .ok (.iload_n 3, 1) := by decide +kernel
theorem d2_10 : decode prog_12_method_2_code 10 = .ok (.aload_n 0, 1) := by decide +kernel
theorem d2_11 : decode prog_12_method_2_code 11 = .ok (.arraylength, 1) := by decide +kernel
theorem d2_12 : decode prog_12_method_2_code 12 = .ok (.if_icmp .ge 47, 3) := by decide +kernel
theorem d2_59 : decode prog_12_method_2_code 59 = .ok (.aload_n 1, 1) := by decide +kernel
theorem d2_60 : decode prog_12_method_2_code 60 = .ok (.areturn, 1) := by decide +kernel
theorem pn_2 : plainName "com/example/needlewise/needlewise/Kmp" = true := by first | (simp [plainName, overriddenIn]; done) | decide +kernel
theorem ef_rpm_1 (m : MethodId) (aa : Addr) : entryFrame m #[(.ref aa)] 4 = mkF m 0 #[.val (.ref aa), .unset, .unset, .unset] [] := by first | (simp [entryFrame, mkF, argsToLocals, Value.category]; done) | rfl
set_option maxRecDepth 65536 in
set_option maxHeartbeats 40000000 in
theorem rpm_1 (l : Launch) (Z : State) (a0 : Array Value) (hw : ∀ d ∈ tables_1, d.before a0 Z = true) (aa : Addr) (b0 : Int32) (h0 : Heap) (n0 : Nat) (Z0 : n0 ≤ h0.size) (A0 : own_Ar Z h0 aa .byte [(.int b0)]) :
    own_Met l Z (⟨"com/example/needlewise/needlewise/Kmp", "partialMatch", "([B)[I"⟩ : MethodName) prog_12_method_2_code 4 (some (.array .int)) ({ frames := 0, cells := 1, slots := 1, locals := 0 } : Room) #[(.ref aa)] h0 n0 (fun v' h' => ∃ b : Addr, v' = some (.ref b) ∧ Keep h0 h' [] ∧ h0.size ≤ b ∧ n0 ≤ b ∧ own_Ar Z h' b .int [(.int (own_b1 b0))]) := by
  refine own_body (plainFor_of_name pn_2) (fun m => ef_rpm_1 m aa) Z0 ?_
  intro p e s m below meth c T0 cx X0
  have KK := Keep.refl h0 []
  show own_Go p e below _ (T0.setTop (mkF m 0 #[.val (.ref aa), .unset, .unset, .unset] []))
  refine o_aloadN cx X0 d2_0 rfl rfl ?_
  refine o_len cx X0 (z := (1 : Int32)) d2_1 A0 rfl ?_
  refine o_newP cx X0 d2_2 (o_w hw 10 rfl) (by decide) 1 1 rfl (Nat.le_refl _) (by decide) (by decide) (by decide) fun T232 h234 b231 gb237 ge238 X233 E235 A236 => ?_
  have ne_aa_b231 : aa ≠ b231 := by rw [gb237]; exact Nat.ne_of_lt A0.lt
  have sz_b231 : h0.size ≤ b231 := by rw [gb237]; exact KK.1
  have A0 := A0.ext E235
  have KK := KK.ext E235
  have A236 : own_Ar Z h234 b231 .int [(.int (0 : Int32))] := A236
  refine o_astoreN cx X233 (Ls' := #[.val (.ref aa), .val (.ref b231), .unset, .unset]) d2_4 rfl rfl ?_
  refine o_iconst cx X233 (z := (0 : Int32)) d2_5 rfl ?_
  refine o_istoreN cx X233 (Ls' := #[.val (.ref aa), .val (.ref b231), .val (.int (0 : Int32)), .unset]) d2_6 rfl ?_
  refine o_iconst cx X233 (z := (1 : Int32)) d2_7 rfl ?_
  refine o_istoreN cx X233 (Ls' := #[.val (.ref aa), .val (.ref b231), .val (.int (0 : Int32)), .val (.int (1 : Int32))]) d2_8 rfl ?_
  refine o_iloadN cx X233 d2_9 rfl ?_
  refine o_aloadN cx X233 d2_10 rfl rfl ?_
  refine o_len cx X233 (z := (1 : Int32)) d2_11 A0 rfl ?_
  refine o_icmpYes cx X233 59 d2_12 (by decide) (by decide) (by decide) ?_
  refine o_aloadN cx X233 d2_59 rfl rfl ?_
  have et0 : own_b1 b0 = (0 : Int32) := by simp [own_b1, own_i]
  exact o_retA cx X233 d2_60 rfl rfl rfl ⟨b231, rfl, KK, sz_b231, ge238, by rw [et0]; exact A236⟩ (by decide) (by decide)
theorem d2_15 : decode prog_12_method_2_code 15 = .ok (.iload_n 2, 1) := by decide +kernel
theorem d2_16 : decode prog_12_method_2_code 16 = .ok (.ifCond .le 21, 3) := by decide +kernel
theorem d2_37 : decode prog_12_method_2_code 37 = .ok (.aload_n 0, 1) := by decide +kernel
theorem d2_38 : decode prog_12_method_2_code 38 = .ok (.iload_n 3, 1) := by decide +kernel
theorem d2_39 : decode prog_12_method_2_code 39 = .ok (.baload, 1) := by decide +kernel
theorem d2_40 : decode prog_12_method_2_code 40 = .ok (.aload_n 0, 1) := by decide +kernel
theorem d2_41 : decode prog_12_method_2_code 41 = .ok (.iload_n 2, 1) := by decide +kernel
theorem d2_42 : decode prog_12_method_2_code 42 = .ok (.baload, 1) := by decide +kernel
theorem d2_43 : decode prog_12_method_2_code 43 = .ok (.if_icmp .ne 6, 3) := by decide +kernel
theorem d2_46 : decode prog_12_method_2_code 46 = .ok (.iinc 2 1, 3) := by decide +kernel
theorem d2_49 : decode prog_12_method_2_code 49 = .ok (.aload_n 1, 1) := by decide +kernel
theorem d2_50 : decode prog_12_method_2_code 50 = .ok (.iload_n 3, 1) := by decide +kernel
theorem d2_51 : decode prog_12_method_2_code 51 = .ok (.iload_n 2, 1) := by decide +kernel
theorem d2_52 : decode prog_12_method_2_code 52 = .ok (.iastore, 1) := by decide +kernel
theorem d2_53 : decode prog_12_method_2_code 53 = .ok (.iinc 3 1, 3) := by decide +kernel
theorem d2_56 : decode prog_12_method_2_code 56 = .ok (.goto (-47), 3) := by decide +kernel
theorem ef_rpm_2 (m : MethodId) (aa : Addr) : entryFrame m #[(.ref aa)] 4 = mkF m 0 #[.val (.ref aa), .unset, .unset, .unset] [] := by first | (simp [entryFrame, mkF, argsToLocals, Value.category]; done) | rfl
set_option maxRecDepth 65536 in
set_option maxHeartbeats 40000000 in
theorem rpm_2 (l : Launch) (Z : State) (a0 : Array Value) (hw : ∀ d ∈ tables_1, d.before a0 Z = true) (aa : Addr) (b0 : Int32) (b1 : Int32) (h0 : Heap) (n0 : Nat) (Z0 : n0 ≤ h0.size) (A0 : own_Ar Z h0 aa .byte [(.int b0), (.int b1)]) :
    own_Met l Z (⟨"com/example/needlewise/needlewise/Kmp", "partialMatch", "([B)[I"⟩ : MethodName) prog_12_method_2_code 4 (some (.array .int)) ({ frames := 0, cells := 1, slots := 2, locals := 0 } : Room) #[(.ref aa)] h0 n0 (fun v' h' => ∃ b : Addr, v' = some (.ref b) ∧ Keep h0 h' [] ∧ h0.size ≤ b ∧ n0 ≤ b ∧ own_Ar Z h' b .int [(.int (own_b1 b0)), (.int (own_b2 b0 b1))]) := by
  refine own_body (plainFor_of_name pn_2) (fun m => ef_rpm_2 m aa) Z0 ?_
  intro p e s m below meth c T0 cx X0
  have KK := Keep.refl h0 []
  show own_Go p e below _ (T0.setTop (mkF m 0 #[.val (.ref aa), .unset, .unset, .unset] []))
  refine o_aloadN cx X0 d2_0 rfl rfl ?_
  refine o_len cx X0 (z := (2 : Int32)) d2_1 A0 rfl ?_
  refine o_newP cx X0 d2_2 (o_w hw 10 rfl) (by decide) 2 2 rfl (Nat.le_refl _) (by decide) (by decide) (by decide) fun T240 h242 b239 gb245 ge246 X241 E243 A244 => ?_
  have ne_aa_b239 : aa ≠ b239 := by rw [gb245]; exact Nat.ne_of_lt A0.lt
  have sz_b239 : h0.size ≤ b239 := by rw [gb245]; exact KK.1
  have A0 := A0.ext E243
  have KK := KK.ext E243
  have A244 : own_Ar Z h242 b239 .int [(.int (0 : Int32)), (.int (0 : Int32))] := A244
  refine o_astoreN cx X241 (Ls' := #[.val (.ref aa), .val (.ref b239), .unset, .unset]) d2_4 rfl rfl ?_
  refine o_iconst cx X241 (z := (0 : Int32)) d2_5 rfl ?_
  refine o_istoreN cx X241 (Ls' := #[.val (.ref aa), .val (.ref b239), .val (.int (0 : Int32)), .unset]) d2_6 rfl ?_
  refine o_iconst cx X241 (z := (1 : Int32)) d2_7 rfl ?_
  refine o_istoreN cx X241 (Ls' := #[.val (.ref aa), .val (.ref b239), .val (.int (0 : Int32)), .val (.int (1 : Int32))]) d2_8 rfl ?_
  refine o_iloadN cx X241 d2_9 rfl ?_
  refine o_aloadN cx X241 d2_10 rfl rfl ?_
  refine o_len cx X241 (z := (2 : Int32)) d2_11 A0 rfl ?_
  refine o_icmpNo cx X241 d2_12 (by decide) ?_
  refine o_iloadN cx X241 d2_15 rfl ?_
  refine o_ifYes cx X241 37 d2_16 (by decide) (by decide) (by decide) ?_
  refine o_aloadN cx X241 d2_37 rfl rfl ?_
  refine o_iloadN cx X241 d2_38 rfl ?_
  refine o_ldB cx X241 (v := (.int b1)) d2_39 A0 1 (by decide) rfl rfl ?_
  refine o_aloadN cx X241 d2_40 rfl rfl ?_
  refine o_iloadN cx X241 d2_41 rfl ?_
  refine o_ldB cx X241 (v := (.int b0)) d2_42 A0 0 (by decide) rfl rfl ?_
  by_cases hc247 : b1 = b0
  · refine o_icmpNo cx X241 d2_43 (teq hc247).2 ?_
    obtain rfl : b0 = b1 := hc247.symm
    refine o_iinc cx X241 (z := (1 : Int32)) (Ls' := #[.val (.ref aa), .val (.ref b239), .val (.int (1 : Int32)), .val (.int (1 : Int32))]) d2_46 rfl rfl rfl ?_
    refine o_aloadN cx X241 d2_49 rfl rfl ?_
    refine o_iloadN cx X241 d2_50 rfl ?_
    refine o_iloadN cx X241 d2_51 rfl ?_
    refine o_stI cx X241 d2_52 A244 1 (by decide) rfl (Nat.le_of_ble_eq_true rfl) ge246 fun T248 h250 X249 W251 A244 => ?_
    have A0 := A0.other W251 ne_aa_b239
    have KK := KK.wr W251 (Or.inr sz_b239)
    have A244 : own_Ar Z h250 b239 .int [(.int (0 : Int32)), (.int (1 : Int32))] := A244
    refine o_iinc cx X249 (z := (2 : Int32)) (Ls' := #[.val (.ref aa), .val (.ref b239), .val (.int (1 : Int32)), .val (.int (2 : Int32))]) d2_53 rfl rfl rfl ?_
    refine o_goto cx X249 9 d2_56 (by decide) (by decide) ?_
    refine o_iloadN cx X249 d2_9 rfl ?_
    refine o_aloadN cx X249 d2_10 rfl rfl ?_
    refine o_len cx X249 (z := (2 : Int32)) d2_11 A0 rfl ?_
    refine o_icmpYes cx X249 59 d2_12 (by decide) (by decide) (by decide) ?_
    refine o_aloadN cx X249 d2_59 rfl rfl ?_
    have et0 : own_b1 b0 = (0 : Int32) := by simp [own_b1, own_i]
    have et1 : own_b2 b0 b0 = (1 : Int32) := by simp [own_b2, own_i]
    exact o_retA cx X249 d2_60 rfl rfl rfl ⟨b239, rfl, KK, sz_b239, ge246, by rw [et0, et1]; exact A244⟩ (by decide) (by decide)
  · refine o_icmpYes cx X241 49 d2_43 (feq hc247).2 (by decide) (by decide) ?_
    refine o_aloadN cx X241 d2_49 rfl rfl ?_
    refine o_iloadN cx X241 d2_50 rfl ?_
    refine o_iloadN cx X241 d2_51 rfl ?_
    refine o_stI cx X241 d2_52 A244 1 (by decide) rfl (Nat.le_of_ble_eq_true rfl) ge246 fun T252 h254 X253 W255 A244 => ?_
    have A0 := A0.other W255 ne_aa_b239
    have KK := KK.wr W255 (Or.inr sz_b239)
    have A244 : own_Ar Z h254 b239 .int [(.int (0 : Int32)), (.int (0 : Int32))] := A244
    refine o_iinc cx X253 (z := (2 : Int32)) (Ls' := #[.val (.ref aa), .val (.ref b239), .val (.int (0 : Int32)), .val (.int (2 : Int32))]) d2_53 rfl rfl rfl ?_
    refine o_goto cx X253 9 d2_56 (by decide) (by decide) ?_
    refine o_iloadN cx X253 d2_9 rfl ?_
    refine o_aloadN cx X253 d2_10 rfl rfl ?_
    refine o_len cx X253 (z := (2 : Int32)) d2_11 A0 rfl ?_
    refine o_icmpYes cx X253 59 d2_12 (by decide) (by decide) (by decide) ?_
    refine o_aloadN cx X253 d2_59 rfl rfl ?_
    have nn0 : ¬ b0 = b1 := fun q => hc247 (Eq.symm q)
    have et0 : own_b1 b0 = (0 : Int32) := by simp [own_b1, own_i, hc247, nn0]
    have et1 : own_b2 b0 b1 = (0 : Int32) := by simp [own_b2, own_i, hc247, nn0]
    exact o_retA cx X253 d2_60 rfl rfl rfl ⟨b239, rfl, KK, sz_b239, ge246, by rw [et0, et1]; exact A244⟩ (by decide) (by decide)
theorem d2_19 : decode prog_12_method_2_code 19 = .ok (.aload_n 0, 1) := by decide +kernel
theorem d2_20 : decode prog_12_method_2_code 20 = .ok (.iload_n 3, 1) := by decide +kernel
theorem d2_21 : decode prog_12_method_2_code 21 = .ok (.baload, 1) := by decide +kernel
theorem d2_22 : decode prog_12_method_2_code 22 = .ok (.aload_n 0, 1) := by decide +kernel
theorem d2_23 : decode prog_12_method_2_code 23 = .ok (.iload_n 2, 1) := by decide +kernel
theorem d2_24 : decode prog_12_method_2_code 24 = .ok (.baload, 1) := by decide +kernel
theorem d2_25 : decode prog_12_method_2_code 25 = .ok (.if_icmp .eq 12, 3) := by decide +kernel
theorem d2_28 : decode prog_12_method_2_code 28 = .ok (.aload_n 1, 1) := by decide +kernel
theorem d2_29 : decode prog_12_method_2_code 29 = .ok (.iload_n 2, 1) := by decide +kernel
theorem d2_30 : decode prog_12_method_2_code 30 = .ok (.iconst 1, 1) := by decide +kernel
theorem d2_31 : decode prog_12_method_2_code 31 = .ok (.isub, 1) := by decide +kernel
theorem d2_32 : decode prog_12_method_2_code 32 = .ok (.iaload, 1) := by decide +kernel
theorem d2_33 : decode prog_12_method_2_code 33 = .ok (.istore_n 2, 1) := by decide +kernel
theorem d2_34 : decode prog_12_method_2_code 34 = .ok (.goto (-19), 3) := by decide +kernel
theorem ef_rpm_3 (m : MethodId) (aa : Addr) : entryFrame m #[(.ref aa)] 4 = mkF m 0 #[.val (.ref aa), .unset, .unset, .unset] [] := by first | (simp [entryFrame, mkF, argsToLocals, Value.category]; done) | rfl
set_option maxRecDepth 65536 in
set_option maxHeartbeats 40000000 in
theorem rpm_3 (l : Launch) (Z : State) (a0 : Array Value) (hw : ∀ d ∈ tables_1, d.before a0 Z = true) (aa : Addr) (b0 : Int32) (b1 : Int32) (b2 : Int32) (h0 : Heap) (n0 : Nat) (Z0 : n0 ≤ h0.size) (A0 : own_Ar Z h0 aa .byte [(.int b0), (.int b1), (.int b2)]) :
    own_Met l Z (⟨"com/example/needlewise/needlewise/Kmp", "partialMatch", "([B)[I"⟩ : MethodName) prog_12_method_2_code 4 (some (.array .int)) ({ frames := 0, cells := 1, slots := 3, locals := 0 } : Room) #[(.ref aa)] h0 n0 (fun v' h' => ∃ b : Addr, v' = some (.ref b) ∧ Keep h0 h' [] ∧ h0.size ≤ b ∧ n0 ≤ b ∧ own_Ar Z h' b .int [(.int (own_b1 b0)), (.int (own_b2 b0 b1)), (.int (own_b3 b0 b1 b2))]) := by
  refine own_body (plainFor_of_name pn_2) (fun m => ef_rpm_3 m aa) Z0 ?_
  intro p e s m below meth c T0 cx X0
  have KK := Keep.refl h0 []
  show own_Go p e below _ (T0.setTop (mkF m 0 #[.val (.ref aa), .unset, .unset, .unset] []))
  refine o_aloadN cx X0 d2_0 rfl rfl ?_
  refine o_len cx X0 (z := (3 : Int32)) d2_1 A0 rfl ?_
  refine o_newP cx X0 d2_2 (o_w hw 10 rfl) (by decide) 3 3 rfl (Nat.le_refl _) (by decide) (by decide) (by decide) fun T257 h259 b256 gb262 ge263 X258 E260 A261 => ?_
  have ne_aa_b256 : aa ≠ b256 := by rw [gb262]; exact Nat.ne_of_lt A0.lt
  have sz_b256 : h0.size ≤ b256 := by rw [gb262]; exact KK.1
  have A0 := A0.ext E260
  have KK := KK.ext E260
  have A261 : own_Ar Z h259 b256 .int [(.int (0 : Int32)), (.int (0 : Int32)), (.int (0 : Int32))] := A261
  refine o_astoreN cx X258 (Ls' := #[.val (.ref aa), .val (.ref b256), .unset, .unset]) d2_4 rfl rfl ?_
  refine o_iconst cx X258 (z := (0 : Int32)) d2_5 rfl ?_
  refine o_istoreN cx X258 (Ls' := #[.val (.ref aa), .val (.ref b256), .val (.int (0 : Int32)), .unset]) d2_6 rfl ?_
  refine o_iconst cx X258 (z := (1 : Int32)) d2_7 rfl ?_
  refine o_istoreN cx X258 (Ls' := #[.val (.ref aa), .val (.ref b256), .val (.int (0 : Int32)), .val (.int (1 : Int32))]) d2_8 rfl ?_
  refine o_iloadN cx X258 d2_9 rfl ?_
  refine o_aloadN cx X258 d2_10 rfl rfl ?_
  refine o_len cx X258 (z := (3 : Int32)) d2_11 A0 rfl ?_
  refine o_icmpNo cx X258 d2_12 (by decide) ?_
  refine o_iloadN cx X258 d2_15 rfl ?_
  refine o_ifYes cx X258 37 d2_16 (by decide) (by decide) (by decide) ?_
  refine o_aloadN cx X258 d2_37 rfl rfl ?_
  refine o_iloadN cx X258 d2_38 rfl ?_
  refine o_ldB cx X258 (v := (.int b1)) d2_39 A0 1 (by decide) rfl rfl ?_
  refine o_aloadN cx X258 d2_40 rfl rfl ?_
  refine o_iloadN cx X258 d2_41 rfl ?_
  refine o_ldB cx X258 (v := (.int b0)) d2_42 A0 0 (by decide) rfl rfl ?_
  by_cases hc264 : b1 = b0
  · refine o_icmpNo cx X258 d2_43 (teq hc264).2 ?_
    obtain rfl : b0 = b1 := hc264.symm
    refine o_iinc cx X258 (z := (1 : Int32)) (Ls' := #[.val (.ref aa), .val (.ref b256), .val (.int (1 : Int32)), .val (.int (1 : Int32))]) d2_46 rfl rfl rfl ?_
    refine o_aloadN cx X258 d2_49 rfl rfl ?_
    refine o_iloadN cx X258 d2_50 rfl ?_
    refine o_iloadN cx X258 d2_51 rfl ?_
    refine o_stI cx X258 d2_52 A261 1 (by decide) rfl (Nat.le_of_ble_eq_true rfl) ge263 fun T265 h267 X266 W268 A261 => ?_
    have A0 := A0.other W268 ne_aa_b256
    have KK := KK.wr W268 (Or.inr sz_b256)
    have A261 : own_Ar Z h267 b256 .int [(.int (0 : Int32)), (.int (1 : Int32)), (.int (0 : Int32))] := A261
    refine o_iinc cx X266 (z := (2 : Int32)) (Ls' := #[.val (.ref aa), .val (.ref b256), .val (.int (1 : Int32)), .val (.int (2 : Int32))]) d2_53 rfl rfl rfl ?_
    refine o_goto cx X266 9 d2_56 (by decide) (by decide) ?_
    refine o_iloadN cx X266 d2_9 rfl ?_
    refine o_aloadN cx X266 d2_10 rfl rfl ?_
    refine o_len cx X266 (z := (3 : Int32)) d2_11 A0 rfl ?_
    refine o_icmpNo cx X266 d2_12 (by decide) ?_
    refine o_iloadN cx X266 d2_15 rfl ?_
    refine o_ifNo cx X266 d2_16 (by decide) ?_
    refine o_aloadN cx X266 d2_19 rfl rfl ?_
    refine o_iloadN cx X266 d2_20 rfl ?_
    refine o_ldB cx X266 (v := (.int b2)) d2_21 A0 2 (by decide) rfl rfl ?_
    refine o_aloadN cx X266 d2_22 rfl rfl ?_
    refine o_iloadN cx X266 d2_23 rfl ?_
    refine o_ldB cx X266 (v := (.int b0)) d2_24 A0 1 (by decide) rfl rfl ?_
    by_cases hc269 : b2 = b0
    · refine o_icmpYes cx X266 37 d2_25 (teq hc269).1 (by decide) (by decide) ?_
      obtain rfl : b0 = b2 := hc269.symm
      refine o_aloadN cx X266 d2_37 rfl rfl ?_
      refine o_iloadN cx X266 d2_38 rfl ?_
      refine o_ldB cx X266 (v := (.int b0)) d2_39 A0 2 (by decide) rfl rfl ?_
      refine o_aloadN cx X266 d2_40 rfl rfl ?_
      refine o_iloadN cx X266 d2_41 rfl ?_
      refine o_ldB cx X266 (v := (.int b0)) d2_42 A0 1 (by decide) rfl rfl ?_
      refine o_icmpNo cx X266 d2_43 (teq rfl).2 ?_
      refine o_iinc cx X266 (z := (2 : Int32)) (Ls' := #[.val (.ref aa), .val (.ref b256), .val (.int (2 : Int32)), .val (.int (2 : Int32))]) d2_46 rfl rfl rfl ?_
      refine o_aloadN cx X266 d2_49 rfl rfl ?_
      refine o_iloadN cx X266 d2_50 rfl ?_
      refine o_iloadN cx X266 d2_51 rfl ?_
      refine o_stI cx X266 d2_52 A261 2 (by decide) rfl (Nat.le_of_ble_eq_true rfl) ge263 fun T270 h272 X271 W273 A261 => ?_
      have A0 := A0.other W273 ne_aa_b256
      have KK := KK.wr W273 (Or.inr sz_b256)
      have A261 : own_Ar Z h272 b256 .int [(.int (0 : Int32)), (.int (1 : Int32)), (.int (2 : Int32))] := A261
      refine o_iinc cx X271 (z := (3 : Int32)) (Ls' := #[.val (.ref aa), .val (.ref b256), .val (.int (2 : Int32)), .val (.int (3 : Int32))]) d2_53 rfl rfl rfl ?_
      refine o_goto cx X271 9 d2_56 (by decide) (by decide) ?_
      refine o_iloadN cx X271 d2_9 rfl ?_
      refine o_aloadN cx X271 d2_10 rfl rfl ?_
      refine o_len cx X271 (z := (3 : Int32)) d2_11 A0 rfl ?_
      refine o_icmpYes cx X271 59 d2_12 (by decide) (by decide) (by decide) ?_
      refine o_aloadN cx X271 d2_59 rfl rfl ?_
      have et0 : own_b1 b0 = (0 : Int32) := by simp [own_b1, own_i]
      have et1 : own_b2 b0 b0 = (1 : Int32) := by simp [own_b2, own_i]
      have et2 : own_b3 b0 b0 b0 = (2 : Int32) := by simp [own_b3, own_i]
      exact o_retA cx X271 d2_60 rfl rfl rfl ⟨b256, rfl, KK, sz_b256, ge263, by rw [et0, et1, et2]; exact A261⟩ (by decide) (by decide)
    · refine o_icmpNo cx X266 d2_25 (feq hc269).1 ?_
      refine o_aloadN cx X266 d2_28 rfl rfl ?_
      refine o_iloadN cx X266 d2_29 rfl ?_
      refine o_iconst cx X266 (z := (1 : Int32)) d2_30 rfl ?_
      refine o_isub cx X266 (z := (0 : Int32)) d2_31 rfl ?_
      refine o_ldI cx X266 (v := (.int (0 : Int32))) d2_32 A261 0 (by decide) rfl rfl ?_
      refine o_istoreN cx X266 (Ls' := #[.val (.ref aa), .val (.ref b256), .val (.int (0 : Int32)), .val (.int (2 : Int32))]) d2_33 rfl ?_
      refine o_goto cx X266 15 d2_34 (by decide) (by decide) ?_
      refine o_iloadN cx X266 d2_15 rfl ?_
      refine o_ifYes cx X266 37 d2_16 (by decide) (by decide) (by decide) ?_
      refine o_aloadN cx X266 d2_37 rfl rfl ?_
      refine o_iloadN cx X266 d2_38 rfl ?_
      refine o_ldB cx X266 (v := (.int b2)) d2_39 A0 2 (by decide) rfl rfl ?_
      refine o_aloadN cx X266 d2_40 rfl rfl ?_
      refine o_iloadN cx X266 d2_41 rfl ?_
      refine o_ldB cx X266 (v := (.int b0)) d2_42 A0 0 (by decide) rfl rfl ?_
      refine o_icmpYes cx X266 49 d2_43 (feq hc269).2 (by decide) (by decide) ?_
      refine o_aloadN cx X266 d2_49 rfl rfl ?_
      refine o_iloadN cx X266 d2_50 rfl ?_
      refine o_iloadN cx X266 d2_51 rfl ?_
      refine o_stI cx X266 d2_52 A261 2 (by decide) rfl (Nat.le_of_ble_eq_true rfl) ge263 fun T274 h276 X275 W277 A261 => ?_
      have A0 := A0.other W277 ne_aa_b256
      have KK := KK.wr W277 (Or.inr sz_b256)
      have A261 : own_Ar Z h276 b256 .int [(.int (0 : Int32)), (.int (1 : Int32)), (.int (0 : Int32))] := A261
      refine o_iinc cx X275 (z := (3 : Int32)) (Ls' := #[.val (.ref aa), .val (.ref b256), .val (.int (0 : Int32)), .val (.int (3 : Int32))]) d2_53 rfl rfl rfl ?_
      refine o_goto cx X275 9 d2_56 (by decide) (by decide) ?_
      refine o_iloadN cx X275 d2_9 rfl ?_
      refine o_aloadN cx X275 d2_10 rfl rfl ?_
      refine o_len cx X275 (z := (3 : Int32)) d2_11 A0 rfl ?_
      refine o_icmpYes cx X275 59 d2_12 (by decide) (by decide) (by decide) ?_
      refine o_aloadN cx X275 d2_59 rfl rfl ?_
      have nn0 : ¬ b0 = b2 := fun q => hc269 (Eq.symm q)
      have et0 : own_b1 b0 = (0 : Int32) := by simp [own_b1, own_i, hc269, nn0]
      have et1 : own_b2 b0 b0 = (1 : Int32) := by simp [own_b2, own_i, hc269, nn0]
      have et2 : own_b3 b0 b0 b2 = (0 : Int32) := by simp [own_b3, own_i, hc269, nn0]
      exact o_retA cx X275 d2_60 rfl rfl rfl ⟨b256, rfl, KK, sz_b256, ge263, by rw [et0, et1, et2]; exact A261⟩ (by decide) (by decide)
  · refine o_icmpYes cx X258 49 d2_43 (feq hc264).2 (by decide) (by decide) ?_
    refine o_aloadN cx X258 d2_49 rfl rfl ?_
    refine o_iloadN cx X258 d2_50 rfl ?_
    refine o_iloadN cx X258 d2_51 rfl ?_
    refine o_stI cx X258 d2_52 A261 1 (by decide) rfl (Nat.le_of_ble_eq_true rfl) ge263 fun T278 h280 X279 W281 A261 => ?_
    have A0 := A0.other W281 ne_aa_b256
    have KK := KK.wr W281 (Or.inr sz_b256)
    have A261 : own_Ar Z h280 b256 .int [(.int (0 : Int32)), (.int (0 : Int32)), (.int (0 : Int32))] := A261
    refine o_iinc cx X279 (z := (2 : Int32)) (Ls' := #[.val (.ref aa), .val (.ref b256), .val (.int (0 : Int32)), .val (.int (2 : Int32))]) d2_53 rfl rfl rfl ?_
    refine o_goto cx X279 9 d2_56 (by decide) (by decide) ?_
    refine o_iloadN cx X279 d2_9 rfl ?_
    refine o_aloadN cx X279 d2_10 rfl rfl ?_
    refine o_len cx X279 (z := (3 : Int32)) d2_11 A0 rfl ?_
    refine o_icmpNo cx X279 d2_12 (by decide) ?_
    refine o_iloadN cx X279 d2_15 rfl ?_
    refine o_ifYes cx X279 37 d2_16 (by decide) (by decide) (by decide) ?_
    refine o_aloadN cx X279 d2_37 rfl rfl ?_
    refine o_iloadN cx X279 d2_38 rfl ?_
    refine o_ldB cx X279 (v := (.int b2)) d2_39 A0 2 (by decide) rfl rfl ?_
    refine o_aloadN cx X279 d2_40 rfl rfl ?_
    refine o_iloadN cx X279 d2_41 rfl ?_
    refine o_ldB cx X279 (v := (.int b0)) d2_42 A0 0 (by decide) rfl rfl ?_
    by_cases hc282 : b2 = b0
    · refine o_icmpNo cx X279 d2_43 (teq hc282).2 ?_
      obtain rfl : b0 = b2 := hc282.symm
      refine o_iinc cx X279 (z := (1 : Int32)) (Ls' := #[.val (.ref aa), .val (.ref b256), .val (.int (1 : Int32)), .val (.int (2 : Int32))]) d2_46 rfl rfl rfl ?_
      refine o_aloadN cx X279 d2_49 rfl rfl ?_
      refine o_iloadN cx X279 d2_50 rfl ?_
      refine o_iloadN cx X279 d2_51 rfl ?_
      refine o_stI cx X279 d2_52 A261 2 (by decide) rfl (Nat.le_of_ble_eq_true rfl) ge263 fun T283 h285 X284 W286 A261 => ?_
      have A0 := A0.other W286 ne_aa_b256
      have KK := KK.wr W286 (Or.inr sz_b256)
      have A261 : own_Ar Z h285 b256 .int [(.int (0 : Int32)), (.int (0 : Int32)), (.int (1 : Int32))] := A261
      refine o_iinc cx X284 (z := (3 : Int32)) (Ls' := #[.val (.ref aa), .val (.ref b256), .val (.int (1 : Int32)), .val (.int (3 : Int32))]) d2_53 rfl rfl rfl ?_
      refine o_goto cx X284 9 d2_56 (by decide) (by decide) ?_
      refine o_iloadN cx X284 d2_9 rfl ?_
      refine o_aloadN cx X284 d2_10 rfl rfl ?_
      refine o_len cx X284 (z := (3 : Int32)) d2_11 A0 rfl ?_
      refine o_icmpYes cx X284 59 d2_12 (by decide) (by decide) (by decide) ?_
      refine o_aloadN cx X284 d2_59 rfl rfl ?_
      have nn0 : ¬ b0 = b1 := fun q => hc264 (Eq.symm q)
      have et0 : own_b1 b0 = (0 : Int32) := by simp [own_b1, own_i, hc264, nn0]
      have et1 : own_b2 b0 b1 = (0 : Int32) := by simp [own_b2, own_i, hc264, nn0]
      have et2 : own_b3 b0 b1 b0 = (1 : Int32) := by simp [own_b3, own_i, hc264, nn0]
      exact o_retA cx X284 d2_60 rfl rfl rfl ⟨b256, rfl, KK, sz_b256, ge263, by rw [et0, et1, et2]; exact A261⟩ (by decide) (by decide)
    · refine o_icmpYes cx X279 49 d2_43 (feq hc282).2 (by decide) (by decide) ?_
      refine o_aloadN cx X279 d2_49 rfl rfl ?_
      refine o_iloadN cx X279 d2_50 rfl ?_
      refine o_iloadN cx X279 d2_51 rfl ?_
      refine o_stI cx X279 d2_52 A261 2 (by decide) rfl (Nat.le_of_ble_eq_true rfl) ge263 fun T287 h289 X288 W290 A261 => ?_
      have A0 := A0.other W290 ne_aa_b256
      have KK := KK.wr W290 (Or.inr sz_b256)
      have A261 : own_Ar Z h289 b256 .int [(.int (0 : Int32)), (.int (0 : Int32)), (.int (0 : Int32))] := A261
      refine o_iinc cx X288 (z := (3 : Int32)) (Ls' := #[.val (.ref aa), .val (.ref b256), .val (.int (0 : Int32)), .val (.int (3 : Int32))]) d2_53 rfl rfl rfl ?_
      refine o_goto cx X288 9 d2_56 (by decide) (by decide) ?_
      refine o_iloadN cx X288 d2_9 rfl ?_
      refine o_aloadN cx X288 d2_10 rfl rfl ?_
      refine o_len cx X288 (z := (3 : Int32)) d2_11 A0 rfl ?_
      refine o_icmpYes cx X288 59 d2_12 (by decide) (by decide) (by decide) ?_
      refine o_aloadN cx X288 d2_59 rfl rfl ?_
      have nn0 : ¬ b0 = b1 := fun q => hc264 (Eq.symm q)
      have nn1 : ¬ b0 = b2 := fun q => hc282 (Eq.symm q)
      have et0 : own_b1 b0 = (0 : Int32) := by simp [own_b1, own_i, hc264, nn0, hc282, nn1]
      have et1 : own_b2 b0 b1 = (0 : Int32) := by simp [own_b2, own_i, hc264, nn0, hc282, nn1]
      have et2 : own_b3 b0 b1 b2 = (0 : Int32) := by simp [own_b3, own_i, hc264, nn0, hc282, nn1]
      exact o_retA cx X288 d2_60 rfl rfl rfl ⟨b256, rfl, KK, sz_b256, ge263, by rw [et0, et1, et2]; exact A261⟩ (by decide) (by decide)
theorem ef_rpm_4 (m : MethodId) (aa : Addr) : entryFrame m #[(.ref aa)] 4 = mkF m 0 #[.val (.ref aa), .unset, .unset, .unset] [] := by first | (simp [entryFrame, mkF, argsToLocals, Value.category]; done) | rfl
set_option maxRecDepth 65536 in
set_option maxHeartbeats 40000000 in
theorem rpm_4 (l : Launch) (Z : State) (a0 : Array Value) (hw : ∀ d ∈ tables_1, d.before a0 Z = true) (aa : Addr) (b0 : Int32) (b1 : Int32) (b2 : Int32) (b3 : Int32) (h0 : Heap) (n0 : Nat) (Z0 : n0 ≤ h0.size) (A0 : own_Ar Z h0 aa .byte [(.int b0), (.int b1), (.int b2), (.int b3)]) :
    own_Met l Z (⟨"com/example/needlewise/needlewise/Kmp", "partialMatch", "([B)[I"⟩ : MethodName) prog_12_method_2_code 4 (some (.array .int)) ({ frames := 0, cells := 1, slots := 4, locals := 0 } : Room) #[(.ref aa)] h0 n0 (fun v' h' => ∃ b : Addr, v' = some (.ref b) ∧ Keep h0 h' [] ∧ h0.size ≤ b ∧ n0 ≤ b ∧ own_Ar Z h' b .int [(.int (own_b1 b0)), (.int (own_b2 b0 b1)), (.int (own_b3 b0 b1 b2)), (.int (own_b4 b0 b1 b2 b3))]) := by
  refine own_body (plainFor_of_name pn_2) (fun m => ef_rpm_4 m aa) Z0 ?_
  intro p e s m below meth c T0 cx X0
  have KK := Keep.refl h0 []
  show own_Go p e below _ (T0.setTop (mkF m 0 #[.val (.ref aa), .unset, .unset, .unset] []))
  refine o_aloadN cx X0 d2_0 rfl rfl ?_
  refine o_len cx X0 (z := (4 : Int32)) d2_1 A0 rfl ?_
  refine o_newP cx X0 d2_2 (o_w hw 10 rfl) (by decide) 4 4 rfl (Nat.le_refl _) (by decide) (by decide) (by decide) fun T292 h294 b291 gb297 ge298 X293 E295 A296 => ?_
  have ne_aa_b291 : aa ≠ b291 := by rw [gb297]; exact Nat.ne_of_lt A0.lt
  have sz_b291 : h0.size ≤ b291 := by rw [gb297]; exact KK.1
  have A0 := A0.ext E295
  have KK := KK.ext E295
  have A296 : own_Ar Z h294 b291 .int [(.int (0 : Int32)), (.int (0 : Int32)), (.int (0 : Int32)), (.int (0 : Int32))] := A296
  refine o_astoreN cx X293 (Ls' := #[.val (.ref aa), .val (.ref b291), .unset, .unset]) d2_4 rfl rfl ?_
  refine o_iconst cx X293 (z := (0 : Int32)) d2_5 rfl ?_
  refine o_istoreN cx X293 (Ls' := #[.val (.ref aa), .val (.ref b291), .val (.int (0 : Int32)), .unset]) d2_6 rfl ?_
  refine o_iconst cx X293 (z := (1 : Int32)) d2_7 rfl ?_
  refine o_istoreN cx X293 (Ls' := #[.val (.ref aa), .val (.ref b291), .val (.int (0 : Int32)), .val (.int (1 : Int32))]) d2_8 rfl ?_
  refine o_iloadN cx X293 d2_9 rfl ?_
  refine o_aloadN cx X293 d2_10 rfl rfl ?_
  refine o_len cx X293 (z := (4 : Int32)) d2_11 A0 rfl ?_
  refine o_icmpNo cx X293 d2_12 (by decide) ?_
  refine o_iloadN cx X293 d2_15 rfl ?_
  refine o_ifYes cx X293 37 d2_16 (by decide) (by decide) (by decide) ?_
  refine o_aloadN cx X293 d2_37 rfl rfl ?_
  refine o_iloadN cx X293 d2_38 rfl ?_
  refine o_ldB cx X293 (v := (.int b1)) d2_39 A0 1 (by decide) rfl rfl ?_
  refine o_aloadN cx X293 d2_40 rfl rfl ?_
  refine o_iloadN cx X293 d2_41 rfl ?_
  refine o_ldB cx X293 (v := (.int b0)) d2_42 A0 0 (by decide) rfl rfl ?_
  by_cases hc299 : b1 = b0
  · refine o_icmpNo cx X293 d2_43 (teq hc299).2 ?_
    obtain rfl : b0 = b1 := hc299.symm
    refine o_iinc cx X293 (z := (1 : Int32)) (Ls' := #[.val (.ref aa), .val (.ref b291), .val (.int (1 : Int32)), .val (.int (1 : Int32))]) d2_46 rfl rfl rfl ?_
    refine o_aloadN cx X293 d2_49 rfl rfl ?_
    refine o_iloadN cx X293 d2_50 rfl ?_
    refine o_iloadN cx X293 d2_51 rfl ?_
    refine o_stI cx X293 d2_52 A296 1 (by decide) rfl (Nat.le_of_ble_eq_true rfl) ge298 fun T300 h302 X301 W303 A296 => ?_
    have A0 := A0.other W303 ne_aa_b291
    have KK := KK.wr W303 (Or.inr sz_b291)
    have A296 : own_Ar Z h302 b291 .int [(.int (0 : Int32)), (.int (1 : Int32)), (.int (0 : Int32)), (.int (0 : Int32))] := A296
    refine o_iinc cx X301 (z := (2 : Int32)) (Ls' := #[.val (.ref aa), .val (.ref b291), .val (.int (1 : Int32)), .val (.int (2 : Int32))]) d2_53 rfl rfl rfl ?_
    refine o_goto cx X301 9 d2_56 (by decide) (by decide) ?_
    refine o_iloadN cx X301 d2_9 rfl ?_
    refine o_aloadN cx X301 d2_10 rfl rfl ?_
    refine o_len cx X301 (z := (4 : Int32)) d2_11 A0 rfl ?_
    refine o_icmpNo cx X301 d2_12 (by decide) ?_
    refine o_iloadN cx X301 d2_15 rfl ?_
    refine o_ifNo cx X301 d2_16 (by decide) ?_
    refine o_aloadN cx X301 d2_19 rfl rfl ?_
    refine o_iloadN cx X301 d2_20 rfl ?_
    refine o_ldB cx X301 (v := (.int b2)) d2_21 A0 2 (by decide) rfl rfl ?_
    refine o_aloadN cx X301 d2_22 rfl rfl ?_
    refine o_iloadN cx X301 d2_23 rfl ?_
    refine o_ldB cx X301 (v := (.int b0)) d2_24 A0 1 (by decide) rfl rfl ?_
    by_cases hc304 : b2 = b0
    · refine o_icmpYes cx X301 37 d2_25 (teq hc304).1 (by decide) (by decide) ?_
      obtain rfl : b0 = b2 := hc304.symm
      refine o_aloadN cx X301 d2_37 rfl rfl ?_
      refine o_iloadN cx X301 d2_38 rfl ?_
      refine o_ldB cx X301 (v := (.int b0)) d2_39 A0 2 (by decide) rfl rfl ?_
      refine o_aloadN cx X301 d2_40 rfl rfl ?_
      refine o_iloadN cx X301 d2_41 rfl ?_
      refine o_ldB cx X301 (v := (.int b0)) d2_42 A0 1 (by decide) rfl rfl ?_
      refine o_icmpNo cx X301 d2_43 (teq rfl).2 ?_
      refine o_iinc cx X301 (z := (2 : Int32)) (Ls' := #[.val (.ref aa), .val (.ref b291), .val (.int (2 : Int32)), .val (.int (2 : Int32))]) d2_46 rfl rfl rfl ?_
      refine o_aloadN cx X301 d2_49 rfl rfl ?_
      refine o_iloadN cx X301 d2_50 rfl ?_
      refine o_iloadN cx X301 d2_51 rfl ?_
      refine o_stI cx X301 d2_52 A296 2 (by decide) rfl (Nat.le_of_ble_eq_true rfl) ge298 fun T305 h307 X306 W308 A296 => ?_
      have A0 := A0.other W308 ne_aa_b291
      have KK := KK.wr W308 (Or.inr sz_b291)
      have A296 : own_Ar Z h307 b291 .int [(.int (0 : Int32)), (.int (1 : Int32)), (.int (2 : Int32)), (.int (0 : Int32))] := A296
      refine o_iinc cx X306 (z := (3 : Int32)) (Ls' := #[.val (.ref aa), .val (.ref b291), .val (.int (2 : Int32)), .val (.int (3 : Int32))]) d2_53 rfl rfl rfl ?_
      refine o_goto cx X306 9 d2_56 (by decide) (by decide) ?_
      refine o_iloadN cx X306 d2_9 rfl ?_
      refine o_aloadN cx X306 d2_10 rfl rfl ?_
      refine o_len cx X306 (z := (4 : Int32)) d2_11 A0 rfl ?_
      refine o_icmpNo cx X306 d2_12 (by decide) ?_
      refine o_iloadN cx X306 d2_15 rfl ?_
      refine o_ifNo cx X306 d2_16 (by decide) ?_
      refine o_aloadN cx X306 d2_19 rfl rfl ?_
      refine o_iloadN cx X306 d2_20 rfl ?_
      refine o_ldB cx X306 (v := (.int b3)) d2_21 A0 3 (by decide) rfl rfl ?_
      refine o_aloadN cx X306 d2_22 rfl rfl ?_
      refine o_iloadN cx X306 d2_23 rfl ?_
      refine o_ldB cx X306 (v := (.int b0)) d2_24 A0 2 (by decide) rfl rfl ?_
      by_cases hc309 : b3 = b0
      · refine o_icmpYes cx X306 37 d2_25 (teq hc309).1 (by decide) (by decide) ?_
        obtain rfl : b0 = b3 := hc309.symm
        refine o_aloadN cx X306 d2_37 rfl rfl ?_
        refine o_iloadN cx X306 d2_38 rfl ?_
        refine o_ldB cx X306 (v := (.int b0)) d2_39 A0 3 (by decide) rfl rfl ?_
        refine o_aloadN cx X306 d2_40 rfl rfl ?_
        refine o_iloadN cx X306 d2_41 rfl ?_
        refine o_ldB cx X306 (v := (.int b0)) d2_42 A0 2 (by decide) rfl rfl ?_
        refine o_icmpNo cx X306 d2_43 (teq rfl).2 ?_
        refine o_iinc cx X306 (z := (3 : Int32)) (Ls' := #[.val (.ref aa), .val (.ref b291), .val (.int (3 : Int32)), .val (.int (3 : Int32))]) d2_46 rfl rfl rfl ?_
        refine o_aloadN cx X306 d2_49 rfl rfl ?_
        refine o_iloadN cx X306 d2_50 rfl ?_
        refine o_iloadN cx X306 d2_51 rfl ?_
        refine o_stI cx X306 d2_52 A296 3 (by decide) rfl (Nat.le_of_ble_eq_true rfl) ge298 fun T310 h312 X311 W313 A296 => ?_
        have A0 := A0.other W313 ne_aa_b291
        have KK := KK.wr W313 (Or.inr sz_b291)
        have A296 : own_Ar Z h312 b291 .int [(.int (0 : Int32)), (.int (1 : Int32)), (.int (2 : Int32)), (.int (3 : Int32))] := A296
        refine o_iinc cx X311 (z := (4 : Int32)) (Ls' := #[.val (.ref aa), .val (.ref b291), .val (.int (3 : Int32)), .val (.int (4 : Int32))]) d2_53 rfl rfl rfl ?_
        refine o_goto cx X311 9 d2_56 (by decide) (by decide) ?_
        refine o_iloadN cx X311 d2_9 rfl ?_
        refine o_aloadN cx X311 d2_10 rfl rfl ?_
        refine o_len cx X311 (z := (4 : Int32)) d2_11 A0 rfl ?_
        refine o_icmpYes cx X311 59 d2_12 (by decide) (by decide) (by decide) ?_
        refine o_aloadN cx X311 d2_59 rfl rfl ?_
        have et0 : own_b1 b0 = (0 : Int32) := by simp [own_b1, own_i]
        have et1 : own_b2 b0 b0 = (1 : Int32) := by simp [own_b2, own_i]
        have et2 : own_b3 b0 b0 b0 = (2 : Int32) := by simp [own_b3, own_i]
        have et3 : own_b4 b0 b0 b0 b0 = (3 : Int32) := by simp [own_b4, own_i]
        exact o_retA cx X311 d2_60 rfl rfl rfl ⟨b291, rfl, KK, sz_b291, ge298, by rw [et0, et1, et2, et3]; exact A296⟩ (by decide) (by decide)
      · refine o_icmpNo cx X306 d2_25 (feq hc309).1 ?_
        refine o_aloadN cx X306 d2_28 rfl rfl ?_
        refine o_iloadN cx X306 d2_29 rfl ?_
        refine o_iconst cx X306 (z := (1 : Int32)) d2_30 rfl ?_
        refine o_isub cx X306 (z := (1 : Int32)) d2_31 rfl ?_
        refine o_ldI cx X306 (v := (.int (1 : Int32))) d2_32 A296 1 (by decide) rfl rfl ?_
        refine o_istoreN cx X306 (Ls' := #[.val (.ref aa), .val (.ref b291), .val (.int (1 : Int32)), .val (.int (3 : Int32))]) d2_33 rfl ?_
        refine o_goto cx X306 15 d2_34 (by decide) (by decide) ?_
        refine o_iloadN cx X306 d2_15 rfl ?_
        refine o_ifNo cx X306 d2_16 (by decide) ?_
        refine o_aloadN cx X306 d2_19 rfl rfl ?_
        refine o_iloadN cx X306 d2_20 rfl ?_
        refine o_ldB cx X306 (v := (.int b3)) d2_21 A0 3 (by decide) rfl rfl ?_
        refine o_aloadN cx X306 d2_22 rfl rfl ?_
        refine o_iloadN cx X306 d2_23 rfl ?_
        refine o_ldB cx X306 (v := (.int b0)) d2_24 A0 1 (by decide) rfl rfl ?_
        refine o_icmpNo cx X306 d2_25 (feq hc309).1 ?_
        refine o_aloadN cx X306 d2_28 rfl rfl ?_
        refine o_iloadN cx X306 d2_29 rfl ?_
        refine o_iconst cx X306 (z := (1 : Int32)) d2_30 rfl ?_
        refine o_isub cx X306 (z := (0 : Int32)) d2_31 rfl ?_
        refine o_ldI cx X306 (v := (.int (0 : Int32))) d2_32 A296 0 (by decide) rfl rfl ?_
        refine o_istoreN cx X306 (Ls' := #[.val (.ref aa), .val (.ref b291), .val (.int (0 : Int32)), .val (.int (3 : Int32))]) d2_33 rfl ?_
        refine o_goto cx X306 15 d2_34 (by decide) (by decide) ?_
        refine o_iloadN cx X306 d2_15 rfl ?_
        refine o_ifYes cx X306 37 d2_16 (by decide) (by decide) (by decide) ?_
        refine o_aloadN cx X306 d2_37 rfl rfl ?_
        refine o_iloadN cx X306 d2_38 rfl ?_
        refine o_ldB cx X306 (v := (.int b3)) d2_39 A0 3 (by decide) rfl rfl ?_
        refine o_aloadN cx X306 d2_40 rfl rfl ?_
        refine o_iloadN cx X306 d2_41 rfl ?_
        refine o_ldB cx X306 (v := (.int b0)) d2_42 A0 0 (by decide) rfl rfl ?_
        refine o_icmpYes cx X306 49 d2_43 (feq hc309).2 (by decide) (by decide) ?_
        refine o_aloadN cx X306 d2_49 rfl rfl ?_
        refine o_iloadN cx X306 d2_50 rfl ?_
        refine o_iloadN cx X306 d2_51 rfl ?_
        refine o_stI cx X306 d2_52 A296 3 (by decide) rfl (Nat.le_of_ble_eq_true rfl) ge298 fun T314 h316 X315 W317 A296 => ?_
        have A0 := A0.other W317 ne_aa_b291
        have KK := KK.wr W317 (Or.inr sz_b291)
        have A296 : own_Ar Z h316 b291 .int [(.int (0 : Int32)), (.int (1 : Int32)), (.int (2 : Int32)), (.int (0 : Int32))] := A296
        refine o_iinc cx X315 (z := (4 : Int32)) (Ls' := #[.val (.ref aa), .val (.ref b291), .val (.int (0 : Int32)), .val (.int (4 : Int32))]) d2_53 rfl rfl rfl ?_
        refine o_goto cx X315 9 d2_56 (by decide) (by decide) ?_
        refine o_iloadN cx X315 d2_9 rfl ?_
        refine o_aloadN cx X315 d2_10 rfl rfl ?_
        refine o_len cx X315 (z := (4 : Int32)) d2_11 A0 rfl ?_
        refine o_icmpYes cx X315 59 d2_12 (by decide) (by decide) (by decide) ?_
        refine o_aloadN cx X315 d2_59 rfl rfl ?_
        have nn0 : ¬ b0 = b3 := fun q => hc309 (Eq.symm q)
        have et0 : own_b1 b0 = (0 : Int32) := by simp [own_b1, own_i, hc309, nn0]
        have et1 : own_b2 b0 b0 = (1 : Int32) := by simp [own_b2, own_i, hc309, nn0]
        have et2 : own_b3 b0 b0 b0 = (2 : Int32) := by simp [own_b3, own_i, hc309, nn0]
        have et3 : own_b4 b0 b0 b0 b3 = (0 : Int32) := by simp [own_b4, own_i, hc309, nn0]
        exact o_retA cx X315 d2_60 rfl rfl rfl ⟨b291, rfl, KK, sz_b291, ge298, by rw [et0, et1, et2, et3]; exact A296⟩ (by decide) (by decide)
    · refine o_icmpNo cx X301 d2_25 (feq hc304).1 ?_
      refine o_aloadN cx X301 d2_28 rfl rfl ?_
      refine o_iloadN cx X301 d2_29 rfl ?_
      refine o_iconst cx X301 (z := (1 : Int32)) d2_30 rfl ?_
      refine o_isub cx X301 (z := (0 : Int32)) d2_31 rfl ?_
      refine o_ldI cx X301 (v := (.int (0 : Int32))) d2_32 A296 0 (by decide) rfl rfl ?_
      refine o_istoreN cx X301 (Ls' := #[.val (.ref aa), .val (.ref b291), .val (.int (0 : Int32)), .val (.int (2 : Int32))]) d2_33 rfl ?_
      refine o_goto cx X301 15 d2_34 (by decide) (by decide) ?_
      refine o_iloadN cx X301 d2_15 rfl ?_
      refine o_ifYes cx X301 37 d2_16 (by decide) (by decide) (by decide) ?_
      refine o_aloadN cx X301 d2_37 rfl rfl ?_
      refine o_iloadN cx X301 d2_38 rfl ?_
      refine o_ldB cx X301 (v := (.int b2)) d2_39 A0 2 (by decide) rfl rfl ?_
      refine o_aloadN cx X301 d2_40 rfl rfl ?_
      refine o_iloadN cx X301 d2_41 rfl ?_
      refine o_ldB cx X301 (v := (.int b0)) d2_42 A0 0 (by decide) rfl rfl ?_
      refine o_icmpYes cx X301 49 d2_43 (feq hc304).2 (by decide) (by decide) ?_
      refine o_aloadN cx X301 d2_49 rfl rfl ?_
      refine o_iloadN cx X301 d2_50 rfl ?_
      refine o_iloadN cx X301 d2_51 rfl ?_
      refine o_stI cx X301 d2_52 A296 2 (by decide) rfl (Nat.le_of_ble_eq_true rfl) ge298 fun T318 h320 X319 W321 A296 => ?_
      have A0 := A0.other W321 ne_aa_b291
      have KK := KK.wr W321 (Or.inr sz_b291)
      have A296 : own_Ar Z h320 b291 .int [(.int (0 : Int32)), (.int (1 : Int32)), (.int (0 : Int32)), (.int (0 : Int32))] := A296
      refine o_iinc cx X319 (z := (3 : Int32)) (Ls' := #[.val (.ref aa), .val (.ref b291), .val (.int (0 : Int32)), .val (.int (3 : Int32))]) d2_53 rfl rfl rfl ?_
      refine o_goto cx X319 9 d2_56 (by decide) (by decide) ?_
      refine o_iloadN cx X319 d2_9 rfl ?_
      refine o_aloadN cx X319 d2_10 rfl rfl ?_
      refine o_len cx X319 (z := (4 : Int32)) d2_11 A0 rfl ?_
      refine o_icmpNo cx X319 d2_12 (by decide) ?_
      refine o_iloadN cx X319 d2_15 rfl ?_
      refine o_ifYes cx X319 37 d2_16 (by decide) (by decide) (by decide) ?_
      refine o_aloadN cx X319 d2_37 rfl rfl ?_
      refine o_iloadN cx X319 d2_38 rfl ?_
      refine o_ldB cx X319 (v := (.int b3)) d2_39 A0 3 (by decide) rfl rfl ?_
      refine o_aloadN cx X319 d2_40 rfl rfl ?_
      refine o_iloadN cx X319 d2_41 rfl ?_
      refine o_ldB cx X319 (v := (.int b0)) d2_42 A0 0 (by decide) rfl rfl ?_
      by_cases hc322 : b3 = b0
      · refine o_icmpNo cx X319 d2_43 (teq hc322).2 ?_
        obtain rfl : b0 = b3 := hc322.symm
        refine o_iinc cx X319 (z := (1 : Int32)) (Ls' := #[.val (.ref aa), .val (.ref b291), .val (.int (1 : Int32)), .val (.int (3 : Int32))]) d2_46 rfl rfl rfl ?_
        refine o_aloadN cx X319 d2_49 rfl rfl ?_
        refine o_iloadN cx X319 d2_50 rfl ?_
        refine o_iloadN cx X319 d2_51 rfl ?_
        refine o_stI cx X319 d2_52 A296 3 (by decide) rfl (Nat.le_of_ble_eq_true rfl) ge298 fun T323 h325 X324 W326 A296 => ?_
        have A0 := A0.other W326 ne_aa_b291
        have KK := KK.wr W326 (Or.inr sz_b291)
        have A296 : own_Ar Z h325 b291 .int [(.int (0 : Int32)), (.int (1 : Int32)), (.int (0 : Int32)), (.int (1 : Int32))] := A296
        refine o_iinc cx X324 (z := (4 : Int32)) (Ls' := #[.val (.ref aa), .val (.ref b291), .val (.int (1 : Int32)), .val (.int (4 : Int32))]) d2_53 rfl rfl rfl ?_
        refine o_goto cx X324 9 d2_56 (by decide) (by decide) ?_
        refine o_iloadN cx X324 d2_9 rfl ?_
        refine o_aloadN cx X324 d2_10 rfl rfl ?_
        refine o_len cx X324 (z := (4 : Int32)) d2_11 A0 rfl ?_
        refine o_icmpYes cx X324 59 d2_12 (by decide) (by decide) (by decide) ?_
        refine o_aloadN cx X324 d2_59 rfl rfl ?_
        have nn0 : ¬ b0 = b2 := fun q => hc304 (Eq.symm q)
        have et0 : own_b1 b0 = (0 : Int32) := by simp [own_b1, own_i, hc304, nn0]
        have et1 : own_b2 b0 b0 = (1 : Int32) := by simp [own_b2, own_i, hc304, nn0]
        have et2 : own_b3 b0 b0 b2 = (0 : Int32) := by simp [own_b3, own_i, hc304, nn0]
        have et3 : own_b4 b0 b0 b2 b0 = (1 : Int32) := by simp [own_b4, own_i, hc304, nn0]
        exact o_retA cx X324 d2_60 rfl rfl rfl ⟨b291, rfl, KK, sz_b291, ge298, by rw [et0, et1, et2, et3]; exact A296⟩ (by decide) (by decide)
      · refine o_icmpYes cx X319 49 d2_43 (feq hc322).2 (by decide) (by decide) ?_
        refine o_aloadN cx X319 d2_49 rfl rfl ?_
        refine o_iloadN cx X319 d2_50 rfl ?_
        refine o_iloadN cx X319 d2_51 rfl ?_
        refine o_stI cx X319 d2_52 A296 3 (by decide) rfl (Nat.le_of_ble_eq_true rfl) ge298 fun T327 h329 X328 W330 A296 => ?_
        have A0 := A0.other W330 ne_aa_b291
        have KK := KK.wr W330 (Or.inr sz_b291)
        have A296 : own_Ar Z h329 b291 .int [(.int (0 : Int32)), (.int (1 : Int32)), (.int (0 : Int32)), (.int (0 : Int32))] := A296
        refine o_iinc cx X328 (z := (4 : Int32)) (Ls' := #[.val (.ref aa), .val (.ref b291), .val (.int (0 : Int32)), .val (.int (4 : Int32))]) d2_53 rfl rfl rfl ?_
        refine o_goto cx X328 9 d2_56 (by decide) (by decide) ?_
        refine o_iloadN cx X328 d2_9 rfl ?_
        refine o_aloadN cx X328 d2_10 rfl rfl ?_
        refine o_len cx X328 (z := (4 : Int32)) d2_11 A0 rfl ?_
        refine o_icmpYes cx X328 59 d2_12 (by decide) (by decide) (by decide) ?_
        refine o_aloadN cx X328 d2_59 rfl rfl ?_
        have nn0 : ¬ b0 = b2 := fun q => hc304 (Eq.symm q)
        have nn1 : ¬ b0 = b3 := fun q => hc322 (Eq.symm q)
        have et0 : own_b1 b0 = (0 : Int32) := by simp [own_b1, own_i, hc304, nn0, hc322, nn1]
        have et1 : own_b2 b0 b0 = (1 : Int32) := by simp [own_b2, own_i, hc304, nn0, hc322, nn1]
        have et2 : own_b3 b0 b0 b2 = (0 : Int32) := by simp [own_b3, own_i, hc304, nn0, hc322, nn1]
        have et3 : own_b4 b0 b0 b2 b3 = (0 : Int32) := by simp [own_b4, own_i, hc304, nn0, hc322, nn1]
        exact o_retA cx X328 d2_60 rfl rfl rfl ⟨b291, rfl, KK, sz_b291, ge298, by rw [et0, et1, et2, et3]; exact A296⟩ (by decide) (by decide)
  · refine o_icmpYes cx X293 49 d2_43 (feq hc299).2 (by decide) (by decide) ?_
    refine o_aloadN cx X293 d2_49 rfl rfl ?_
    refine o_iloadN cx X293 d2_50 rfl ?_
    refine o_iloadN cx X293 d2_51 rfl ?_
    refine o_stI cx X293 d2_52 A296 1 (by decide) rfl (Nat.le_of_ble_eq_true rfl) ge298 fun T331 h333 X332 W334 A296 => ?_
    have A0 := A0.other W334 ne_aa_b291
    have KK := KK.wr W334 (Or.inr sz_b291)
    have A296 : own_Ar Z h333 b291 .int [(.int (0 : Int32)), (.int (0 : Int32)), (.int (0 : Int32)), (.int (0 : Int32))] := A296
    refine o_iinc cx X332 (z := (2 : Int32)) (Ls' := #[.val (.ref aa), .val (.ref b291), .val (.int (0 : Int32)), .val (.int (2 : Int32))]) d2_53 rfl rfl rfl ?_
    refine o_goto cx X332 9 d2_56 (by decide) (by decide) ?_
    refine o_iloadN cx X332 d2_9 rfl ?_
    refine o_aloadN cx X332 d2_10 rfl rfl ?_
    refine o_len cx X332 (z := (4 : Int32)) d2_11 A0 rfl ?_
    refine o_icmpNo cx X332 d2_12 (by decide) ?_
    refine o_iloadN cx X332 d2_15 rfl ?_
    refine o_ifYes cx X332 37 d2_16 (by decide) (by decide) (by decide) ?_
    refine o_aloadN cx X332 d2_37 rfl rfl ?_
    refine o_iloadN cx X332 d2_38 rfl ?_
    refine o_ldB cx X332 (v := (.int b2)) d2_39 A0 2 (by decide) rfl rfl ?_
    refine o_aloadN cx X332 d2_40 rfl rfl ?_
    refine o_iloadN cx X332 d2_41 rfl ?_
    refine o_ldB cx X332 (v := (.int b0)) d2_42 A0 0 (by decide) rfl rfl ?_
    by_cases hc335 : b2 = b0
    · refine o_icmpNo cx X332 d2_43 (teq hc335).2 ?_
      obtain rfl : b0 = b2 := hc335.symm
      refine o_iinc cx X332 (z := (1 : Int32)) (Ls' := #[.val (.ref aa), .val (.ref b291), .val (.int (1 : Int32)), .val (.int (2 : Int32))]) d2_46 rfl rfl rfl ?_
      refine o_aloadN cx X332 d2_49 rfl rfl ?_
      refine o_iloadN cx X332 d2_50 rfl ?_
      refine o_iloadN cx X332 d2_51 rfl ?_
      refine o_stI cx X332 d2_52 A296 2 (by decide) rfl (Nat.le_of_ble_eq_true rfl) ge298 fun T336 h338 X337 W339 A296 => ?_
      have A0 := A0.other W339 ne_aa_b291
      have KK := KK.wr W339 (Or.inr sz_b291)
      have A296 : own_Ar Z h338 b291 .int [(.int (0 : Int32)), (.int (0 : Int32)), (.int (1 : Int32)), (.int (0 : Int32))] := A296
      refine o_iinc cx X337 (z := (3 : Int32)) (Ls' := #[.val (.ref aa), .val (.ref b291), .val (.int (1 : Int32)), .val (.int (3 : Int32))]) d2_53 rfl rfl rfl ?_
      refine o_goto cx X337 9 d2_56 (by decide) (by decide) ?_
      refine o_iloadN cx X337 d2_9 rfl ?_
      refine o_aloadN cx X337 d2_10 rfl rfl ?_
      refine o_len cx X337 (z := (4 : Int32)) d2_11 A0 rfl ?_
      refine o_icmpNo cx X337 d2_12 (by decide) ?_
      refine o_iloadN cx X337 d2_15 rfl ?_
      refine o_ifNo cx X337 d2_16 (by decide) ?_
      refine o_aloadN cx X337 d2_19 rfl rfl ?_
      refine o_iloadN cx X337 d2_20 rfl ?_
      refine o_ldB cx X337 (v := (.int b3)) d2_21 A0 3 (by decide) rfl rfl ?_
      refine o_aloadN cx X337 d2_22 rfl rfl ?_
      refine o_iloadN cx X337 d2_23 rfl ?_
      refine o_ldB cx X337 (v := (.int b1)) d2_24 A0 1 (by decide) rfl rfl ?_
      by_cases hc340 : b3 = b1
      · refine o_icmpYes cx X337 37 d2_25 (teq hc340).1 (by decide) (by decide) ?_
        obtain rfl : b1 = b3 := hc340.symm
        refine o_aloadN cx X337 d2_37 rfl rfl ?_
        refine o_iloadN cx X337 d2_38 rfl ?_
        refine o_ldB cx X337 (v := (.int b1)) d2_39 A0 3 (by decide) rfl rfl ?_
        refine o_aloadN cx X337 d2_40 rfl rfl ?_
        refine o_iloadN cx X337 d2_41 rfl ?_
        refine o_ldB cx X337 (v := (.int b1)) d2_42 A0 1 (by decide) rfl rfl ?_
        refine o_icmpNo cx X337 d2_43 (teq rfl).2 ?_
        refine o_iinc cx X337 (z := (2 : Int32)) (Ls' := #[.val (.ref aa), .val (.ref b291), .val (.int (2 : Int32)), .val (.int (3 : Int32))]) d2_46 rfl rfl rfl ?_
        refine o_aloadN cx X337 d2_49 rfl rfl ?_
        refine o_iloadN cx X337 d2_50 rfl ?_
        refine o_iloadN cx X337 d2_51 rfl ?_
        refine o_stI cx X337 d2_52 A296 3 (by decide) rfl (Nat.le_of_ble_eq_true rfl) ge298 fun T341 h343 X342 W344 A296 => ?_
        have A0 := A0.other W344 ne_aa_b291
        have KK := KK.wr W344 (Or.inr sz_b291)
        have A296 : own_Ar Z h343 b291 .int [(.int (0 : Int32)), (.int (0 : Int32)), (.int (1 : Int32)), (.int (2 : Int32))] := A296
        refine o_iinc cx X342 (z := (4 : Int32)) (Ls' := #[.val (.ref aa), .val (.ref b291), .val (.int (2 : Int32)), .val (.int (4 : Int32))]) d2_53 rfl rfl rfl ?_
        refine o_goto cx X342 9 d2_56 (by decide) (by decide) ?_
        refine o_iloadN cx X342 d2_9 rfl ?_
        refine o_aloadN cx X342 d2_10 rfl rfl ?_
        refine o_len cx X342 (z := (4 : Int32)) d2_11 A0 rfl ?_
        refine o_icmpYes cx X342 59 d2_12 (by decide) (by decide) (by decide) ?_
        refine o_aloadN cx X342 d2_59 rfl rfl ?_
        have nn0 : ¬ b0 = b1 := fun q => hc299 (Eq.symm q)
        have et0 : own_b1 b0 = (0 : Int32) := by simp [own_b1, own_i, hc299, nn0]
        have et1 : own_b2 b0 b1 = (0 : Int32) := by simp [own_b2, own_i, hc299, nn0]
        have et2 : own_b3 b0 b1 b0 = (1 : Int32) := by simp [own_b3, own_i, hc299, nn0]
        have et3 : own_b4 b0 b1 b0 b1 = (2 : Int32) := by simp [own_b4, own_i, hc299, nn0]
        exact o_retA cx X342 d2_60 rfl rfl rfl ⟨b291, rfl, KK, sz_b291, ge298, by rw [et0, et1, et2, et3]; exact A296⟩ (by decide) (by decide)
      · refine o_icmpNo cx X337 d2_25 (feq hc340).1 ?_
        refine o_aloadN cx X337 d2_28 rfl rfl ?_
        refine o_iloadN cx X337 d2_29 rfl ?_
        refine o_iconst cx X337 (z := (1 : Int32)) d2_30 rfl ?_
        refine o_isub cx X337 (z := (0 : Int32)) d2_31 rfl ?_
        refine o_ldI cx X337 (v := (.int (0 : Int32))) d2_32 A296 0 (by decide) rfl rfl ?_
        refine o_istoreN cx X337 (Ls' := #[.val (.ref aa), .val (.ref b291), .val (.int (0 : Int32)), .val (.int (3 : Int32))]) d2_33 rfl ?_
        refine o_goto cx X337 15 d2_34 (by decide) (by decide) ?_
        refine o_iloadN cx X337 d2_15 rfl ?_
        refine o_ifYes cx X337 37 d2_16 (by decide) (by decide) (by decide) ?_
        refine o_aloadN cx X337 d2_37 rfl rfl ?_
        refine o_iloadN cx X337 d2_38 rfl ?_
        refine o_ldB cx X337 (v := (.int b3)) d2_39 A0 3 (by decide) rfl rfl ?_
        refine o_aloadN cx X337 d2_40 rfl rfl ?_
        refine o_iloadN cx X337 d2_41 rfl ?_
        refine o_ldB cx X337 (v := (.int b0)) d2_42 A0 0 (by decide) rfl rfl ?_
        by_cases hc345 : b3 = b0
        · refine o_icmpNo cx X337 d2_43 (teq hc345).2 ?_
          obtain rfl : b0 = b3 := hc345.symm
          refine o_iinc cx X337 (z := (1 : Int32)) (Ls' := #[.val (.ref aa), .val (.ref b291), .val (.int (1 : Int32)), .val (.int (3 : Int32))]) d2_46 rfl rfl rfl ?_
          refine o_aloadN cx X337 d2_49 rfl rfl ?_
          refine o_iloadN cx X337 d2_50 rfl ?_
          refine o_iloadN cx X337 d2_51 rfl ?_
          refine o_stI cx X337 d2_52 A296 3 (by decide) rfl (Nat.le_of_ble_eq_true rfl) ge298 fun T346 h348 X347 W349 A296 => ?_
          have A0 := A0.other W349 ne_aa_b291
          have KK := KK.wr W349 (Or.inr sz_b291)
          have A296 : own_Ar Z h348 b291 .int [(.int (0 : Int32)), (.int (0 : Int32)), (.int (1 : Int32)), (.int (1 : Int32))] := A296
          refine o_iinc cx X347 (z := (4 : Int32)) (Ls' := #[.val (.ref aa), .val (.ref b291), .val (.int (1 : Int32)), .val (.int (4 : Int32))]) d2_53 rfl rfl rfl ?_
          refine o_goto cx X347 9 d2_56 (by decide) (by decide) ?_
          refine o_iloadN cx X347 d2_9 rfl ?_
          refine o_aloadN cx X347 d2_10 rfl rfl ?_
          refine o_len cx X347 (z := (4 : Int32)) d2_11 A0 rfl ?_
          refine o_icmpYes cx X347 59 d2_12 (by decide) (by decide) (by decide) ?_
          refine o_aloadN cx X347 d2_59 rfl rfl ?_
          have nn0 : ¬ b0 = b1 := fun q => hc299 (Eq.symm q)
          have nn1 : ¬ b1 = b0 := fun q => hc340 (Eq.symm q)
          have et0 : own_b1 b0 = (0 : Int32) := by simp [own_b1, own_i, hc299, nn0, hc340, nn1]
          have et1 : own_b2 b0 b1 = (0 : Int32) := by simp [own_b2, own_i, hc299, nn0, hc340, nn1]
          have et2 : own_b3 b0 b1 b0 = (1 : Int32) := by simp [own_b3, own_i, hc299, nn0, hc340, nn1]
          have et3 : own_b4 b0 b1 b0 b0 = (1 : Int32) := by simp [own_b4, own_i, hc299, nn0, hc340, nn1]
          exact o_retA cx X347 d2_60 rfl rfl rfl ⟨b291, rfl, KK, sz_b291, ge298, by rw [et0, et1, et2, et3]; exact A296⟩ (by decide) (by decide)
        · refine o_icmpYes cx X337 49 d2_43 (feq hc345).2 (by decide) (by decide) ?_
          refine o_aloadN cx X337 d2_49 rfl rfl ?_
          refine o_iloadN cx X337 d2_50 rfl ?_
          refine o_iloadN cx X337 d2_51 rfl ?_
          refine o_stI cx X337 d2_52 A296 3 (by decide) rfl (Nat.le_of_ble_eq_true rfl) ge298 fun T350 h352 X351 W353 A296 => ?_
          have A0 := A0.other W353 ne_aa_b291
          have KK := KK.wr W353 (Or.inr sz_b291)
          have A296 : own_Ar Z h352 b291 .int [(.int (0 : Int32)), (.int (0 : Int32)), (.int (1 : Int32)), (.int (0 : Int32))] := A296
          refine o_iinc cx X351 (z := (4 : Int32)) (Ls' := #[.val (.ref aa), .val (.ref b291), .val (.int (0 : Int32)), .val (.int (4 : Int32))]) d2_53 rfl rfl rfl ?_
          refine o_goto cx X351 9 d2_56 (by decide) (by decide) ?_
          refine o_iloadN cx X351 d2_9 rfl ?_
          refine o_aloadN cx X351 d2_10 rfl rfl ?_
          refine o_len cx X351 (z := (4 : Int32)) d2_11 A0 rfl ?_
          refine o_icmpYes cx X351 59 d2_12 (by decide) (by decide) (by decide) ?_
          refine o_aloadN cx X351 d2_59 rfl rfl ?_
          have nn0 : ¬ b0 = b1 := fun q => hc299 (Eq.symm q)
          have nn1 : ¬ b1 = b3 := fun q => hc340 (Eq.symm q)
          have nn2 : ¬ b0 = b3 := fun q => hc345 (Eq.symm q)
          have et0 : own_b1 b0 = (0 : Int32) := by simp [own_b1, own_i, hc299, nn0, hc340, nn1, hc345, nn2]
          have et1 : own_b2 b0 b1 = (0 : Int32) := by simp [own_b2, own_i, hc299, nn0, hc340, nn1, hc345, nn2]
          have et2 : own_b3 b0 b1 b0 = (1 : Int32) := by simp [own_b3, own_i, hc299, nn0, hc340, nn1, hc345, nn2]
          have et3 : own_b4 b0 b1 b0 b3 = (0 : Int32) := by simp [own_b4, own_i, hc299, nn0, hc340, nn1, hc345, nn2]
          exact o_retA cx X351 d2_60 rfl rfl rfl ⟨b291, rfl, KK, sz_b291, ge298, by rw [et0, et1, et2, et3]; exact A296⟩ (by decide) (by decide)
    · refine o_icmpYes cx X332 49 d2_43 (feq hc335).2 (by decide) (by decide) ?_
      refine o_aloadN cx X332 d2_49 rfl rfl ?_
      refine o_iloadN cx X332 d2_50 rfl ?_
      refine o_iloadN cx X332 d2_51 rfl ?_
      refine o_stI cx X332 d2_52 A296 2 (by decide) rfl (Nat.le_of_ble_eq_true rfl) ge298 fun T354 h356 X355 W357 A296 => ?_
      have A0 := A0.other W357 ne_aa_b291
      have KK := KK.wr W357 (Or.inr sz_b291)
      have A296 : own_Ar Z h356 b291 .int [(.int (0 : Int32)), (.int (0 : Int32)), (.int (0 : Int32)), (.int (0 : Int32))] := A296
      refine o_iinc cx X355 (z := (3 : Int32)) (Ls' := #[.val (.ref aa), .val (.ref b291), .val (.int (0 : Int32)), .val (.int (3 : Int32))]) d2_53 rfl rfl rfl ?_
      refine o_goto cx X355 9 d2_56 (by decide) (by decide) ?_
      refine o_iloadN cx X355 d2_9 rfl ?_
      refine o_aloadN cx X355 d2_10 rfl rfl ?_
      refine o_len cx X355 (z := (4 : Int32)) d2_11 A0 rfl ?_
      refine o_icmpNo cx X355 d2_12 (by decide) ?_
      refine o_iloadN cx X355 d2_15 rfl ?_
      refine o_ifYes cx X355 37 d2_16 (by decide) (by decide) (by decide) ?_
      refine o_aloadN cx X355 d2_37 rfl rfl ?_
      refine o_iloadN cx X355 d2_38 rfl ?_
      refine o_ldB cx X355 (v := (.int b3)) d2_39 A0 3 (by decide) rfl rfl ?_
      refine o_aloadN cx X355 d2_40 rfl rfl ?_
      refine o_iloadN cx X355 d2_41 rfl ?_
      refine o_ldB cx X355 (v := (.int b0)) d2_42 A0 0 (by decide) rfl rfl ?_
      by_cases hc358 : b3 = b0
      · refine o_icmpNo cx X355 d2_43 (teq hc358).2 ?_
        obtain rfl : b0 = b3 := hc358.symm
        refine o_iinc cx X355 (z := (1 : Int32)) (Ls' := #[.val (.ref aa), .val (.ref b291), .val (.int (1 : Int32)), .val (.int (3 : Int32))]) d2_46 rfl rfl rfl ?_
        refine o_aloadN cx X355 d2_49 rfl rfl ?_
        refine o_iloadN cx X355 d2_50 rfl ?_
        refine o_iloadN cx X355 d2_51 rfl ?_
        refine o_stI cx X355 d2_52 A296 3 (by decide) rfl (Nat.le_of_ble_eq_true rfl) ge298 fun T359 h361 X360 W362 A296 => ?_
        have A0 := A0.other W362 ne_aa_b291
        have KK := KK.wr W362 (Or.inr sz_b291)
        have A296 : own_Ar Z h361 b291 .int [(.int (0 : Int32)), (.int (0 : Int32)), (.int (0 : Int32)), (.int (1 : Int32))] := A296
        refine o_iinc cx X360 (z := (4 : Int32)) (Ls' := #[.val (.ref aa), .val (.ref b291), .val (.int (1 : Int32)), .val (.int (4 : Int32))]) d2_53 rfl rfl rfl ?_
        refine o_goto cx X360 9 d2_56 (by decide) (by decide) ?_
        refine o_iloadN cx X360 d2_9 rfl ?_
        refine o_aloadN cx X360 d2_10 rfl rfl ?_
        refine o_len cx X360 (z := (4 : Int32)) d2_11 A0 rfl ?_
        refine o_icmpYes cx X360 59 d2_12 (by decide) (by decide) (by decide) ?_
        refine o_aloadN cx X360 d2_59 rfl rfl ?_
        have nn0 : ¬ b0 = b1 := fun q => hc299 (Eq.symm q)
        have nn1 : ¬ b0 = b2 := fun q => hc335 (Eq.symm q)
        have et0 : own_b1 b0 = (0 : Int32) := by simp [own_b1, own_i, hc299, nn0, hc335, nn1]
        have et1 : own_b2 b0 b1 = (0 : Int32) := by simp [own_b2, own_i, hc299, nn0, hc335, nn1]
        have et2 : own_b3 b0 b1 b2 = (0 : Int32) := by simp [own_b3, own_i, hc299, nn0, hc335, nn1]
        have et3 : own_b4 b0 b1 b2 b0 = (1 : Int32) := by simp [own_b4, own_i, hc299, nn0, hc335, nn1]
        exact o_retA cx X360 d2_60 rfl rfl rfl ⟨b291, rfl, KK, sz_b291, ge298, by rw [et0, et1, et2, et3]; exact A296⟩ (by decide) (by decide)
      · refine o_icmpYes cx X355 49 d2_43 (feq hc358).2 (by decide) (by decide) ?_
        refine o_aloadN cx X355 d2_49 rfl rfl ?_
        refine o_iloadN cx X355 d2_50 rfl ?_
        refine o_iloadN cx X355 d2_51 rfl ?_
        refine o_stI cx X355 d2_52 A296 3 (by decide) rfl (Nat.le_of_ble_eq_true rfl) ge298 fun T363 h365 X364 W366 A296 => ?_
        have A0 := A0.other W366 ne_aa_b291
        have KK := KK.wr W366 (Or.inr sz_b291)
        have A296 : own_Ar Z h365 b291 .int [(.int (0 : Int32)), (.int (0 : Int32)), (.int (0 : Int32)), (.int (0 : Int32))] := A296
        refine o_iinc cx X364 (z := (4 : Int32)) (Ls' := #[.val (.ref aa), .val (.ref b291), .val (.int (0 : Int32)), .val (.int (4 : Int32))]) d2_53 rfl rfl rfl ?_
        refine o_goto cx X364 9 d2_56 (by decide) (by decide) ?_
        refine o_iloadN cx X364 d2_9 rfl ?_
        refine o_aloadN cx X364 d2_10 rfl rfl ?_
        refine o_len cx X364 (z := (4 : Int32)) d2_11 A0 rfl ?_
        refine o_icmpYes cx X364 59 d2_12 (by decide) (by decide) (by decide) ?_
        refine o_aloadN cx X364 d2_59 rfl rfl ?_
        have nn0 : ¬ b0 = b1 := fun q => hc299 (Eq.symm q)
        have nn1 : ¬ b0 = b2 := fun q => hc335 (Eq.symm q)
        have nn2 : ¬ b0 = b3 := fun q => hc358 (Eq.symm q)
        have et0 : own_b1 b0 = (0 : Int32) := by simp [own_b1, own_i, hc299, nn0, hc335, nn1, hc358, nn2]
        have et1 : own_b2 b0 b1 = (0 : Int32) := by simp [own_b2, own_i, hc299, nn0, hc335, nn1, hc358, nn2]
        have et2 : own_b3 b0 b1 b2 = (0 : Int32) := by simp [own_b3, own_i, hc299, nn0, hc335, nn1, hc358, nn2]
        have et3 : own_b4 b0 b1 b2 b3 = (0 : Int32) := by simp [own_b4, own_i, hc299, nn0, hc335, nn1, hc358, nn2]
        exact o_retA cx X364 d2_60 rfl rfl rfl ⟨b291, rfl, KK, sz_b291, ge298, by rw [et0, et1, et2, et3]; exact A296⟩ (by decide) (by decide)
theorem ef_rpm_5 (m : MethodId) (aa : Addr) : entryFrame m #[(.ref aa)] 4 = mkF m 0 #[.val (.ref aa), .unset, .unset, .unset] [] := by first | (simp [entryFrame, mkF, argsToLocals, Value.category]; done) | rfl
set_option maxRecDepth 65536 in
set_option maxHeartbeats 40000000 in
theorem rpm_5 (l : Launch) (Z : State) (a0 : Array Value) (hw : ∀ d ∈ tables_1, d.before a0 Z = true) (aa : Addr) (b0 : Int32) (b1 : Int32) (b2 : Int32) (b3 : Int32) (b4 : Int32) (h0 : Heap) (n0 : Nat) (Z0 : n0 ≤ h0.size) (A0 : own_Ar Z h0 aa .byte [(.int b0), (.int b1), (.int b2), (.int b3), (.int b4)]) :
    own_Met l Z (⟨"com/example/needlewise/needlewise/Kmp", "partialMatch", "([B)[I"⟩ : MethodName) prog_12_method_2_code 4 (some (.array .int)) ({ frames := 0, cells := 1, slots := 5, locals := 0 } : Room) #[(.ref aa)] h0 n0 (fun v' h' => ∃ b : Addr, v' = some (.ref b) ∧ Keep h0 h' [] ∧ h0.size ≤ b ∧ n0 ≤ b ∧ own_Ar Z h' b .int [(.int (own_b1 b0)), (.int (own_b2 b0 b1)), (.int (own_b3 b0 b1 b2)), (.int (own_b4 b0 b1 b2 b3)), (.int (own_b5 b0 b1 b2 b3 b4))]) := by
  refine own_body (plainFor_of_name pn_2) (fun m => ef_rpm_5 m aa) Z0 ?_
  intro p e s m below meth c T0 cx X0
  have KK := Keep.refl h0 []
  show own_Go p e below _ (T0.setTop (mkF m 0 #[.val (.ref aa), .unset, .unset, .unset] []))
  refine o_aloadN cx X0 d2_0 rfl rfl ?_
  refine o_len cx X0 (z := (5 : Int32)) d2_1 A0 rfl ?_
  refine o_newP cx X0 d2_2 (o_w hw 10 rfl) (by decide) 5 5 rfl (Nat.le_refl _) (by decide) (by decide) (by decide) fun T368 h370 b367 gb373 ge374 X369 E371 A372 => ?_
  have ne_aa_b367 : aa ≠ b367 := by rw [gb373]; exact Nat.ne_of_lt A0.lt
  have sz_b367 : h0.size ≤ b367 := by rw [gb373]; exact KK.1
  have A0 := A0.ext E371
  have KK := KK.ext E371
  have A372 : own_Ar Z h370 b367 .int [(.int (0 : Int32)), (.int (0 : Int32)), (.int (0 : Int32)), (.int (0 : Int32)), (.int (0 : Int32))] := A372
  refine o_astoreN cx X369 (Ls' := #[.val (.ref aa), .val (.ref b367), .unset, .unset]) d2_4 rfl rfl ?_
  refine o_iconst cx X369 (z := (0 : Int32)) d2_5 rfl ?_
  refine o_istoreN cx X369 (Ls' := #[.val (.ref aa), .val (.ref b367), .val (.int (0 : Int32)), .unset]) d2_6 rfl ?_
  refine o_iconst cx X369 (z := (1 : Int32)) d2_7 rfl ?_
  refine o_istoreN cx X369 (Ls' := #[.val (.ref aa), .val (.ref b367), .val (.int (0 : Int32)), .val (.int (1 : Int32))]) d2_8 rfl ?_
  refine o_iloadN cx X369 d2_9 rfl ?_
  refine o_aloadN cx X369 d2_10 rfl rfl ?_
  refine o_len cx X369 (z := (5 : Int32)) d2_11 A0 rfl ?_
  refine o_icmpNo cx X369 d2_12 (by decide) ?_
  refine o_iloadN cx X369 d2_15 rfl ?_
  refine o_ifYes cx X369 37 d2_16 (by decide) (by decide) (by decide) ?_
  refine o_aloadN cx X369 d2_37 rfl rfl ?_
  refine o_iloadN cx X369 d2_38 rfl ?_
  refine o_ldB cx X369 (v := (.int b1)) d2_39 A0 1 (by decide) rfl rfl ?_
  refine o_aloadN cx X369 d2_40 rfl rfl ?_
  refine o_iloadN cx X369 d2_41 rfl ?_
  refine o_ldB cx X369 (v := (.int b0)) d2_42 A0 0 (by decide) rfl rfl ?_
  by_cases hc375 : b1 = b0
  · refine o_icmpNo cx X369 d2_43 (teq hc375).2 ?_
    obtain rfl : b0 = b1 := hc375.symm
    refine o_iinc cx X369 (z := (1 : Int32)) (Ls' := #[.val (.ref aa), .val (.ref b367), .val (.int (1 : Int32)), .val (.int (1 : Int32))]) d2_46 rfl rfl rfl ?_
    refine o_aloadN cx X369 d2_49 rfl rfl ?_
    refine o_iloadN cx X369 d2_50 rfl ?_
    refine o_iloadN cx X369 d2_51 rfl ?_
    refine o_stI cx X369 d2_52 A372 1 (by decide) rfl (Nat.le_of_ble_eq_true rfl) ge374 fun T376 h378 X377 W379 A372 => ?_
    have A0 := A0.other W379 ne_aa_b367
    have KK := KK.wr W379 (Or.inr sz_b367)
    have A372 : own_Ar Z h378 b367 .int [(.int (0 : Int32)), (.int (1 : Int32)), (.int (0 : Int32)), (.int (0 : Int32)), (.int (0 : Int32))] := A372
    refine o_iinc cx X377 (z := (2 : Int32)) (Ls' := #[.val (.ref aa), .val (.ref b367), .val (.int (1 : Int32)), .val (.int (2 : Int32))]) d2_53 rfl rfl rfl ?_
    refine o_goto cx X377 9 d2_56 (by decide) (by decide) ?_
    refine o_iloadN cx X377 d2_9 rfl ?_
    refine o_aloadN cx X377 d2_10 rfl rfl ?_
    refine o_len cx X377 (z := (5 : Int32)) d2_11 A0 rfl ?_
    refine o_icmpNo cx X377 d2_12 (by decide) ?_
    refine o_iloadN cx X377 d2_15 rfl ?_
    refine o_ifNo cx X377 d2_16 (by decide) ?_
    refine o_aloadN cx X377 d2_19 rfl rfl ?_
    refine o_iloadN cx X377 d2_20 rfl ?_
    refine o_ldB cx X377 (v := (.int b2)) d2_21 A0 2 (by decide) rfl rfl ?_
    refine o_aloadN cx X377 d2_22 rfl rfl ?_
    refine o_iloadN cx X377 d2_23 rfl ?_
    refine o_ldB cx X377 (v := (.int b0)) d2_24 A0 1 (by decide) rfl rfl ?_
    by_cases hc380 : b2 = b0
    · refine o_icmpYes cx X377 37 d2_25 (teq hc380).1 (by decide) (by decide) ?_
      obtain rfl : b0 = b2 := hc380.symm
      refine o_aloadN cx X377 d2_37 rfl rfl ?_
      refine o_iloadN cx X377 d2_38 rfl ?_
      refine o_ldB cx X377 (v := (.int b0)) d2_39 A0 2 (by decide) rfl rfl ?_
      refine o_aloadN cx X377 d2_40 rfl rfl ?_
      refine o_iloadN cx X377 d2_41 rfl ?_
      refine o_ldB cx X377 (v := (.int b0)) d2_42 A0 1 (by decide) rfl rfl ?_
      refine o_icmpNo cx X377 d2_43 (teq rfl).2 ?_
      refine o_iinc cx X377 (z := (2 : Int32)) (Ls' := #[.val (.ref aa), .val (.ref b367), .val (.int (2 : Int32)), .val (.int (2 : Int32))]) d2_46 rfl rfl rfl ?_
      refine o_aloadN cx X377 d2_49 rfl rfl ?_
      refine o_iloadN cx X377 d2_50 rfl ?_
      refine o_iloadN cx X377 d2_51 rfl ?_
      refine o_stI cx X377 d2_52 A372 2 (by decide) rfl (Nat.le_of_ble_eq_true rfl) ge374 fun T381 h383 X382 W384 A372 => ?_
      have A0 := A0.other W384 ne_aa_b367
      have KK := KK.wr W384 (Or.inr sz_b367)
      have A372 : own_Ar Z h383 b367 .int [(.int (0 : Int32)), (.int (1 : Int32)), (.int (2 : Int32)), (.int (0 : Int32)), (.int (0 : Int32))] := A372
      refine o_iinc cx X382 (z := (3 : Int32)) (Ls' := #[.val (.ref aa), .val (.ref b367), .val (.int (2 : Int32)), .val (.int (3 : Int32))]) d2_53 rfl rfl rfl ?_
      refine o_goto cx X382 9 d2_56 (by decide) (by decide) ?_
      refine o_iloadN cx X382 d2_9 rfl ?_
      refine o_aloadN cx X382 d2_10 rfl rfl ?_
      refine o_len cx X382 (z := (5 : Int32)) d2_11 A0 rfl ?_
      refine o_icmpNo cx X382 d2_12 (by decide) ?_
      refine o_iloadN cx X382 d2_15 rfl ?_
      refine o_ifNo cx X382 d2_16 (by decide) ?_
      refine o_aloadN cx X382 d2_19 rfl rfl ?_
      refine o_iloadN cx X382 d2_20 rfl ?_
      refine o_ldB cx X382 (v := (.int b3)) d2_21 A0 3 (by decide) rfl rfl ?_
      refine o_aloadN cx X382 d2_22 rfl rfl ?_
      refine o_iloadN cx X382 d2_23 rfl ?_
      refine o_ldB cx X382 (v := (.int b0)) d2_24 A0 2 (by decide) rfl rfl ?_
      by_cases hc385 : b3 = b0
      · refine o_icmpYes cx X382 37 d2_25 (teq hc385).1 (by decide) (by decide) ?_
        obtain rfl : b0 = b3 := hc385.symm
        refine o_aloadN cx X382 d2_37 rfl rfl ?_
        refine o_iloadN cx X382 d2_38 rfl ?_
        refine o_ldB cx X382 (v := (.int b0)) d2_39 A0 3 (by decide) rfl rfl ?_
        refine o_aloadN cx X382 d2_40 rfl rfl ?_
        refine o_iloadN cx X382 d2_41 rfl ?_
        refine o_ldB cx X382 (v := (.int b0)) d2_42 A0 2 (by decide) rfl rfl ?_
        refine o_icmpNo cx X382 d2_43 (teq rfl).2 ?_
        refine o_iinc cx X382 (z := (3 : Int32)) (Ls' := #[.val (.ref aa), .val (.ref b367), .val (.int (3 : Int32)), .val (.int (3 : Int32))]) d2_46 rfl rfl rfl ?_
        refine o_aloadN cx X382 d2_49 rfl rfl ?_
        refine o_iloadN cx X382 d2_50 rfl ?_
        refine o_iloadN cx X382 d2_51 rfl ?_
        refine o_stI cx X382 d2_52 A372 3 (by decide) rfl (Nat.le_of_ble_eq_true rfl) ge374 fun T386 h388 X387 W389 A372 => ?_
        have A0 := A0.other W389 ne_aa_b367
        have KK := KK.wr W389 (Or.inr sz_b367)
        have A372 : own_Ar Z h388 b367 .int [(.int (0 : Int32)), (.int (1 : Int32)), (.int (2 : Int32)), (.int (3 : Int32)), (.int (0 : Int32))] := A372
        refine o_iinc cx X387 (z := (4 : Int32)) (Ls' := #[.val (.ref aa), .val (.ref b367), .val (.int (3 : Int32)), .val (.int (4 : Int32))]) d2_53 rfl rfl rfl ?_
        refine o_goto cx X387 9 d2_56 (by decide) (by decide) ?_
        refine o_iloadN cx X387 d2_9 rfl ?_
        refine o_aloadN cx X387 d2_10 rfl rfl ?_
        refine o_len cx X387 (z := (5 : Int32)) d2_11 A0 rfl ?_
        refine o_icmpNo cx X387 d2_12 (by decide) ?_
        refine o_iloadN cx X387 d2_15 rfl ?_
        refine o_ifNo cx X387 d2_16 (by decide) ?_
        refine o_aloadN cx X387 d2_19 rfl rfl ?_
        refine o_iloadN cx X387 d2_20 rfl ?_
        refine o_ldB cx X387 (v := (.int b4)) d2_21 A0 4 (by decide) rfl rfl ?_
        refine o_aloadN cx X387 d2_22 rfl rfl ?_
        refine o_iloadN cx X387 d2_23 rfl ?_
        refine o_ldB cx X387 (v := (.int b0)) d2_24 A0 3 (by decide) rfl rfl ?_
        by_cases hc390 : b4 = b0
        · refine o_icmpYes cx X387 37 d2_25 (teq hc390).1 (by decide) (by decide) ?_
          obtain rfl : b0 = b4 := hc390.symm
          refine o_aloadN cx X387 d2_37 rfl rfl ?_
          refine o_iloadN cx X387 d2_38 rfl ?_
          refine o_ldB cx X387 (v := (.int b0)) d2_39 A0 4 (by decide) rfl rfl ?_
          refine o_aloadN cx X387 d2_40 rfl rfl ?_
          refine o_iloadN cx X387 d2_41 rfl ?_
          refine o_ldB cx X387 (v := (.int b0)) d2_42 A0 3 (by decide) rfl rfl ?_
          refine o_icmpNo cx X387 d2_43 (teq rfl).2 ?_
          refine o_iinc cx X387 (z := (4 : Int32)) (Ls' := #[.val (.ref aa), .val (.ref b367), .val (.int (4 : Int32)), .val (.int (4 : Int32))]) d2_46 rfl rfl rfl ?_
          refine o_aloadN cx X387 d2_49 rfl rfl ?_
          refine o_iloadN cx X387 d2_50 rfl ?_
          refine o_iloadN cx X387 d2_51 rfl ?_
          refine o_stI cx X387 d2_52 A372 4 (by decide) rfl (Nat.le_of_ble_eq_true rfl) ge374 fun T391 h393 X392 W394 A372 => ?_
          have A0 := A0.other W394 ne_aa_b367
          have KK := KK.wr W394 (Or.inr sz_b367)
          have A372 : own_Ar Z h393 b367 .int [(.int (0 : Int32)), (.int (1 : Int32)), (.int (2 : Int32)), (.int (3 : Int32)), (.int (4 : Int32))] := A372
          refine o_iinc cx X392 (z := (5 : Int32)) (Ls' := #[.val (.ref aa), .val (.ref b367), .val (.int (4 : Int32)), .val (.int (5 : Int32))]) d2_53 rfl rfl rfl ?_
          refine o_goto cx X392 9 d2_56 (by decide) (by decide) ?_
          refine o_iloadN cx X392 d2_9 rfl ?_
          refine o_aloadN cx X392 d2_10 rfl rfl ?_
          refine o_len cx X392 (z := (5 : Int32)) d2_11 A0 rfl ?_
          refine o_icmpYes cx X392 59 d2_12 (by decide) (by decide) (by decide) ?_
          refine o_aloadN cx X392 d2_59 rfl rfl ?_
          have et0 : own_b1 b0 = (0 : Int32) := by simp [own_b1, own_i]
          have et1 : own_b2 b0 b0 = (1 : Int32) := by simp [own_b2, own_i]
          have et2 : own_b3 b0 b0 b0 = (2 : Int32) := by simp [own_b3, own_i]
          have et3 : own_b4 b0 b0 b0 b0 = (3 : Int32) := by simp [own_b4, own_i]
          have et4 : own_b5 b0 b0 b0 b0 b0 = (4 : Int32) := by simp [own_b5, own_i]
          exact o_retA cx X392 d2_60 rfl rfl rfl ⟨b367, rfl, KK, sz_b367, ge374, by rw [et0, et1, et2, et3, et4]; exact A372⟩ (by decide) (by decide)
        · refine o_icmpNo cx X387 d2_25 (feq hc390).1 ?_
          refine o_aloadN cx X387 d2_28 rfl rfl ?_
          refine o_iloadN cx X387 d2_29 rfl ?_
          refine o_iconst cx X387 (z := (1 : Int32)) d2_30 rfl ?_
          refine o_isub cx X387 (z := (2 : Int32)) d2_31 rfl ?_
          refine o_ldI cx X387 (v := (.int (2 : Int32))) d2_32 A372 2 (by decide) rfl rfl ?_
          refine o_istoreN cx X387 (Ls' := #[.val (.ref aa), .val (.ref b367), .val (.int (2 : Int32)), .val (.int (4 : Int32))]) d2_33 rfl ?_
          refine o_goto cx X387 15 d2_34 (by decide) (by decide) ?_
          refine o_iloadN cx X387 d2_15 rfl ?_
          refine o_ifNo cx X387 d2_16 (by decide) ?_
          refine o_aloadN cx X387 d2_19 rfl rfl ?_
          refine o_iloadN cx X387 d2_20 rfl ?_
          refine o_ldB cx X387 (v := (.int b4)) d2_21 A0 4 (by decide) rfl rfl ?_
          refine o_aloadN cx X387 d2_22 rfl rfl ?_
          refine o_iloadN cx X387 d2_23 rfl ?_
          refine o_ldB cx X387 (v := (.int b0)) d2_24 A0 2 (by decide) rfl rfl ?_
          refine o_icmpNo cx X387 d2_25 (feq hc390).1 ?_
          refine o_aloadN cx X387 d2_28 rfl rfl ?_
          refine o_iloadN cx X387 d2_29 rfl ?_
          refine o_iconst cx X387 (z := (1 : Int32)) d2_30 rfl ?_
          refine o_isub cx X387 (z := (1 : Int32)) d2_31 rfl ?_
          refine o_ldI cx X387 (v := (.int (1 : Int32))) d2_32 A372 1 (by decide) rfl rfl ?_
          refine o_istoreN cx X387 (Ls' := #[.val (.ref aa), .val (.ref b367), .val (.int (1 : Int32)), .val (.int (4 : Int32))]) d2_33 rfl ?_
          refine o_goto cx X387 15 d2_34 (by decide) (by decide) ?_
          refine o_iloadN cx X387 d2_15 rfl ?_
          refine o_ifNo cx X387 d2_16 (by decide) ?_
          refine o_aloadN cx X387 d2_19 rfl rfl ?_
          refine o_iloadN cx X387 d2_20 rfl ?_
          refine o_ldB cx X387 (v := (.int b4)) d2_21 A0 4 (by decide) rfl rfl ?_
          refine o_aloadN cx X387 d2_22 rfl rfl ?_
          refine o_iloadN cx X387 d2_23 rfl ?_
          refine o_ldB cx X387 (v := (.int b0)) d2_24 A0 1 (by decide) rfl rfl ?_
          refine o_icmpNo cx X387 d2_25 (feq hc390).1 ?_
          refine o_aloadN cx X387 d2_28 rfl rfl ?_
          refine o_iloadN cx X387 d2_29 rfl ?_
          refine o_iconst cx X387 (z := (1 : Int32)) d2_30 rfl ?_
          refine o_isub cx X387 (z := (0 : Int32)) d2_31 rfl ?_
          refine o_ldI cx X387 (v := (.int (0 : Int32))) d2_32 A372 0 (by decide) rfl rfl ?_
          refine o_istoreN cx X387 (Ls' := #[.val (.ref aa), .val (.ref b367), .val (.int (0 : Int32)), .val (.int (4 : Int32))]) d2_33 rfl ?_
          refine o_goto cx X387 15 d2_34 (by decide) (by decide) ?_
          refine o_iloadN cx X387 d2_15 rfl ?_
          refine o_ifYes cx X387 37 d2_16 (by decide) (by decide) (by decide) ?_
          refine o_aloadN cx X387 d2_37 rfl rfl ?_
          refine o_iloadN cx X387 d2_38 rfl ?_
          refine o_ldB cx X387 (v := (.int b4)) d2_39 A0 4 (by decide) rfl rfl ?_
          refine o_aloadN cx X387 d2_40 rfl rfl ?_
          refine o_iloadN cx X387 d2_41 rfl ?_
          refine o_ldB cx X387 (v := (.int b0)) d2_42 A0 0 (by decide) rfl rfl ?_
          refine o_icmpYes cx X387 49 d2_43 (feq hc390).2 (by decide) (by decide) ?_
          refine o_aloadN cx X387 d2_49 rfl rfl ?_
          refine o_iloadN cx X387 d2_50 rfl ?_
          refine o_iloadN cx X387 d2_51 rfl ?_
          refine o_stI cx X387 d2_52 A372 4 (by decide) rfl (Nat.le_of_ble_eq_true rfl) ge374 fun T395 h397 X396 W398 A372 => ?_
          have A0 := A0.other W398 ne_aa_b367
          have KK := KK.wr W398 (Or.inr sz_b367)
          have A372 : own_Ar Z h397 b367 .int [(.int (0 : Int32)), (.int (1 : Int32)), (.int (2 : Int32)), (.int (3 : Int32)), (.int (0 : Int32))] := A372
          refine o_iinc cx X396 (z := (5 : Int32)) (Ls' := #[.val (.ref aa), .val (.ref b367), .val (.int (0 : Int32)), .val (.int (5 : Int32))]) d2_53 rfl rfl rfl ?_
          refine o_goto cx X396 9 d2_56 (by decide) (by decide) ?_
          refine o_iloadN cx X396 d2_9 rfl ?_
          refine o_aloadN cx X396 d2_10 rfl rfl ?_
          refine o_len cx X396 (z := (5 : Int32)) d2_11 A0 rfl ?_
          refine o_icmpYes cx X396 59 d2_12 (by decide) (by decide) (by decide) ?_
          refine o_aloadN cx X396 d2_59 rfl rfl ?_
          have nn0 : ¬ b0 = b4 := fun q => hc390 (Eq.symm q)
          have et0 : own_b1 b0 = (0 : Int32) := by simp [own_b1, own_i, hc390, nn0]
          have et1 : own_b2 b0 b0 = (1 : Int32) := by simp [own_b2, own_i, hc390, nn0]
          have et2 : own_b3 b0 b0 b0 = (2 : Int32) := by simp [own_b3, own_i, hc390, nn0]
          have et3 : own_b4 b0 b0 b0 b0 = (3 : Int32) := by simp [own_b4, own_i, hc390, nn0]
          have et4 : own_b5 b0 b0 b0 b0 b4 = (0 : Int32) := by simp [own_b5, own_i, hc390, nn0]
          exact o_retA cx X396 d2_60 rfl rfl rfl ⟨b367, rfl, KK, sz_b367, ge374, by rw [et0, et1, et2, et3, et4]; exact A372⟩ (by decide) (by decide)
      · refine o_icmpNo cx X382 d2_25 (feq hc385).1 ?_
        refine o_aloadN cx X382 d2_28 rfl rfl ?_
        refine o_iloadN cx X382 d2_29 rfl ?_
        refine o_iconst cx X382 (z := (1 : Int32)) d2_30 rfl ?_
        refine o_isub cx X382 (z := (1 : Int32)) d2_31 rfl ?_
        refine o_ldI cx X382 (v := (.int (1 : Int32))) d2_32 A372 1 (by decide) rfl rfl ?_
        refine o_istoreN cx X382 (Ls' := #[.val (.ref aa), .val (.ref b367), .val (.int (1 : Int32)), .val (.int (3 : Int32))]) d2_33 rfl ?_
        refine o_goto cx X382 15 d2_34 (by decide) (by decide) ?_
        refine o_iloadN cx X382 d2_15 rfl ?_
        refine o_ifNo cx X382 d2_16 (by decide) ?_
        refine o_aloadN cx X382 d2_19 rfl rfl ?_
        refine o_iloadN cx X382 d2_20 rfl ?_
        refine o_ldB cx X382 (v := (.int b3)) d2_21 A0 3 (by decide) rfl rfl ?_
        refine o_aloadN cx X382 d2_22 rfl rfl ?_
        refine o_iloadN cx X382 d2_23 rfl ?_
        refine o_ldB cx X382 (v := (.int b0)) d2_24 A0 1 (by decide) rfl rfl ?_
        refine o_icmpNo cx X382 d2_25 (feq hc385).1 ?_
        refine o_aloadN cx X382 d2_28 rfl rfl ?_
        refine o_iloadN cx X382 d2_29 rfl ?_
        refine o_iconst cx X382 (z := (1 : Int32)) d2_30 rfl ?_
        refine o_isub cx X382 (z := (0 : Int32)) d2_31 rfl ?_
        refine o_ldI cx X382 (v := (.int (0 : Int32))) d2_32 A372 0 (by decide) rfl rfl ?_
        refine o_istoreN cx X382 (Ls' := #[.val (.ref aa), .val (.ref b367), .val (.int (0 : Int32)), .val (.int (3 : Int32))]) d2_33 rfl ?_
        refine o_goto cx X382 15 d2_34 (by decide) (by decide) ?_
        refine o_iloadN cx X382 d2_15 rfl ?_
        refine o_ifYes cx X382 37 d2_16 (by decide) (by decide) (by decide) ?_
        refine o_aloadN cx X382 d2_37 rfl rfl ?_
        refine o_iloadN cx X382 d2_38 rfl ?_
        refine o_ldB cx X382 (v := (.int b3)) d2_39 A0 3 (by decide) rfl rfl ?_
        refine o_aloadN cx X382 d2_40 rfl rfl ?_
        refine o_iloadN cx X382 d2_41 rfl ?_
        refine o_ldB cx X382 (v := (.int b0)) d2_42 A0 0 (by decide) rfl rfl ?_
        refine o_icmpYes cx X382 49 d2_43 (feq hc385).2 (by decide) (by decide) ?_
        refine o_aloadN cx X382 d2_49 rfl rfl ?_
        refine o_iloadN cx X382 d2_50 rfl ?_
        refine o_iloadN cx X382 d2_51 rfl ?_
        refine o_stI cx X382 d2_52 A372 3 (by decide) rfl (Nat.le_of_ble_eq_true rfl) ge374 fun T399 h401 X400 W402 A372 => ?_
        have A0 := A0.other W402 ne_aa_b367
        have KK := KK.wr W402 (Or.inr sz_b367)
        have A372 : own_Ar Z h401 b367 .int [(.int (0 : Int32)), (.int (1 : Int32)), (.int (2 : Int32)), (.int (0 : Int32)), (.int (0 : Int32))] := A372
        refine o_iinc cx X400 (z := (4 : Int32)) (Ls' := #[.val (.ref aa), .val (.ref b367), .val (.int (0 : Int32)), .val (.int (4 : Int32))]) d2_53 rfl rfl rfl ?_
        refine o_goto cx X400 9 d2_56 (by decide) (by decide) ?_
        refine o_iloadN cx X400 d2_9 rfl ?_
        refine o_aloadN cx X400 d2_10 rfl rfl ?_
        refine o_len cx X400 (z := (5 : Int32)) d2_11 A0 rfl ?_
        refine o_icmpNo cx X400 d2_12 (by decide) ?_
        refine o_iloadN cx X400 d2_15 rfl ?_
        refine o_ifYes cx X400 37 d2_16 (by decide) (by decide) (by decide) ?_
        refine o_aloadN cx X400 d2_37 rfl rfl ?_
        refine o_iloadN cx X400 d2_38 rfl ?_
        refine o_ldB cx X400 (v := (.int b4)) d2_39 A0 4 (by decide) rfl rfl ?_
        refine o_aloadN cx X400 d2_40 rfl rfl ?_
        refine o_iloadN cx X400 d2_41 rfl ?_
        refine o_ldB cx X400 (v := (.int b0)) d2_42 A0 0 (by decide) rfl rfl ?_
        by_cases hc403 : b4 = b0
        · refine o_icmpNo cx X400 d2_43 (teq hc403).2 ?_
          obtain rfl : b0 = b4 := hc403.symm
          refine o_iinc cx X400 (z := (1 : Int32)) (Ls' := #[.val (.ref aa), .val (.ref b367), .val (.int (1 : Int32)), .val (.int (4 : Int32))]) d2_46 rfl rfl rfl ?_
          refine o_aloadN cx X400 d2_49 rfl rfl ?_
          refine o_iloadN cx X400 d2_50 rfl ?_
          refine o_iloadN cx X400 d2_51 rfl ?_
          refine o_stI cx X400 d2_52 A372 4 (by decide) rfl (Nat.le_of_ble_eq_true rfl) ge374 fun T404 h406 X405 W407 A372 => ?_
          have A0 := A0.other W407 ne_aa_b367
          have KK := KK.wr W407 (Or.inr sz_b367)
          have A372 : own_Ar Z h406 b367 .int [(.int (0 : Int32)), (.int (1 : Int32)), (.int (2 : Int32)), (.int (0 : Int32)), (.int (1 : Int32))] := A372
          refine o_iinc cx X405 (z := (5 : Int32)) (Ls' := #[.val (.ref aa), .val (.ref b367), .val (.int (1 : Int32)), .val (.int (5 : Int32))]) d2_53 rfl rfl rfl ?_
          refine o_goto cx X405 9 d2_56 (by decide) (by decide) ?_
          refine o_iloadN cx X405 d2_9 rfl ?_
          refine o_aloadN cx X405 d2_10 rfl rfl ?_
          refine o_len cx X405 (z := (5 : Int32)) d2_11 A0 rfl ?_
          refine o_icmpYes cx X405 59 d2_12 (by decide) (by decide) (by decide) ?_
          refine o_aloadN cx X405 d2_59 rfl rfl ?_
          have nn0 : ¬ b0 = b3 := fun q => hc385 (Eq.symm q)
          have et0 : own_b1 b0 = (0 : Int32) := by simp [own_b1, own_i, hc385, nn0]
          have et1 : own_b2 b0 b0 = (1 : Int32) := by simp [own_b2, own_i, hc385, nn0]
          have et2 : own_b3 b0 b0 b0 = (2 : Int32) := by simp [own_b3, own_i, hc385, nn0]
          have et3 : own_b4 b0 b0 b0 b3 = (0 : Int32) := by simp [own_b4, own_i, hc385, nn0]
          have et4 : own_b5 b0 b0 b0 b3 b0 = (1 : Int32) := by simp [own_b5, own_i, hc385, nn0]
          exact o_retA cx X405 d2_60 rfl rfl rfl ⟨b367, rfl, KK, sz_b367, ge374, by rw [et0, et1, et2, et3, et4]; exact A372⟩ (by decide) (by decide)
        · refine o_icmpYes cx X400 49 d2_43 (feq hc403).2 (by decide) (by decide) ?_
          refine o_aloadN cx X400 d2_49 rfl rfl ?_
          refine o_iloadN cx X400 d2_50 rfl ?_
          refine o_iloadN cx X400 d2_51 rfl ?_
          refine o_stI cx X400 d2_52 A372 4 (by decide) rfl (Nat.le_of_ble_eq_true rfl) ge374 fun T408 h410 X409 W411 A372 => ?_
          have A0 := A0.other W411 ne_aa_b367
          have KK := KK.wr W411 (Or.inr sz_b367)
          have A372 : own_Ar Z h410 b367 .int [(.int (0 : Int32)), (.int (1 : Int32)), (.int (2 : Int32)), (.int (0 : Int32)), (.int (0 : Int32))] := A372
          refine o_iinc cx X409 (z := (5 : Int32)) (Ls' := #[.val (.ref aa), .val (.ref b367), .val (.int (0 : Int32)), .val (.int (5 : Int32))]) d2_53 rfl rfl rfl ?_
          refine o_goto cx X409 9 d2_56 (by decide) (by decide) ?_
          refine o_iloadN cx X409 d2_9 rfl ?_
          refine o_aloadN cx X409 d2_10 rfl rfl ?_
          refine o_len cx X409 (z := (5 : Int32)) d2_11 A0 rfl ?_
          refine o_icmpYes cx X409 59 d2_12 (by decide) (by decide) (by decide) ?_
          refine o_aloadN cx X409 d2_59 rfl rfl ?_
          have nn0 : ¬ b0 = b3 := fun q => hc385 (Eq.symm q)
          have nn1 : ¬ b0 = b4 := fun q => hc403 (Eq.symm q)
          have et0 : own_b1 b0 = (0 : Int32) := by simp [own_b1, own_i, hc385, nn0, hc403, nn1]
          have et1 : own_b2 b0 b0 = (1 : Int32) := by simp [own_b2, own_i, hc385, nn0, hc403, nn1]
          have et2 : own_b3 b0 b0 b0 = (2 : Int32) := by simp [own_b3, own_i, hc385, nn0, hc403, nn1]
          have et3 : own_b4 b0 b0 b0 b3 = (0 : Int32) := by simp [own_b4, own_i, hc385, nn0, hc403, nn1]
          have et4 : own_b5 b0 b0 b0 b3 b4 = (0 : Int32) := by simp [own_b5, own_i, hc385, nn0, hc403, nn1]
          exact o_retA cx X409 d2_60 rfl rfl rfl ⟨b367, rfl, KK, sz_b367, ge374, by rw [et0, et1, et2, et3, et4]; exact A372⟩ (by decide) (by decide)
    · refine o_icmpNo cx X377 d2_25 (feq hc380).1 ?_
      refine o_aloadN cx X377 d2_28 rfl rfl ?_
      refine o_iloadN cx X377 d2_29 rfl ?_
      refine o_iconst cx X377 (z := (1 : Int32)) d2_30 rfl ?_
      refine o_isub cx X377 (z := (0 : Int32)) d2_31 rfl ?_
      refine o_ldI cx X377 (v := (.int (0 : Int32))) d2_32 A372 0 (by decide) rfl rfl ?_
      refine o_istoreN cx X377 (Ls' := #[.val (.ref aa), .val (.ref b367), .val (.int (0 : Int32)), .val (.int (2 : Int32))]) d2_33 rfl ?_
      refine o_goto cx X377 15 d2_34 (by decide) (by decide) ?_
      refine o_iloadN cx X377 d2_15 rfl ?_
      refine o_ifYes cx X377 37 d2_16 (by decide) (by decide) (by decide) ?_
      refine o_aloadN cx X377 d2_37 rfl rfl ?_
      refine o_iloadN cx X377 d2_38 rfl ?_
      refine o_ldB cx X377 (v := (.int b2)) d2_39 A0 2 (by decide) rfl rfl ?_
      refine o_aloadN cx X377 d2_40 rfl rfl ?_
      refine o_iloadN cx X377 d2_41 rfl ?_
      refine o_ldB cx X377 (v := (.int b0)) d2_42 A0 0 (by decide) rfl rfl ?_
      refine o_icmpYes cx X377 49 d2_43 (feq hc380).2 (by decide) (by decide) ?_
      refine o_aloadN cx X377 d2_49 rfl rfl ?_
      refine o_iloadN cx X377 d2_50 rfl ?_
      refine o_iloadN cx X377 d2_51 rfl ?_
      refine o_stI cx X377 d2_52 A372 2 (by decide) rfl (Nat.le_of_ble_eq_true rfl) ge374 fun T412 h414 X413 W415 A372 => ?_
      have A0 := A0.other W415 ne_aa_b367
      have KK := KK.wr W415 (Or.inr sz_b367)
      have A372 : own_Ar Z h414 b367 .int [(.int (0 : Int32)), (.int (1 : Int32)), (.int (0 : Int32)), (.int (0 : Int32)), (.int (0 : Int32))] := A372
      refine o_iinc cx X413 (z := (3 : Int32)) (Ls' := #[.val (.ref aa), .val (.ref b367), .val (.int (0 : Int32)), .val (.int (3 : Int32))]) d2_53 rfl rfl rfl ?_
      refine o_goto cx X413 9 d2_56 (by decide) (by decide) ?_
      refine o_iloadN cx X413 d2_9 rfl ?_
      refine o_aloadN cx X413 d2_10 rfl rfl ?_
      refine o_len cx X413 (z := (5 : Int32)) d2_11 A0 rfl ?_
      refine o_icmpNo cx X413 d2_12 (by decide) ?_
      refine o_iloadN cx X413 d2_15 rfl ?_
      refine o_ifYes cx X413 37 d2_16 (by decide) (by decide) (by decide) ?_
      refine o_aloadN cx X413 d2_37 rfl rfl ?_
      refine o_iloadN cx X413 d2_38 rfl ?_
      refine o_ldB cx X413 (v := (.int b3)) d2_39 A0 3 (by decide) rfl rfl ?_
      refine o_aloadN cx X413 d2_40 rfl rfl ?_
      refine o_iloadN cx X413 d2_41 rfl ?_
      refine o_ldB cx X413 (v := (.int b0)) d2_42 A0 0 (by decide) rfl rfl ?_
      by_cases hc416 : b3 = b0
      · refine o_icmpNo cx X413 d2_43 (teq hc416).2 ?_
        obtain rfl : b0 = b3 := hc416.symm
        refine o_iinc cx X413 (z := (1 : Int32)) (Ls' := #[.val (.ref aa), .val (.ref b367), .val (.int (1 : Int32)), .val (.int (3 : Int32))]) d2_46 rfl rfl rfl ?_
        refine o_aloadN cx X413 d2_49 rfl rfl ?_
        refine o_iloadN cx X413 d2_50 rfl ?_
        refine o_iloadN cx X413 d2_51 rfl ?_
        refine o_stI cx X413 d2_52 A372 3 (by decide) rfl (Nat.le_of_ble_eq_true rfl) ge374 fun T417 h419 X418 W420 A372 => ?_
        have A0 := A0.other W420 ne_aa_b367
        have KK := KK.wr W420 (Or.inr sz_b367)
        have A372 : own_Ar Z h419 b367 .int [(.int (0 : Int32)), (.int (1 : Int32)), (.int (0 : Int32)), (.int (1 : Int32)), (.int (0 : Int32))] := A372
        refine o_iinc cx X418 (z := (4 : Int32)) (Ls' := #[.val (.ref aa), .val (.ref b367), .val (.int (1 : Int32)), .val (.int (4 : Int32))]) d2_53 rfl rfl rfl ?_
        refine o_goto cx X418 9 d2_56 (by decide) (by decide) ?_
        refine o_iloadN cx X418 d2_9 rfl ?_
        refine o_aloadN cx X418 d2_10 rfl rfl ?_
        refine o_len cx X418 (z := (5 : Int32)) d2_11 A0 rfl ?_
        refine o_icmpNo cx X418 d2_12 (by decide) ?_
        refine o_iloadN cx X418 d2_15 rfl ?_
        refine o_ifNo cx X418 d2_16 (by decide) ?_
        refine o_aloadN cx X418 d2_19 rfl rfl ?_
        refine o_iloadN cx X418 d2_20 rfl ?_
        refine o_ldB cx X418 (v := (.int b4)) d2_21 A0 4 (by decide) rfl rfl ?_
        refine o_aloadN cx X418 d2_22 rfl rfl ?_
        refine o_iloadN cx X418 d2_23 rfl ?_
        refine o_ldB cx X418 (v := (.int b0)) d2_24 A0 1 (by decide) rfl rfl ?_
        by_cases hc421 : b4 = b0
        · refine o_icmpYes cx X418 37 d2_25 (teq hc421).1 (by decide) (by decide) ?_
          obtain rfl : b0 = b4 := hc421.symm
          refine o_aloadN cx X418 d2_37 rfl rfl ?_
          refine o_iloadN cx X418 d2_38 rfl ?_
          refine o_ldB cx X418 (v := (.int b0)) d2_39 A0 4 (by decide) rfl rfl ?_
          refine o_aloadN cx X418 d2_40 rfl rfl ?_
          refine o_iloadN cx X418 d2_41 rfl ?_
          refine o_ldB cx X418 (v := (.int b0)) d2_42 A0 1 (by decide) rfl rfl ?_
          refine o_icmpNo cx X418 d2_43 (teq rfl).2 ?_
          refine o_iinc cx X418 (z := (2 : Int32)) (Ls' := #[.val (.ref aa), .val (.ref b367), .val (.int (2 : Int32)), .val (.int (4 : Int32))]) d2_46 rfl rfl rfl ?_
          refine o_aloadN cx X418 d2_49 rfl rfl ?_
          refine o_iloadN cx X418 d2_50 rfl ?_
          refine o_iloadN cx X418 d2_51 rfl ?_
          refine o_stI cx X418 d2_52 A372 4 (by decide) rfl (Nat.le_of_ble_eq_true rfl) ge374 fun T422 h424 X423 W425 A372 => ?_
          have A0 := A0.other W425 ne_aa_b367
          have KK := KK.wr W425 (Or.inr sz_b367)
          have A372 : own_Ar Z h424 b367 .int [(.int (0 : Int32)), (.int (1 : Int32)), (.int (0 : Int32)), (.int (1 : Int32)), (.int (2 : Int32))] := A372
          refine o_iinc cx X423 (z := (5 : Int32)) (Ls' := #[.val (.ref aa), .val (.ref b367), .val (.int (2 : Int32)), .val (.int (5 : Int32))]) d2_53 rfl rfl rfl ?_
          refine o_goto cx X423 9 d2_56 (by decide) (by decide) ?_
          refine o_iloadN cx X423 d2_9 rfl ?_
          refine o_aloadN cx X423 d2_10 rfl rfl ?_
          refine o_len cx X423 (z := (5 : Int32)) d2_11 A0 rfl ?_
          refine o_icmpYes cx X423 59 d2_12 (by decide) (by decide) (by decide) ?_
          refine o_aloadN cx X423 d2_59 rfl rfl ?_
          have nn0 : ¬ b0 = b2 := fun q => hc380 (Eq.symm q)
          have et0 : own_b1 b0 = (0 : Int32) := by simp [own_b1, own_i, hc380, nn0]
          have et1 : own_b2 b0 b0 = (1 : Int32) := by simp [own_b2, own_i, hc380, nn0]
          have et2 : own_b3 b0 b0 b2 = (0 : Int32) := by simp [own_b3, own_i, hc380, nn0]
          have et3 : own_b4 b0 b0 b2 b0 = (1 : Int32) := by simp [own_b4, own_i, hc380, nn0]
          have et4 : own_b5 b0 b0 b2 b0 b0 = (2 : Int32) := by simp [own_b5, own_i, hc380, nn0]
          exact o_retA cx X423 d2_60 rfl rfl rfl ⟨b367, rfl, KK, sz_b367, ge374, by rw [et0, et1, et2, et3, et4]; exact A372⟩ (by decide) (by decide)
        · refine o_icmpNo cx X418 d2_25 (feq hc421).1 ?_
          refine o_aloadN cx X418 d2_28 rfl rfl ?_
          refine o_iloadN cx X418 d2_29 rfl ?_
          refine o_iconst cx X418 (z := (1 : Int32)) d2_30 rfl ?_
          refine o_isub cx X418 (z := (0 : Int32)) d2_31 rfl ?_
          refine o_ldI cx X418 (v := (.int (0 : Int32))) d2_32 A372 0 (by decide) rfl rfl ?_
          refine o_istoreN cx X418 (Ls' := #[.val (.ref aa), .val (.ref b367), .val (.int (0 : Int32)), .val (.int (4 : Int32))]) d2_33 rfl ?_
          refine o_goto cx X418 15 d2_34 (by decide) (by decide) ?_
          refine o_iloadN cx X418 d2_15 rfl ?_
          refine o_ifYes cx X418 37 d2_16 (by decide) (by decide) (by decide) ?_
          refine o_aloadN cx X418 d2_37 rfl rfl ?_
          refine o_iloadN cx X418 d2_38 rfl ?_
          refine o_ldB cx X418 (v := (.int b4)) d2_39 A0 4 (by decide) rfl rfl ?_
          refine o_aloadN cx X418 d2_40 rfl rfl ?_
          refine o_iloadN cx X418 d2_41 rfl ?_
          refine o_ldB cx X418 (v := (.int b0)) d2_42 A0 0 (by decide) rfl rfl ?_
          refine o_icmpYes cx X418 49 d2_43 (feq hc421).2 (by decide) (by decide) ?_
          refine o_aloadN cx X418 d2_49 rfl rfl ?_
          refine o_iloadN cx X418 d2_50 rfl ?_
          refine o_iloadN cx X418 d2_51 rfl ?_
          refine o_stI cx X418 d2_52 A372 4 (by decide) rfl (Nat.le_of_ble_eq_true rfl) ge374 fun T426 h428 X427 W429 A372 => ?_
          have A0 := A0.other W429 ne_aa_b367
          have KK := KK.wr W429 (Or.inr sz_b367)
          have A372 : own_Ar Z h428 b367 .int [(.int (0 : Int32)), (.int (1 : Int32)), (.int (0 : Int32)), (.int (1 : Int32)), (.int (0 : Int32))] := A372
          refine o_iinc cx X427 (z := (5 : Int32)) (Ls' := #[.val (.ref aa), .val (.ref b367), .val (.int (0 : Int32)), .val (.int (5 : Int32))]) d2_53 rfl rfl rfl ?_
          refine o_goto cx X427 9 d2_56 (by decide) (by decide) ?_
          refine o_iloadN cx X427 d2_9 rfl ?_
          refine o_aloadN cx X427 d2_10 rfl rfl ?_
          refine o_len cx X427 (z := (5 : Int32)) d2_11 A0 rfl ?_
          refine o_icmpYes cx X427 59 d2_12 (by decide) (by decide) (by decide) ?_
          refine o_aloadN cx X427 d2_59 rfl rfl ?_
          have nn0 : ¬ b0 = b2 := fun q => hc380 (Eq.symm q)
          have nn1 : ¬ b0 = b4 := fun q => hc421 (Eq.symm q)
          have et0 : own_b1 b0 = (0 : Int32) := by simp [own_b1, own_i, hc380, nn0, hc421, nn1]
          have et1 : own_b2 b0 b0 = (1 : Int32) := by simp [own_b2, own_i, hc380, nn0, hc421, nn1]
          have et2 : own_b3 b0 b0 b2 = (0 : Int32) := by simp [own_b3, own_i, hc380, nn0, hc421, nn1]
          have et3 : own_b4 b0 b0 b2 b0 = (1 : Int32) := by simp [own_b4, own_i, hc380, nn0, hc421, nn1]
          have et4 : own_b5 b0 b0 b2 b0 b4 = (0 : Int32) := by simp [own_b5, own_i, hc380, nn0, hc421, nn1]
          exact o_retA cx X427 d2_60 rfl rfl rfl ⟨b367, rfl, KK, sz_b367, ge374, by rw [et0, et1, et2, et3, et4]; exact A372⟩ (by decide) (by decide)
      · refine o_icmpYes cx X413 49 d2_43 (feq hc416).2 (by decide) (by decide) ?_
        refine o_aloadN cx X413 d2_49 rfl rfl ?_
        refine o_iloadN cx X413 d2_50 rfl ?_
        refine o_iloadN cx X413 d2_51 rfl ?_
        refine o_stI cx X413 d2_52 A372 3 (by decide) rfl (Nat.le_of_ble_eq_true rfl) ge374 fun T430 h432 X431 W433 A372 => ?_
        have A0 := A0.other W433 ne_aa_b367
        have KK := KK.wr W433 (Or.inr sz_b367)
        have A372 : own_Ar Z h432 b367 .int [(.int (0 : Int32)), (.int (1 : Int32)), (.int (0 : Int32)), (.int (0 : Int32)), (.int (0 : Int32))] := A372
        refine o_iinc cx X431 (z := (4 : Int32)) (Ls' := #[.val (.ref aa), .val (.ref b367), .val (.int (0 : Int32)), .val (.int (4 : Int32))]) d2_53 rfl rfl rfl ?_
        refine o_goto cx X431 9 d2_56 (by decide) (by decide) ?_
        refine o_iloadN cx X431 d2_9 rfl ?_
        refine o_aloadN cx X431 d2_10 rfl rfl ?_
        refine o_len cx X431 (z := (5 : Int32)) d2_11 A0 rfl ?_
        refine o_icmpNo cx X431 d2_12 (by decide) ?_
        refine o_iloadN cx X431 d2_15 rfl ?_
        refine o_ifYes cx X431 37 d2_16 (by decide) (by decide) (by decide) ?_
        refine o_aloadN cx X431 d2_37 rfl rfl ?_
        refine o_iloadN cx X431 d2_38 rfl ?_
        refine o_ldB cx X431 (v := (.int b4)) d2_39 A0 4 (by decide) rfl rfl ?_
        refine o_aloadN cx X431 d2_40 rfl rfl ?_
        refine o_iloadN cx X431 d2_41 rfl ?_
        refine o_ldB cx X431 (v := (.int b0)) d2_42 A0 0 (by decide) rfl rfl ?_
        by_cases hc434 : b4 = b0
        · refine o_icmpNo cx X431 d2_43 (teq hc434).2 ?_
          obtain rfl : b0 = b4 := hc434.symm
          refine o_iinc cx X431 (z := (1 : Int32)) (Ls' := #[.val (.ref aa), .val (.ref b367), .val (.int (1 : Int32)), .val (.int (4 : Int32))]) d2_46 rfl rfl rfl ?_
          refine o_aloadN cx X431 d2_49 rfl rfl ?_
          refine o_iloadN cx X431 d2_50 rfl ?_
          refine o_iloadN cx X431 d2_51 rfl ?_
          refine o_stI cx X431 d2_52 A372 4 (by decide) rfl (Nat.le_of_ble_eq_true rfl) ge374 fun T435 h437 X436 W438 A372 => ?_
          have A0 := A0.other W438 ne_aa_b367
          have KK := KK.wr W438 (Or.inr sz_b367)
          have A372 : own_Ar Z h437 b367 .int [(.int (0 : Int32)), (.int (1 : Int32)), (.int (0 : Int32)), (.int (0 : Int32)), (.int (1 : Int32))] := A372
          refine o_iinc cx X436 (z := (5 : Int32)) (Ls' := #[.val (.ref aa), .val (.ref b367), .val (.int (1 : Int32)), .val (.int (5 : Int32))]) d2_53 rfl rfl rfl ?_
          refine o_goto cx X436 9 d2_56 (by decide) (by decide) ?_
          refine o_iloadN cx X436 d2_9 rfl ?_
          refine o_aloadN cx X436 d2_10 rfl rfl ?_
          refine o_len cx X436 (z := (5 : Int32)) d2_11 A0 rfl ?_
          refine o_icmpYes cx X436 59 d2_12 (by decide) (by decide) (by decide) ?_
          refine o_aloadN cx X436 d2_59 rfl rfl ?_
          have nn0 : ¬ b0 = b2 := fun q => hc380 (Eq.symm q)
          have nn1 : ¬ b0 = b3 := fun q => hc416 (Eq.symm q)
          have et0 : own_b1 b0 = (0 : Int32) := by simp [own_b1, own_i, hc380, nn0, hc416, nn1]
          have et1 : own_b2 b0 b0 = (1 : Int32) := by simp [own_b2, own_i, hc380, nn0, hc416, nn1]
          have et2 : own_b3 b0 b0 b2 = (0 : Int32) := by simp [own_b3, own_i, hc380, nn0, hc416, nn1]
          have et3 : own_b4 b0 b0 b2 b3 = (0 : Int32) := by simp [own_b4, own_i, hc380, nn0, hc416, nn1]
          have et4 : own_b5 b0 b0 b2 b3 b0 = (1 : Int32) := by simp [own_b5, own_i, hc380, nn0, hc416, nn1]
          exact o_retA cx X436 d2_60 rfl rfl rfl ⟨b367, rfl, KK, sz_b367, ge374, by rw [et0, et1, et2, et3, et4]; exact A372⟩ (by decide) (by decide)
        · refine o_icmpYes cx X431 49 d2_43 (feq hc434).2 (by decide) (by decide) ?_
          refine o_aloadN cx X431 d2_49 rfl rfl ?_
          refine o_iloadN cx X431 d2_50 rfl ?_
          refine o_iloadN cx X431 d2_51 rfl ?_
          refine o_stI cx X431 d2_52 A372 4 (by decide) rfl (Nat.le_of_ble_eq_true rfl) ge374 fun T439 h441 X440 W442 A372 => ?_
          have A0 := A0.other W442 ne_aa_b367
          have KK := KK.wr W442 (Or.inr sz_b367)
          have A372 : own_Ar Z h441 b367 .int [(.int (0 : Int32)), (.int (1 : Int32)), (.int (0 : Int32)), (.int (0 : Int32)), (.int (0 : Int32))] := A372
          refine o_iinc cx X440 (z := (5 : Int32)) (Ls' := #[.val (.ref aa), .val (.ref b367), .val (.int (0 : Int32)), .val (.int (5 : Int32))]) d2_53 rfl rfl rfl ?_
          refine o_goto cx X440 9 d2_56 (by decide) (by decide) ?_
          refine o_iloadN cx X440 d2_9 rfl ?_
          refine o_aloadN cx X440 d2_10 rfl rfl ?_
          refine o_len cx X440 (z := (5 : Int32)) d2_11 A0 rfl ?_
          refine o_icmpYes cx X440 59 d2_12 (by decide) (by decide) (by decide) ?_
          refine o_aloadN cx X440 d2_59 rfl rfl ?_
          have nn0 : ¬ b0 = b2 := fun q => hc380 (Eq.symm q)
          have nn1 : ¬ b0 = b3 := fun q => hc416 (Eq.symm q)
          have nn2 : ¬ b0 = b4 := fun q => hc434 (Eq.symm q)
          have et0 : own_b1 b0 = (0 : Int32) := by simp [own_b1, own_i, hc380, nn0, hc416, nn1, hc434, nn2]
          have et1 : own_b2 b0 b0 = (1 : Int32) := by simp [own_b2, own_i, hc380, nn0, hc416, nn1, hc434, nn2]
          have et2 : own_b3 b0 b0 b2 = (0 : Int32) := by simp [own_b3, own_i, hc380, nn0, hc416, nn1, hc434, nn2]
          have et3 : own_b4 b0 b0 b2 b3 = (0 : Int32) := by simp [own_b4, own_i, hc380, nn0, hc416, nn1, hc434, nn2]
          have et4 : own_b5 b0 b0 b2 b3 b4 = (0 : Int32) := by simp [own_b5, own_i, hc380, nn0, hc416, nn1, hc434, nn2]
          exact o_retA cx X440 d2_60 rfl rfl rfl ⟨b367, rfl, KK, sz_b367, ge374, by rw [et0, et1, et2, et3, et4]; exact A372⟩ (by decide) (by decide)
  · refine o_icmpYes cx X369 49 d2_43 (feq hc375).2 (by decide) (by decide) ?_
    refine o_aloadN cx X369 d2_49 rfl rfl ?_
    refine o_iloadN cx X369 d2_50 rfl ?_
    refine o_iloadN cx X369 d2_51 rfl ?_
    refine o_stI cx X369 d2_52 A372 1 (by decide) rfl (Nat.le_of_ble_eq_true rfl) ge374 fun T443 h445 X444 W446 A372 => ?_
    have A0 := A0.other W446 ne_aa_b367
    have KK := KK.wr W446 (Or.inr sz_b367)
    have A372 : own_Ar Z h445 b367 .int [(.int (0 : Int32)), (.int (0 : Int32)), (.int (0 : Int32)), (.int (0 : Int32)), (.int (0 : Int32))] := A372
    refine o_iinc cx X444 (z := (2 : Int32)) (Ls' := #[.val (.ref aa), .val (.ref b367), .val (.int (0 : Int32)), .val (.int (2 : Int32))]) d2_53 rfl rfl rfl ?_
    refine o_goto cx X444 9 d2_56 (by decide) (by decide) ?_
    refine o_iloadN cx X444 d2_9 rfl ?_
    refine o_aloadN cx X444 d2_10 rfl rfl ?_
    refine o_len cx X444 (z := (5 : Int32)) d2_11 A0 rfl ?_
    refine o_icmpNo cx X444 d2_12 (by decide) ?_
    refine o_iloadN cx X444 d2_15 rfl ?_
    refine o_ifYes cx X444 37 d2_16 (by decide) (by decide) (by decide) ?_
    refine o_aloadN cx X444 d2_37 rfl rfl ?_
    refine o_iloadN cx X444 d2_38 rfl ?_
    refine o_ldB cx X444 (v := (.int b2)) d2_39 A0 2 (by decide) rfl rfl ?_
    refine o_aloadN cx X444 d2_40 rfl rfl ?_
    refine o_iloadN cx X444 d2_41 rfl ?_
    refine o_ldB cx X444 (v := (.int b0)) d2_42 A0 0 (by decide) rfl rfl ?_
    by_cases hc447 : b2 = b0
    · refine o_icmpNo cx X444 d2_43 (teq hc447).2 ?_
      obtain rfl : b0 = b2 := hc447.symm
      refine o_iinc cx X444 (z := (1 : Int32)) (Ls' := #[.val (.ref aa), .val (.ref b367), .val (.int (1 : Int32)), .val (.int (2 : Int32))]) d2_46 rfl rfl rfl ?_
      refine o_aloadN cx X444 d2_49 rfl rfl ?_
      refine o_iloadN cx X444 d2_50 rfl ?_
      refine o_iloadN cx X444 d2_51 rfl ?_
      refine o_stI cx X444 d2_52 A372 2 (by decide) rfl (Nat.le_of_ble_eq_true rfl) ge374 fun T448 h450 X449 W451 A372 => ?_
      have A0 := A0.other W451 ne_aa_b367
      have KK := KK.wr W451 (Or.inr sz_b367)
      have A372 : own_Ar Z h450 b367 .int [(.int (0 : Int32)), (.int (0 : Int32)), (.int (1 : Int32)), (.int (0 : Int32)), (.int (0 : Int32))] := A372
      refine o_iinc cx X449 (z := (3 : Int32)) (Ls' := #[.val (.ref aa), .val (.ref b367), .val (.int (1 : Int32)), .val (.int (3 : Int32))]) d2_53 rfl rfl rfl ?_
      refine o_goto cx X449 9 d2_56 (by decide) (by decide) ?_
      refine o_iloadN cx X449 d2_9 rfl ?_
      refine o_aloadN cx X449 d2_10 rfl rfl ?_
      refine o_len cx X449 (z := (5 : Int32)) d2_11 A0 rfl ?_
      refine o_icmpNo cx X449 d2_12 (by decide) ?_
      refine o_iloadN cx X449 d2_15 rfl ?_
      refine o_ifNo cx X449 d2_16 (by decide) ?_
      refine o_aloadN cx X449 d2_19 rfl rfl ?_
      refine o_iloadN cx X449 d2_20 rfl ?_
      refine o_ldB cx X449 (v := (.int b3)) d2_21 A0 3 (by decide) rfl rfl ?_
      refine o_aloadN cx X449 d2_22 rfl rfl ?_
      refine o_iloadN cx X449 d2_23 rfl ?_
      refine o_ldB cx X449 (v := (.int b1)) d2_24 A0 1 (by decide) rfl rfl ?_
      by_cases hc452 : b3 = b1
      · refine o_icmpYes cx X449 37 d2_25 (teq hc452).1 (by decide) (by decide) ?_
        obtain rfl : b1 = b3 := hc452.symm
        refine o_aloadN cx X449 d2_37 rfl rfl ?_
        refine o_iloadN cx X449 d2_38 rfl ?_
        refine o_ldB cx X449 (v := (.int b1)) d2_39 A0 3 (by decide) rfl rfl ?_
        refine o_aloadN cx X449 d2_40 rfl rfl ?_
        refine o_iloadN cx X449 d2_41 rfl ?_
        refine o_ldB cx X449 (v := (.int b1)) d2_42 A0 1 (by decide) rfl rfl ?_
        refine o_icmpNo cx X449 d2_43 (teq rfl).2 ?_
        refine o_iinc cx X449 (z := (2 : Int32)) (Ls' := #[.val (.ref aa), .val (.ref b367), .val (.int (2 : Int32)), .val (.int (3 : Int32))]) d2_46 rfl rfl rfl ?_
        refine o_aloadN cx X449 d2_49 rfl rfl ?_
        refine o_iloadN cx X449 d2_50 rfl ?_
        refine o_iloadN cx X449 d2_51 rfl ?_
        refine o_stI cx X449 d2_52 A372 3 (by decide) rfl (Nat.le_of_ble_eq_true rfl) ge374 fun T453 h455 X454 W456 A372 => ?_
        have A0 := A0.other W456 ne_aa_b367
        have KK := KK.wr W456 (Or.inr sz_b367)
        have A372 : own_Ar Z h455 b367 .int [(.int (0 : Int32)), (.int (0 : Int32)), (.int (1 : Int32)), (.int (2 : Int32)), (.int (0 : Int32))] := A372
        refine o_iinc cx X454 (z := (4 : Int32)) (Ls' := #[.val (.ref aa), .val (.ref b367), .val (.int (2 : Int32)), .val (.int (4 : Int32))]) d2_53 rfl rfl rfl ?_
        refine o_goto cx X454 9 d2_56 (by decide) (by decide) ?_
        refine o_iloadN cx X454 d2_9 rfl ?_
        refine o_aloadN cx X454 d2_10 rfl rfl ?_
        refine o_len cx X454 (z := (5 : Int32)) d2_11 A0 rfl ?_
        refine o_icmpNo cx X454 d2_12 (by decide) ?_
        refine o_iloadN cx X454 d2_15 rfl ?_
        refine o_ifNo cx X454 d2_16 (by decide) ?_
        refine o_aloadN cx X454 d2_19 rfl rfl ?_
        refine o_iloadN cx X454 d2_20 rfl ?_
        refine o_ldB cx X454 (v := (.int b4)) d2_21 A0 4 (by decide) rfl rfl ?_
        refine o_aloadN cx X454 d2_22 rfl rfl ?_
        refine o_iloadN cx X454 d2_23 rfl ?_
        refine o_ldB cx X454 (v := (.int b0)) d2_24 A0 2 (by decide) rfl rfl ?_
        by_cases hc457 : b4 = b0
        · refine o_icmpYes cx X454 37 d2_25 (teq hc457).1 (by decide) (by decide) ?_
          obtain rfl : b0 = b4 := hc457.symm
          refine o_aloadN cx X454 d2_37 rfl rfl ?_
          refine o_iloadN cx X454 d2_38 rfl ?_
          refine o_ldB cx X454 (v := (.int b0)) d2_39 A0 4 (by decide) rfl rfl ?_
          refine o_aloadN cx X454 d2_40 rfl rfl ?_
          refine o_iloadN cx X454 d2_41 rfl ?_
          refine o_ldB cx X454 (v := (.int b0)) d2_42 A0 2 (by decide) rfl rfl ?_
          refine o_icmpNo cx X454 d2_43 (teq rfl).2 ?_
          refine o_iinc cx X454 (z := (3 : Int32)) (Ls' := #[.val (.ref aa), .val (.ref b367), .val (.int (3 : Int32)), .val (.int (4 : Int32))]) d2_46 rfl rfl rfl ?_
          refine o_aloadN cx X454 d2_49 rfl rfl ?_
          refine o_iloadN cx X454 d2_50 rfl ?_
          refine o_iloadN cx X454 d2_51 rfl ?_
          refine o_stI cx X454 d2_52 A372 4 (by decide) rfl (Nat.le_of_ble_eq_true rfl) ge374 fun T458 h460 X459 W461 A372 => ?_
          have A0 := A0.other W461 ne_aa_b367
          have KK := KK.wr W461 (Or.inr sz_b367)
          have A372 : own_Ar Z h460 b367 .int [(.int (0 : Int32)), (.int (0 : Int32)), (.int (1 : Int32)), (.int (2 : Int32)), (.int (3 : Int32))] := A372
          refine o_iinc cx X459 (z := (5 : Int32)) (Ls' := #[.val (.ref aa), .val (.ref b367), .val (.int (3 : Int32)), .val (.int (5 : Int32))]) d2_53 rfl rfl rfl ?_
          refine o_goto cx X459 9 d2_56 (by decide) (by decide) ?_
          refine o_iloadN cx X459 d2_9 rfl ?_
          refine o_aloadN cx X459 d2_10 rfl rfl ?_
          refine o_len cx X459 (z := (5 : Int32)) d2_11 A0 rfl ?_
          refine o_icmpYes cx X459 59 d2_12 (by decide) (by decide) (by decide) ?_
          refine o_aloadN cx X459 d2_59 rfl rfl ?_
          have nn0 : ¬ b0 = b1 := fun q => hc375 (Eq.symm q)
          have et0 : own_b1 b0 = (0 : Int32) := by simp [own_b1, own_i, hc375, nn0]
          have et1 : own_b2 b0 b1 = (0 : Int32) := by simp [own_b2, own_i, hc375, nn0]
          have et2 : own_b3 b0 b1 b0 = (1 : Int32) := by simp [own_b3, own_i, hc375, nn0]
          have et3 : own_b4 b0 b1 b0 b1 = (2 : Int32) := by simp [own_b4, own_i, hc375, nn0]
          have et4 : own_b5 b0 b1 b0 b1 b0 = (3 : Int32) := by simp [own_b5, own_i, hc375, nn0]
          exact o_retA cx X459 d2_60 rfl rfl rfl ⟨b367, rfl, KK, sz_b367, ge374, by rw [et0, et1, et2, et3, et4]; exact A372⟩ (by decide) (by decide)
        · refine o_icmpNo cx X454 d2_25 (feq hc457).1 ?_
          refine o_aloadN cx X454 d2_28 rfl rfl ?_
          refine o_iloadN cx X454 d2_29 rfl ?_
          refine o_iconst cx X454 (z := (1 : Int32)) d2_30 rfl ?_
          refine o_isub cx X454 (z := (1 : Int32)) d2_31 rfl ?_
          refine o_ldI cx X454 (v := (.int (0 : Int32))) d2_32 A372 1 (by decide) rfl rfl ?_
          refine o_istoreN cx X454 (Ls' := #[.val (.ref aa), .val (.ref b367), .val (.int (0 : Int32)), .val (.int (4 : Int32))]) d2_33 rfl ?_
          refine o_goto cx X454 15 d2_34 (by decide) (by decide) ?_
          refine o_iloadN cx X454 d2_15 rfl ?_
          refine o_ifYes cx X454 37 d2_16 (by decide) (by decide) (by decide) ?_
          refine o_aloadN cx X454 d2_37 rfl rfl ?_
          refine o_iloadN cx X454 d2_38 rfl ?_
          refine o_ldB cx X454 (v := (.int b4)) d2_39 A0 4 (by decide) rfl rfl ?_
          refine o_aloadN cx X454 d2_40 rfl rfl ?_
          refine o_iloadN cx X454 d2_41 rfl ?_
          refine o_ldB cx X454 (v := (.int b0)) d2_42 A0 0 (by decide) rfl rfl ?_
          refine o_icmpYes cx X454 49 d2_43 (feq hc457).2 (by decide) (by decide) ?_
          refine o_aloadN cx X454 d2_49 rfl rfl ?_
          refine o_iloadN cx X454 d2_50 rfl ?_
          refine o_iloadN cx X454 d2_51 rfl ?_
          refine o_stI cx X454 d2_52 A372 4 (by decide) rfl (Nat.le_of_ble_eq_true rfl) ge374 fun T462 h464 X463 W465 A372 => ?_
          have A0 := A0.other W465 ne_aa_b367
          have KK := KK.wr W465 (Or.inr sz_b367)
          have A372 : own_Ar Z h464 b367 .int [(.int (0 : Int32)), (.int (0 : Int32)), (.int (1 : Int32)), (.int (2 : Int32)), (.int (0 : Int32))] := A372
          refine o_iinc cx X463 (z := (5 : Int32)) (Ls' := #[.val (.ref aa), .val (.ref b367), .val (.int (0 : Int32)), .val (.int (5 : Int32))]) d2_53 rfl rfl rfl ?_
          refine o_goto cx X463 9 d2_56 (by decide) (by decide) ?_
          refine o_iloadN cx X463 d2_9 rfl ?_
          refine o_aloadN cx X463 d2_10 rfl rfl ?_
          refine o_len cx X463 (z := (5 : Int32)) d2_11 A0 rfl ?_
          refine o_icmpYes cx X463 59 d2_12 (by decide) (by decide) (by decide) ?_
          refine o_aloadN cx X463 d2_59 rfl rfl ?_
          have nn0 : ¬ b0 = b1 := fun q => hc375 (Eq.symm q)
          have nn1 : ¬ b0 = b4 := fun q => hc457 (Eq.symm q)
          have et0 : own_b1 b0 = (0 : Int32) := by simp [own_b1, own_i, hc375, nn0, hc457, nn1]
          have et1 : own_b2 b0 b1 = (0 : Int32) := by simp [own_b2, own_i, hc375, nn0, hc457, nn1]
          have et2 : own_b3 b0 b1 b0 = (1 : Int32) := by simp [own_b3, own_i, hc375, nn0, hc457, nn1]
          have et3 : own_b4 b0 b1 b0 b1 = (2 : Int32) := by simp [own_b4, own_i, hc375, nn0, hc457, nn1]
          have et4 : own_b5 b0 b1 b0 b1 b4 = (0 : Int32) := by simp [own_b5, own_i, hc375, nn0, hc457, nn1]
          exact o_retA cx X463 d2_60 rfl rfl rfl ⟨b367, rfl, KK, sz_b367, ge374, by rw [et0, et1, et2, et3, et4]; exact A372⟩ (by decide) (by decide)
      · refine o_icmpNo cx X449 d2_25 (feq hc452).1 ?_
        refine o_aloadN cx X449 d2_28 rfl rfl ?_
        refine o_iloadN cx X449 d2_29 rfl ?_
        refine o_iconst cx X449 (z := (1 : Int32)) d2_30 rfl ?_
        refine o_isub cx X449 (z := (0 : Int32)) d2_31 rfl ?_
        refine o_ldI cx X449 (v := (.int (0 : Int32))) d2_32 A372 0 (by decide) rfl rfl ?_
        refine o_istoreN cx X449 (Ls' := #[.val (.ref aa), .val (.ref b367), .val (.int (0 : Int32)), .val (.int (3 : Int32))]) d2_33 rfl ?_
        refine o_goto cx X449 15 d2_34 (by decide) (by decide) ?_
        refine o_iloadN cx X449 d2_15 rfl ?_
        refine o_ifYes cx X449 37 d2_16 (by decide) (by decide) (by decide) ?_
        refine o_aloadN cx X449 d2_37 rfl rfl ?_
        refine o_iloadN cx X449 d2_38 rfl ?_
        refine o_ldB cx X449 (v := (.int b3)) d2_39 A0 3 (by decide) rfl rfl ?_
        refine o_aloadN cx X449 d2_40 rfl rfl ?_
        refine o_iloadN cx X449 d2_41 rfl ?_
        refine o_ldB cx X449 (v := (.int b0)) d2_42 A0 0 (by decide) rfl rfl ?_
        by_cases hc466 : b3 = b0
        · refine o_icmpNo cx X449 d2_43 (teq hc466).2 ?_
          obtain rfl : b0 = b3 := hc466.symm
          refine o_iinc cx X449 (z := (1 : Int32)) (Ls' := #[.val (.ref aa), .val (.ref b367), .val (.int (1 : Int32)), .val (.int (3 : Int32))]) d2_46 rfl rfl rfl ?_
          refine o_aloadN cx X449 d2_49 rfl rfl ?_
          refine o_iloadN cx X449 d2_50 rfl ?_
          refine o_iloadN cx X449 d2_51 rfl ?_
          refine o_stI cx X449 d2_52 A372 3 (by decide) rfl (Nat.le_of_ble_eq_true rfl) ge374 fun T467 h469 X468 W470 A372 => ?_
          have A0 := A0.other W470 ne_aa_b367
          have KK := KK.wr W470 (Or.inr sz_b367)
          have A372 : own_Ar Z h469 b367 .int [(.int (0 : Int32)), (.int (0 : Int32)), (.int (1 : Int32)), (.int (1 : Int32)), (.int (0 : Int32))] := A372
          refine o_iinc cx X468 (z := (4 : Int32)) (Ls' := #[.val (.ref aa), .val (.ref b367), .val (.int (1 : Int32)), .val (.int (4 : Int32))]) d2_53 rfl rfl rfl ?_
          refine o_goto cx X468 9 d2_56 (by decide) (by decide) ?_
          refine o_iloadN cx X468 d2_9 rfl ?_
          refine o_aloadN cx X468 d2_10 rfl rfl ?_
          refine o_len cx X468 (z := (5 : Int32)) d2_11 A0 rfl ?_
          refine o_icmpNo cx X468 d2_12 (by decide) ?_
          refine o_iloadN cx X468 d2_15 rfl ?_
          refine o_ifNo cx X468 d2_16 (by decide) ?_
          refine o_aloadN cx X468 d2_19 rfl rfl ?_
          refine o_iloadN cx X468 d2_20 rfl ?_
          refine o_ldB cx X468 (v := (.int b4)) d2_21 A0 4 (by decide) rfl rfl ?_
          refine o_aloadN cx X468 d2_22 rfl rfl ?_
          refine o_iloadN cx X468 d2_23 rfl ?_
          refine o_ldB cx X468 (v := (.int b1)) d2_24 A0 1 (by decide) rfl rfl ?_
          by_cases hc471 : b4 = b1
          · refine o_icmpYes cx X468 37 d2_25 (teq hc471).1 (by decide) (by decide) ?_
            obtain rfl : b1 = b4 := hc471.symm
            refine o_aloadN cx X468 d2_37 rfl rfl ?_
            refine o_iloadN cx X468 d2_38 rfl ?_
            refine o_ldB cx X468 (v := (.int b1)) d2_39 A0 4 (by decide) rfl rfl ?_
            refine o_aloadN cx X468 d2_40 rfl rfl ?_
            refine o_iloadN cx X468 d2_41 rfl ?_
            refine o_ldB cx X468 (v := (.int b1)) d2_42 A0 1 (by decide) rfl rfl ?_
            refine o_icmpNo cx X468 d2_43 (teq rfl).2 ?_
            refine o_iinc cx X468 (z := (2 : Int32)) (Ls' := #[.val (.ref aa), .val (.ref b367), .val (.int (2 : Int32)), .val (.int (4 : Int32))]) d2_46 rfl rfl rfl ?_
            refine o_aloadN cx X468 d2_49 rfl rfl ?_
            refine o_iloadN cx X468 d2_50 rfl ?_
            refine o_iloadN cx X468 d2_51 rfl ?_
            refine o_stI cx X468 d2_52 A372 4 (by decide) rfl (Nat.le_of_ble_eq_true rfl) ge374 fun T472 h474 X473 W475 A372 => ?_
            have A0 := A0.other W475 ne_aa_b367
            have KK := KK.wr W475 (Or.inr sz_b367)
            have A372 : own_Ar Z h474 b367 .int [(.int (0 : Int32)), (.int (0 : Int32)), (.int (1 : Int32)), (.int (1 : Int32)), (.int (2 : Int32))] := A372
            refine o_iinc cx X473 (z := (5 : Int32)) (Ls' := #[.val (.ref aa), .val (.ref b367), .val (.int (2 : Int32)), .val (.int (5 : Int32))]) d2_53 rfl rfl rfl ?_
            refine o_goto cx X473 9 d2_56 (by decide) (by decide) ?_
            refine o_iloadN cx X473 d2_9 rfl ?_
            refine o_aloadN cx X473 d2_10 rfl rfl ?_
            refine o_len cx X473 (z := (5 : Int32)) d2_11 A0 rfl ?_
            refine o_icmpYes cx X473 59 d2_12 (by decide) (by decide) (by decide) ?_
            refine o_aloadN cx X473 d2_59 rfl rfl ?_
            have nn0 : ¬ b0 = b1 := fun q => hc375 (Eq.symm q)
            have nn1 : ¬ b1 = b0 := fun q => hc452 (Eq.symm q)
            have et0 : own_b1 b0 = (0 : Int32) := by simp [own_b1, own_i, hc375, nn0, hc452, nn1]
            have et1 : own_b2 b0 b1 = (0 : Int32) := by simp [own_b2, own_i, hc375, nn0, hc452, nn1]
            have et2 : own_b3 b0 b1 b0 = (1 : Int32) := by simp [own_b3, own_i, hc375, nn0, hc452, nn1]
            have et3 : own_b4 b0 b1 b0 b0 = (1 : Int32) := by simp [own_b4, own_i, hc375, nn0, hc452, nn1]
            have et4 : own_b5 b0 b1 b0 b0 b1 = (2 : Int32) := by simp [own_b5, own_i, hc375, nn0, hc452, nn1]
            exact o_retA cx X473 d2_60 rfl rfl rfl ⟨b367, rfl, KK, sz_b367, ge374, by rw [et0, et1, et2, et3, et4]; exact A372⟩ (by decide) (by decide)
          · refine o_icmpNo cx X468 d2_25 (feq hc471).1 ?_
            refine o_aloadN cx X468 d2_28 rfl rfl ?_
            refine o_iloadN cx X468 d2_29 rfl ?_
            refine o_iconst cx X468 (z := (1 : Int32)) d2_30 rfl ?_
            refine o_isub cx X468 (z := (0 : Int32)) d2_31 rfl ?_
            refine o_ldI cx X468 (v := (.int (0 : Int32))) d2_32 A372 0 (by decide) rfl rfl ?_
            refine o_istoreN cx X468 (Ls' := #[.val (.ref aa), .val (.ref b367), .val (.int (0 : Int32)), .val (.int (4 : Int32))]) d2_33 rfl ?_
            refine o_goto cx X468 15 d2_34 (by decide) (by decide) ?_
            refine o_iloadN cx X468 d2_15 rfl ?_
            refine o_ifYes cx X468 37 d2_16 (by decide) (by decide) (by decide) ?_
            refine o_aloadN cx X468 d2_37 rfl rfl ?_
            refine o_iloadN cx X468 d2_38 rfl ?_
            refine o_ldB cx X468 (v := (.int b4)) d2_39 A0 4 (by decide) rfl rfl ?_
            refine o_aloadN cx X468 d2_40 rfl rfl ?_
            refine o_iloadN cx X468 d2_41 rfl ?_
            refine o_ldB cx X468 (v := (.int b0)) d2_42 A0 0 (by decide) rfl rfl ?_
            by_cases hc476 : b4 = b0
            · refine o_icmpNo cx X468 d2_43 (teq hc476).2 ?_
              obtain rfl : b0 = b4 := hc476.symm
              refine o_iinc cx X468 (z := (1 : Int32)) (Ls' := #[.val (.ref aa), .val (.ref b367), .val (.int (1 : Int32)), .val (.int (4 : Int32))]) d2_46 rfl rfl rfl ?_
              refine o_aloadN cx X468 d2_49 rfl rfl ?_
              refine o_iloadN cx X468 d2_50 rfl ?_
              refine o_iloadN cx X468 d2_51 rfl ?_
              refine o_stI cx X468 d2_52 A372 4 (by decide) rfl (Nat.le_of_ble_eq_true rfl) ge374 fun T477 h479 X478 W480 A372 => ?_
              have A0 := A0.other W480 ne_aa_b367
              have KK := KK.wr W480 (Or.inr sz_b367)
              have A372 : own_Ar Z h479 b367 .int [(.int (0 : Int32)), (.int (0 : Int32)), (.int (1 : Int32)), (.int (1 : Int32)), (.int (1 : Int32))] := A372
              refine o_iinc cx X478 (z := (5 : Int32)) (Ls' := #[.val (.ref aa), .val (.ref b367), .val (.int (1 : Int32)), .val (.int (5 : Int32))]) d2_53 rfl rfl rfl ?_
              refine o_goto cx X478 9 d2_56 (by decide) (by decide) ?_
              refine o_iloadN cx X478 d2_9 rfl ?_
              refine o_aloadN cx X478 d2_10 rfl rfl ?_
              refine o_len cx X478 (z := (5 : Int32)) d2_11 A0 rfl ?_
              refine o_icmpYes cx X478 59 d2_12 (by decide) (by decide) (by decide) ?_
              refine o_aloadN cx X478 d2_59 rfl rfl ?_
              have nn0 : ¬ b0 = b1 := fun q => hc375 (Eq.symm q)
              have nn1 : ¬ b1 = b0 := fun q => hc452 (Eq.symm q)
              have nn2 : ¬ b1 = b0 := fun q => hc471 (Eq.symm q)
              have et0 : own_b1 b0 = (0 : Int32) := by simp [own_b1, own_i, hc375, nn0, hc452, nn1, hc471, nn2]
              have et1 : own_b2 b0 b1 = (0 : Int32) := by simp [own_b2, own_i, hc375, nn0, hc452, nn1, hc471, nn2]
              have et2 : own_b3 b0 b1 b0 = (1 : Int32) := by simp [own_b3, own_i, hc375, nn0, hc452, nn1, hc471, nn2]
              have et3 : own_b4 b0 b1 b0 b0 = (1 : Int32) := by simp [own_b4, own_i, hc375, nn0, hc452, nn1, hc471, nn2]
              have et4 : own_b5 b0 b1 b0 b0 b0 = (1 : Int32) := by simp [own_b5, own_i, hc375, nn0, hc452, nn1, hc471, nn2]
              exact o_retA cx X478 d2_60 rfl rfl rfl ⟨b367, rfl, KK, sz_b367, ge374, by rw [et0, et1, et2, et3, et4]; exact A372⟩ (by decide) (by decide)
            · refine o_icmpYes cx X468 49 d2_43 (feq hc476).2 (by decide) (by decide) ?_
              refine o_aloadN cx X468 d2_49 rfl rfl ?_
              refine o_iloadN cx X468 d2_50 rfl ?_
              refine o_iloadN cx X468 d2_51 rfl ?_
              refine o_stI cx X468 d2_52 A372 4 (by decide) rfl (Nat.le_of_ble_eq_true rfl) ge374 fun T481 h483 X482 W484 A372 => ?_
              have A0 := A0.other W484 ne_aa_b367
              have KK := KK.wr W484 (Or.inr sz_b367)
              have A372 : own_Ar Z h483 b367 .int [(.int (0 : Int32)), (.int (0 : Int32)), (.int (1 : Int32)), (.int (1 : Int32)), (.int (0 : Int32))] := A372
              refine o_iinc cx X482 (z := (5 : Int32)) (Ls' := #[.val (.ref aa), .val (.ref b367), .val (.int (0 : Int32)), .val (.int (5 : Int32))]) d2_53 rfl rfl rfl ?_
              refine o_goto cx X482 9 d2_56 (by decide) (by decide) ?_
              refine o_iloadN cx X482 d2_9 rfl ?_
              refine o_aloadN cx X482 d2_10 rfl rfl ?_
              refine o_len cx X482 (z := (5 : Int32)) d2_11 A0 rfl ?_
              refine o_icmpYes cx X482 59 d2_12 (by decide) (by decide) (by decide) ?_
              refine o_aloadN cx X482 d2_59 rfl rfl ?_
              have nn0 : ¬ b0 = b1 := fun q => hc375 (Eq.symm q)
              have nn1 : ¬ b1 = b0 := fun q => hc452 (Eq.symm q)
              have nn2 : ¬ b1 = b4 := fun q => hc471 (Eq.symm q)
              have nn3 : ¬ b0 = b4 := fun q => hc476 (Eq.symm q)
              have et0 : own_b1 b0 = (0 : Int32) := by simp [own_b1, own_i, hc375, nn0, hc452, nn1, hc471, nn2, hc476, nn3]
              have et1 : own_b2 b0 b1 = (0 : Int32) := by simp [own_b2, own_i, hc375, nn0, hc452, nn1, hc471, nn2, hc476, nn3]
              have et2 : own_b3 b0 b1 b0 = (1 : Int32) := by simp [own_b3, own_i, hc375, nn0, hc452, nn1, hc471, nn2, hc476, nn3]
              have et3 : own_b4 b0 b1 b0 b0 = (1 : Int32) := by simp [own_b4, own_i, hc375, nn0, hc452, nn1, hc471, nn2, hc476, nn3]
              have et4 : own_b5 b0 b1 b0 b0 b4 = (0 : Int32) := by simp [own_b5, own_i, hc375, nn0, hc452, nn1, hc471, nn2, hc476, nn3]
              exact o_retA cx X482 d2_60 rfl rfl rfl ⟨b367, rfl, KK, sz_b367, ge374, by rw [et0, et1, et2, et3, et4]; exact A372⟩ (by decide) (by decide)
        · refine o_icmpYes cx X449 49 d2_43 (feq hc466).2 (by decide) (by decide) ?_
          refine o_aloadN cx X449 d2_49 rfl rfl ?_
          refine o_iloadN cx X449 d2_50 rfl ?_
          refine o_iloadN cx X449 d2_51 rfl ?_
          refine o_stI cx X449 d2_52 A372 3 (by decide) rfl (Nat.le_of_ble_eq_true rfl) ge374 fun T485 h487 X486 W488 A372 => ?_
          have A0 := A0.other W488 ne_aa_b367
          have KK := KK.wr W488 (Or.inr sz_b367)
          have A372 : own_Ar Z h487 b367 .int [(.int (0 : Int32)), (.int (0 : Int32)), (.int (1 : Int32)), (.int (0 : Int32)), (.int (0 : Int32))] := A372
          refine o_iinc cx X486 (z := (4 : Int32)) (Ls' := #[.val (.ref aa), .val (.ref b367), .val (.int (0 : Int32)), .val (.int (4 : Int32))]) d2_53 rfl rfl rfl ?_
          refine o_goto cx X486 9 d2_56 (by decide) (by decide) ?_
          refine o_iloadN cx X486 d2_9 rfl ?_
          refine o_aloadN cx X486 d2_10 rfl rfl ?_
          refine o_len cx X486 (z := (5 : Int32)) d2_11 A0 rfl ?_
          refine o_icmpNo cx X486 d2_12 (by decide) ?_
          refine o_iloadN cx X486 d2_15 rfl ?_
          refine o_ifYes cx X486 37 d2_16 (by decide) (by decide) (by decide) ?_
          refine o_aloadN cx X486 d2_37 rfl rfl ?_
          refine o_iloadN cx X486 d2_38 rfl ?_
          refine o_ldB cx X486 (v := (.int b4)) d2_39 A0 4 (by decide) rfl rfl ?_
          refine o_aloadN cx X486 d2_40 rfl rfl ?_
          refine o_iloadN cx X486 d2_41 rfl ?_
          refine o_ldB cx X486 (v := (.int b0)) d2_42 A0 0 (by decide) rfl rfl ?_
          by_cases hc489 : b4 = b0
          · refine o_icmpNo cx X486 d2_43 (teq hc489).2 ?_
            obtain rfl : b0 = b4 := hc489.symm
            refine o_iinc cx X486 (z := (1 : Int32)) (Ls' := #[.val (.ref aa), .val (.ref b367), .val (.int (1 : Int32)), .val (.int (4 : Int32))]) d2_46 rfl rfl rfl ?_
            refine o_aloadN cx X486 d2_49 rfl rfl ?_
            refine o_iloadN cx X486 d2_50 rfl ?_
            refine o_iloadN cx X486 d2_51 rfl ?_
            refine o_stI cx X486 d2_52 A372 4 (by decide) rfl (Nat.le_of_ble_eq_true rfl) ge374 fun T490 h492 X491 W493 A372 => ?_
            have A0 := A0.other W493 ne_aa_b367
            have KK := KK.wr W493 (Or.inr sz_b367)
            have A372 : own_Ar Z h492 b367 .int [(.int (0 : Int32)), (.int (0 : Int32)), (.int (1 : Int32)), (.int (0 : Int32)), (.int (1 : Int32))] := A372
            refine o_iinc cx X491 (z := (5 : Int32)) (Ls' := #[.val (.ref aa), .val (.ref b367), .val (.int (1 : Int32)), .val (.int (5 : Int32))]) d2_53 rfl rfl rfl ?_
            refine o_goto cx X491 9 d2_56 (by decide) (by decide) ?_
            refine o_iloadN cx X491 d2_9 rfl ?_
            refine o_aloadN cx X491 d2_10 rfl rfl ?_
            refine o_len cx X491 (z := (5 : Int32)) d2_11 A0 rfl ?_
            refine o_icmpYes cx X491 59 d2_12 (by decide) (by decide) (by decide) ?_
            refine o_aloadN cx X491 d2_59 rfl rfl ?_
            have nn0 : ¬ b0 = b1 := fun q => hc375 (Eq.symm q)
            have nn1 : ¬ b1 = b3 := fun q => hc452 (Eq.symm q)
            have nn2 : ¬ b0 = b3 := fun q => hc466 (Eq.symm q)
            have et0 : own_b1 b0 = (0 : Int32) := by simp [own_b1, own_i, hc375, nn0, hc452, nn1, hc466, nn2]
            have et1 : own_b2 b0 b1 = (0 : Int32) := by simp [own_b2, own_i, hc375, nn0, hc452, nn1, hc466, nn2]
            have et2 : own_b3 b0 b1 b0 = (1 : Int32) := by simp [own_b3, own_i, hc375, nn0, hc452, nn1, hc466, nn2]
            have et3 : own_b4 b0 b1 b0 b3 = (0 : Int32) := by simp [own_b4, own_i, hc375, nn0, hc452, nn1, hc466, nn2]
            have et4 : own_b5 b0 b1 b0 b3 b0 = (1 : Int32) := by simp [own_b5, own_i, hc375, nn0, hc452, nn1, hc466, nn2]
            exact o_retA cx X491 d2_60 rfl rfl rfl ⟨b367, rfl, KK, sz_b367, ge374, by rw [et0, et1, et2, et3, et4]; exact A372⟩ (by decide) (by decide)
          · refine o_icmpYes cx X486 49 d2_43 (feq hc489).2 (by decide) (by decide) ?_
            refine o_aloadN cx X486 d2_49 rfl rfl ?_
            refine o_iloadN cx X486 d2_50 rfl ?_
            refine o_iloadN cx X486 d2_51 rfl ?_
            refine o_stI cx X486 d2_52 A372 4 (by decide) rfl (Nat.le_of_ble_eq_true rfl) ge374 fun T494 h496 X495 W497 A372 => ?_
            have A0 := A0.other W497 ne_aa_b367
            have KK := KK.wr W497 (Or.inr sz_b367)
            have A372 : own_Ar Z h496 b367 .int [(.int (0 : Int32)), (.int (0 : Int32)), (.int (1 : Int32)), (.int (0 : Int32)), (.int (0 : Int32))] := A372
            refine o_iinc cx X495 (z := (5 : Int32)) (Ls' := #[.val (.ref aa), .val (.ref b367), .val (.int (0 : Int32)), .val (.int (5 : Int32))]) d2_53 rfl rfl rfl ?_
            refine o_goto cx X495 9 d2_56 (by decide) (by decide) ?_
            refine o_iloadN cx X495 d2_9 rfl ?_
            refine o_aloadN cx X495 d2_10 rfl rfl ?_
            refine o_len cx X495 (z := (5 : Int32)) d2_11 A0 rfl ?_
            refine o_icmpYes cx X495 59 d2_12 (by decide) (by decide) (by decide) ?_
            refine o_aloadN cx X495 d2_59 rfl rfl ?_
            have nn0 : ¬ b0 = b1 := fun q => hc375 (Eq.symm q)
            have nn1 : ¬ b1 = b3 := fun q => hc452 (Eq.symm q)
            have nn2 : ¬ b0 = b3 := fun q => hc466 (Eq.symm q)
            have nn3 : ¬ b0 = b4 := fun q => hc489 (Eq.symm q)
            have et0 : own_b1 b0 = (0 : Int32) := by simp [own_b1, own_i, hc375, nn0, hc452, nn1, hc466, nn2, hc489, nn3]
            have et1 : own_b2 b0 b1 = (0 : Int32) := by simp [own_b2, own_i, hc375, nn0, hc452, nn1, hc466, nn2, hc489, nn3]
            have et2 : own_b3 b0 b1 b0 = (1 : Int32) := by simp [own_b3, own_i, hc375, nn0, hc452, nn1, hc466, nn2, hc489, nn3]
            have et3 : own_b4 b0 b1 b0 b3 = (0 : Int32) := by simp [own_b4, own_i, hc375, nn0, hc452, nn1, hc466, nn2, hc489, nn3]
            have et4 : own_b5 b0 b1 b0 b3 b4 = (0 : Int32) := by simp [own_b5, own_i, hc375, nn0, hc452, nn1, hc466, nn2, hc489, nn3]
            exact o_retA cx X495 d2_60 rfl rfl rfl ⟨b367, rfl, KK, sz_b367, ge374, by rw [et0, et1, et2, et3, et4]; exact A372⟩ (by decide) (by decide)
    · refine o_icmpYes cx X444 49 d2_43 (feq hc447).2 (by decide) (by decide) ?_
      refine o_aloadN cx X444 d2_49 rfl rfl ?_
      refine o_iloadN cx X444 d2_50 rfl ?_
      refine o_iloadN cx X444 d2_51 rfl ?_
      refine o_stI cx X444 d2_52 A372 2 (by decide) rfl (Nat.le_of_ble_eq_true rfl) ge374 fun T498 h500 X499 W501 A372 => ?_
      have A0 := A0.other W501 ne_aa_b367
      have KK := KK.wr W501 (Or.inr sz_b367)
      have A372 : own_Ar Z h500 b367 .int [(.int (0 : Int32)), (.int (0 : Int32)), (.int (0 : Int32)), (.int (0 : Int32)), (.int (0 : Int32))] := A372
      refine o_iinc cx X499 (z := (3 : Int32)) (Ls' := #[.val (.ref aa), .val (.ref b367), .val (.int (0 : Int32)), .val (.int (3 : Int32))]) d2_53 rfl rfl rfl ?_
      refine o_goto cx X499 9 d2_56 (by decide) (by decide) ?_
      refine o_iloadN cx X499 d2_9 rfl ?_
      refine o_aloadN cx X499 d2_10 rfl rfl ?_
      refine o_len cx X499 (z := (5 : Int32)) d2_11 A0 rfl ?_
      refine o_icmpNo cx X499 d2_12 (by decide) ?_
      refine o_iloadN cx X499 d2_15 rfl ?_
      refine o_ifYes cx X499 37 d2_16 (by decide) (by decide) (by decide) ?_
      refine o_aloadN cx X499 d2_37 rfl rfl ?_
      refine o_iloadN cx X499 d2_38 rfl ?_
      refine o_ldB cx X499 (v := (.int b3)) d2_39 A0 3 (by decide) rfl rfl ?_
      refine o_aloadN cx X499 d2_40 rfl rfl ?_
      refine o_iloadN cx X499 d2_41 rfl ?_
      refine o_ldB cx X499 (v := (.int b0)) d2_42 A0 0 (by decide) rfl rfl ?_
      by_cases hc502 : b3 = b0
      · refine o_icmpNo cx X499 d2_43 (teq hc502).2 ?_
        obtain rfl : b0 = b3 := hc502.symm
        refine o_iinc cx X499 (z := (1 : Int32)) (Ls' := #[.val (.ref aa), .val (.ref b367), .val (.int (1 : Int32)), .val (.int (3 : Int32))]) d2_46 rfl rfl rfl ?_
        refine o_aloadN cx X499 d2_49 rfl rfl ?_
        refine o_iloadN cx X499 d2_50 rfl ?_
        refine o_iloadN cx X499 d2_51 rfl ?_
        refine o_stI cx X499 d2_52 A372 3 (by decide) rfl (Nat.le_of_ble_eq_true rfl) ge374 fun T503 h505 X504 W506 A372 => ?_
        have A0 := A0.other W506 ne_aa_b367
        have KK := KK.wr W506 (Or.inr sz_b367)
        have A372 : own_Ar Z h505 b367 .int [(.int (0 : Int32)), (.int (0 : Int32)), (.int (0 : Int32)), (.int (1 : Int32)), (.int (0 : Int32))] := A372
        refine o_iinc cx X504 (z := (4 : Int32)) (Ls' := #[.val (.ref aa), .val (.ref b367), .val (.int (1 : Int32)), .val (.int (4 : Int32))]) d2_53 rfl rfl rfl ?_
        refine o_goto cx X504 9 d2_56 (by decide) (by decide) ?_
        refine o_iloadN cx X504 d2_9 rfl ?_
        refine o_aloadN cx X504 d2_10 rfl rfl ?_
        refine o_len cx X504 (z := (5 : Int32)) d2_11 A0 rfl ?_
        refine o_icmpNo cx X504 d2_12 (by decide) ?_
        refine o_iloadN cx X504 d2_15 rfl ?_
        refine o_ifNo cx X504 d2_16 (by decide) ?_
        refine o_aloadN cx X504 d2_19 rfl rfl ?_
        refine o_iloadN cx X504 d2_20 rfl ?_
        refine o_ldB cx X504 (v := (.int b4)) d2_21 A0 4 (by decide) rfl rfl ?_
        refine o_aloadN cx X504 d2_22 rfl rfl ?_
        refine o_iloadN cx X504 d2_23 rfl ?_
        refine o_ldB cx X504 (v := (.int b1)) d2_24 A0 1 (by decide) rfl rfl ?_
        by_cases hc507 : b4 = b1
        · refine o_icmpYes cx X504 37 d2_25 (teq hc507).1 (by decide) (by decide) ?_
          obtain rfl : b1 = b4 := hc507.symm
          refine o_aloadN cx X504 d2_37 rfl rfl ?_
          refine o_iloadN cx X504 d2_38 rfl ?_
          refine o_ldB cx X504 (v := (.int b1)) d2_39 A0 4 (by decide) rfl rfl ?_
          refine o_aloadN cx X504 d2_40 rfl rfl ?_
          refine o_iloadN cx X504 d2_41 rfl ?_
          refine o_ldB cx X504 (v := (.int b1)) d2_42 A0 1 (by decide) rfl rfl ?_
          refine o_icmpNo cx X504 d2_43 (teq rfl).2 ?_
          refine o_iinc cx X504 (z := (2 : Int32)) (Ls' := #[.val (.ref aa), .val (.ref b367), .val (.int (2 : Int32)), .val (.int (4 : Int32))]) d2_46 rfl rfl rfl ?_
          refine o_aloadN cx X504 d2_49 rfl rfl ?_
          refine o_iloadN cx X504 d2_50 rfl ?_
          refine o_iloadN cx X504 d2_51 rfl ?_
          refine o_stI cx X504 d2_52 A372 4 (by decide) rfl (Nat.le_of_ble_eq_true rfl) ge374 fun T508 h510 X509 W511 A372 => ?_
          have A0 := A0.other W511 ne_aa_b367
          have KK := KK.wr W511 (Or.inr sz_b367)
          have A372 : own_Ar Z h510 b367 .int [(.int (0 : Int32)), (.int (0 : Int32)), (.int (0 : Int32)), (.int (1 : Int32)), (.int (2 : Int32))] := A372
          refine o_iinc cx X509 (z := (5 : Int32)) (Ls' := #[.val (.ref aa), .val (.ref b367), .val (.int (2 : Int32)), .val (.int (5 : Int32))]) d2_53 rfl rfl rfl ?_
          refine o_goto cx X509 9 d2_56 (by decide) (by decide) ?_
          refine o_iloadN cx X509 d2_9 rfl ?_
          refine o_aloadN cx X509 d2_10 rfl rfl ?_
          refine o_len cx X509 (z := (5 : Int32)) d2_11 A0 rfl ?_
          refine o_icmpYes cx X509 59 d2_12 (by decide) (by decide) (by decide) ?_
          refine o_aloadN cx X509 d2_59 rfl rfl ?_
          have nn0 : ¬ b0 = b1 := fun q => hc375 (Eq.symm q)
          have nn1 : ¬ b0 = b2 := fun q => hc447 (Eq.symm q)
          have et0 : own_b1 b0 = (0 : Int32) := by simp [own_b1, own_i, hc375, nn0, hc447, nn1]
          have et1 : own_b2 b0 b1 = (0 : Int32) := by simp [own_b2, own_i, hc375, nn0, hc447, nn1]
          have et2 : own_b3 b0 b1 b2 = (0 : Int32) := by simp [own_b3, own_i, hc375, nn0, hc447, nn1]
          have et3 : own_b4 b0 b1 b2 b0 = (1 : Int32) := by simp [own_b4, own_i, hc375, nn0, hc447, nn1]
          have et4 : own_b5 b0 b1 b2 b0 b1 = (2 : Int32) := by simp [own_b5, own_i, hc375, nn0, hc447, nn1]
          exact o_retA cx X509 d2_60 rfl rfl rfl ⟨b367, rfl, KK, sz_b367, ge374, by rw [et0, et1, et2, et3, et4]; exact A372⟩ (by decide) (by decide)
        · refine o_icmpNo cx X504 d2_25 (feq hc507).1 ?_
          refine o_aloadN cx X504 d2_28 rfl rfl ?_
          refine o_iloadN cx X504 d2_29 rfl ?_
          refine o_iconst cx X504 (z := (1 : Int32)) d2_30 rfl ?_
          refine o_isub cx X504 (z := (0 : Int32)) d2_31 rfl ?_
          refine o_ldI cx X504 (v := (.int (0 : Int32))) d2_32 A372 0 (by decide) rfl rfl ?_
          refine o_istoreN cx X504 (Ls' := #[.val (.ref aa), .val (.ref b367), .val (.int (0 : Int32)), .val (.int (4 : Int32))]) d2_33 rfl ?_
          refine o_goto cx X504 15 d2_34 (by decide) (by decide) ?_
          refine o_iloadN cx X504 d2_15 rfl ?_
          refine o_ifYes cx X504 37 d2_16 (by decide) (by decide) (by decide) ?_
          refine o_aloadN cx X504 d2_37 rfl rfl ?_
          refine o_iloadN cx X504 d2_38 rfl ?_
          refine o_ldB cx X504 (v := (.int b4)) d2_39 A0 4 (by decide) rfl rfl ?_
          refine o_aloadN cx X504 d2_40 rfl rfl ?_
          refine o_iloadN cx X504 d2_41 rfl ?_
          refine o_ldB cx X504 (v := (.int b0)) d2_42 A0 0 (by decide) rfl rfl ?_
          by_cases hc512 : b4 = b0
          · refine o_icmpNo cx X504 d2_43 (teq hc512).2 ?_
            obtain rfl : b0 = b4 := hc512.symm
            refine o_iinc cx X504 (z := (1 : Int32)) (Ls' := #[.val (.ref aa), .val (.ref b367), .val (.int (1 : Int32)), .val (.int (4 : Int32))]) d2_46 rfl rfl rfl ?_
            refine o_aloadN cx X504 d2_49 rfl rfl ?_
            refine o_iloadN cx X504 d2_50 rfl ?_
            refine o_iloadN cx X504 d2_51 rfl ?_
            refine o_stI cx X504 d2_52 A372 4 (by decide) rfl (Nat.le_of_ble_eq_true rfl) ge374 fun T513 h515 X514 W516 A372 => ?_
            have A0 := A0.other W516 ne_aa_b367
            have KK := KK.wr W516 (Or.inr sz_b367)
            have A372 : own_Ar Z h515 b367 .int [(.int (0 : Int32)), (.int (0 : Int32)), (.int (0 : Int32)), (.int (1 : Int32)), (.int (1 : Int32))] := A372
            refine o_iinc cx X514 (z := (5 : Int32)) (Ls' := #[.val (.ref aa), .val (.ref b367), .val (.int (1 : Int32)), .val (.int (5 : Int32))]) d2_53 rfl rfl rfl ?_
            refine o_goto cx X514 9 d2_56 (by decide) (by decide) ?_
            refine o_iloadN cx X514 d2_9 rfl ?_
            refine o_aloadN cx X514 d2_10 rfl rfl ?_
            refine o_len cx X514 (z := (5 : Int32)) d2_11 A0 rfl ?_
            refine o_icmpYes cx X514 59 d2_12 (by decide) (by decide) (by decide) ?_
            refine o_aloadN cx X514 d2_59 rfl rfl ?_
            have nn0 : ¬ b0 = b1 := fun q => hc375 (Eq.symm q)
            have nn1 : ¬ b0 = b2 := fun q => hc447 (Eq.symm q)
            have nn2 : ¬ b1 = b0 := fun q => hc507 (Eq.symm q)
            have et0 : own_b1 b0 = (0 : Int32) := by simp [own_b1, own_i, hc375, nn0, hc447, nn1, hc507, nn2]
            have et1 : own_b2 b0 b1 = (0 : Int32) := by simp [own_b2, own_i, hc375, nn0, hc447, nn1, hc507, nn2]
            have et2 : own_b3 b0 b1 b2 = (0 : Int32) := by simp [own_b3, own_i, hc375, nn0, hc447, nn1, hc507, nn2]
            have et3 : own_b4 b0 b1 b2 b0 = (1 : Int32) := by simp [own_b4, own_i, hc375, nn0, hc447, nn1, hc507, nn2]
            have et4 : own_b5 b0 b1 b2 b0 b0 = (1 : Int32) := by simp [own_b5, own_i, hc375, nn0, hc447, nn1, hc507, nn2]
            exact o_retA cx X514 d2_60 rfl rfl rfl ⟨b367, rfl, KK, sz_b367, ge374, by rw [et0, et1, et2, et3, et4]; exact A372⟩ (by decide) (by decide)
          · refine o_icmpYes cx X504 49 d2_43 (feq hc512).2 (by decide) (by decide) ?_
            refine o_aloadN cx X504 d2_49 rfl rfl ?_
            refine o_iloadN cx X504 d2_50 rfl ?_
            refine o_iloadN cx X504 d2_51 rfl ?_
            refine o_stI cx X504 d2_52 A372 4 (by decide) rfl (Nat.le_of_ble_eq_true rfl) ge374 fun T517 h519 X518 W520 A372 => ?_
            have A0 := A0.other W520 ne_aa_b367
            have KK := KK.wr W520 (Or.inr sz_b367)
            have A372 : own_Ar Z h519 b367 .int [(.int (0 : Int32)), (.int (0 : Int32)), (.int (0 : Int32)), (.int (1 : Int32)), (.int (0 : Int32))] := A372
            refine o_iinc cx X518 (z := (5 : Int32)) (Ls' := #[.val (.ref aa), .val (.ref b367), .val (.int (0 : Int32)), .val (.int (5 : Int32))]) d2_53 rfl rfl rfl ?_
            refine o_goto cx X518 9 d2_56 (by decide) (by decide) ?_
            refine o_iloadN cx X518 d2_9 rfl ?_
            refine o_aloadN cx X518 d2_10 rfl rfl ?_
            refine o_len cx X518 (z := (5 : Int32)) d2_11 A0 rfl ?_
            refine o_icmpYes cx X518 59 d2_12 (by decide) (by decide) (by decide) ?_
            refine o_aloadN cx X518 d2_59 rfl rfl ?_
            have nn0 : ¬ b0 = b1 := fun q => hc375 (Eq.symm q)
            have nn1 : ¬ b0 = b2 := fun q => hc447 (Eq.symm q)
            have nn2 : ¬ b1 = b4 := fun q => hc507 (Eq.symm q)
            have nn3 : ¬ b0 = b4 := fun q => hc512 (Eq.symm q)
            have et0 : own_b1 b0 = (0 : Int32) := by simp [own_b1, own_i, hc375, nn0, hc447, nn1, hc507, nn2, hc512, nn3]
            have et1 : own_b2 b0 b1 = (0 : Int32) := by simp [own_b2, own_i, hc375, nn0, hc447, nn1, hc507, nn2, hc512, nn3]
            have et2 : own_b3 b0 b1 b2 = (0 : Int32) := by simp [own_b3, own_i, hc375, nn0, hc447, nn1, hc507, nn2, hc512, nn3]
            have et3 : own_b4 b0 b1 b2 b0 = (1 : Int32) := by simp [own_b4, own_i, hc375, nn0, hc447, nn1, hc507, nn2, hc512, nn3]
            have et4 : own_b5 b0 b1 b2 b0 b4 = (0 : Int32) := by simp [own_b5, own_i, hc375, nn0, hc447, nn1, hc507, nn2, hc512, nn3]
            exact o_retA cx X518 d2_60 rfl rfl rfl ⟨b367, rfl, KK, sz_b367, ge374, by rw [et0, et1, et2, et3, et4]; exact A372⟩ (by decide) (by decide)
      · refine o_icmpYes cx X499 49 d2_43 (feq hc502).2 (by decide) (by decide) ?_
        refine o_aloadN cx X499 d2_49 rfl rfl ?_
        refine o_iloadN cx X499 d2_50 rfl ?_
        refine o_iloadN cx X499 d2_51 rfl ?_
        refine o_stI cx X499 d2_52 A372 3 (by decide) rfl (Nat.le_of_ble_eq_true rfl) ge374 fun T521 h523 X522 W524 A372 => ?_
        have A0 := A0.other W524 ne_aa_b367
        have KK := KK.wr W524 (Or.inr sz_b367)
        have A372 : own_Ar Z h523 b367 .int [(.int (0 : Int32)), (.int (0 : Int32)), (.int (0 : Int32)), (.int (0 : Int32)), (.int (0 : Int32))] := A372
        refine o_iinc cx X522 (z := (4 : Int32)) (Ls' := #[.val (.ref aa), .val (.ref b367), .val (.int (0 : Int32)), .val (.int (4 : Int32))]) d2_53 rfl rfl rfl ?_
        refine o_goto cx X522 9 d2_56 (by decide) (by decide) ?_
        refine o_iloadN cx X522 d2_9 rfl ?_
        refine o_aloadN cx X522 d2_10 rfl rfl ?_
        refine o_len cx X522 (z := (5 : Int32)) d2_11 A0 rfl ?_
        refine o_icmpNo cx X522 d2_12 (by decide) ?_
        refine o_iloadN cx X522 d2_15 rfl ?_
        refine o_ifYes cx X522 37 d2_16 (by decide) (by decide) (by decide) ?_
        refine o_aloadN cx X522 d2_37 rfl rfl ?_
        refine o_iloadN cx X522 d2_38 rfl ?_
        refine o_ldB cx X522 (v := (.int b4)) d2_39 A0 4 (by decide) rfl rfl ?_
        refine o_aloadN cx X522 d2_40 rfl rfl ?_
        refine o_iloadN cx X522 d2_41 rfl ?_
        refine o_ldB cx X522 (v := (.int b0)) d2_42 A0 0 (by decide) rfl rfl ?_
        by_cases hc525 : b4 = b0
        · refine o_icmpNo cx X522 d2_43 (teq hc525).2 ?_
          obtain rfl : b0 = b4 := hc525.symm
          refine o_iinc cx X522 (z := (1 : Int32)) (Ls' := #[.val (.ref aa), .val (.ref b367), .val (.int (1 : Int32)), .val (.int (4 : Int32))]) d2_46 rfl rfl rfl ?_
          refine o_aloadN cx X522 d2_49 rfl rfl ?_
          refine o_iloadN cx X522 d2_50 rfl ?_
          refine o_iloadN cx X522 d2_51 rfl ?_
          refine o_stI cx X522 d2_52 A372 4 (by decide) rfl (Nat.le_of_ble_eq_true rfl) ge374 fun T526 h528 X527 W529 A372 => ?_
          have A0 := A0.other W529 ne_aa_b367
          have KK := KK.wr W529 (Or.inr sz_b367)
          have A372 : own_Ar Z h528 b367 .int [(.int (0 : Int32)), (.int (0 : Int32)), (.int (0 : Int32)), (.int (0 : Int32)), (.int (1 : Int32))] := A372
          refine o_iinc cx X527 (z := (5 : Int32)) (Ls' := #[.val (.ref aa), .val (.ref b367), .val (.int (1 : Int32)), .val (.int (5 : Int32))]) d2_53 rfl rfl rfl ?_
          refine o_goto cx X527 9 d2_56 (by decide) (by decide) ?_
          refine o_iloadN cx X527 d2_9 rfl ?_
          refine o_aloadN cx X527 d2_10 rfl rfl ?_
          refine o_len cx X527 (z := (5 : Int32)) d2_11 A0 rfl ?_
          refine o_icmpYes cx X527 59 d2_12 (by decide) (by decide) (by decide) ?_
          refine o_aloadN cx X527 d2_59 rfl rfl ?_
          have nn0 : ¬ b0 = b1 := fun q => hc375 (Eq.symm q)
          have nn1 : ¬ b0 = b2 := fun q => hc447 (Eq.symm q)
          have nn2 : ¬ b0 = b3 := fun q => hc502 (Eq.symm q)
          have et0 : own_b1 b0 = (0 : Int32) := by simp [own_b1, own_i, hc375, nn0, hc447, nn1, hc502, nn2]
          have et1 : own_b2 b0 b1 = (0 : Int32) := by simp [own_b2, own_i, hc375, nn0, hc447, nn1, hc502, nn2]
          have et2 : own_b3 b0 b1 b2 = (0 : Int32) := by simp [own_b3, own_i, hc375, nn0, hc447, nn1, hc502, nn2]
          have et3 : own_b4 b0 b1 b2 b3 = (0 : Int32) := by simp [own_b4, own_i, hc375, nn0, hc447, nn1, hc502, nn2]
          have et4 : own_b5 b0 b1 b2 b3 b0 = (1 : Int32) := by simp [own_b5, own_i, hc375, nn0, hc447, nn1, hc502, nn2]
          exact o_retA cx X527 d2_60 rfl rfl rfl ⟨b367, rfl, KK, sz_b367, ge374, by rw [et0, et1, et2, et3, et4]; exact A372⟩ (by decide) (by decide)
        · refine o_icmpYes cx X522 49 d2_43 (feq hc525).2 (by decide) (by decide) ?_
          refine o_aloadN cx X522 d2_49 rfl rfl ?_
          refine o_iloadN cx X522 d2_50 rfl ?_
          refine o_iloadN cx X522 d2_51 rfl ?_
          refine o_stI cx X522 d2_52 A372 4 (by decide) rfl (Nat.le_of_ble_eq_true rfl) ge374 fun T530 h532 X531 W533 A372 => ?_
          have A0 := A0.other W533 ne_aa_b367
          have KK := KK.wr W533 (Or.inr sz_b367)
          have A372 : own_Ar Z h532 b367 .int [(.int (0 : Int32)), (.int (0 : Int32)), (.int (0 : Int32)), (.int (0 : Int32)), (.int (0 : Int32))] := A372
          refine o_iinc cx X531 (z := (5 : Int32)) (Ls' := #[.val (.ref aa), .val (.ref b367), .val (.int (0 : Int32)), .val (.int (5 : Int32))]) d2_53 rfl rfl rfl ?_
          refine o_goto cx X531 9 d2_56 (by decide) (by decide) ?_
          refine o_iloadN cx X531 d2_9 rfl ?_
          refine o_aloadN cx X531 d2_10 rfl rfl ?_
          refine o_len cx X531 (z := (5 : Int32)) d2_11 A0 rfl ?_
          refine o_icmpYes cx X531 59 d2_12 (by decide) (by decide) (by decide) ?_
          refine o_aloadN cx X531 d2_59 rfl rfl ?_
          have nn0 : ¬ b0 = b1 := fun q => hc375 (Eq.symm q)
          have nn1 : ¬ b0 = b2 := fun q => hc447 (Eq.symm q)
          have nn2 : ¬ b0 = b3 := fun q => hc502 (Eq.symm q)
          have nn3 : ¬ b0 = b4 := fun q => hc525 (Eq.symm q)
          have et0 : own_b1 b0 = (0 : Int32) := by simp [own_b1, own_i, hc375, nn0, hc447, nn1, hc502, nn2, hc525, nn3]
          have et1 : own_b2 b0 b1 = (0 : Int32) := by simp [own_b2, own_i, hc375, nn0, hc447, nn1, hc502, nn2, hc525, nn3]
          have et2 : own_b3 b0 b1 b2 = (0 : Int32) := by simp [own_b3, own_i, hc375, nn0, hc447, nn1, hc502, nn2, hc525, nn3]
          have et3 : own_b4 b0 b1 b2 b3 = (0 : Int32) := by simp [own_b4, own_i, hc375, nn0, hc447, nn1, hc502, nn2, hc525, nn3]
          have et4 : own_b5 b0 b1 b2 b3 b4 = (0 : Int32) := by simp [own_b5, own_i, hc375, nn0, hc447, nn1, hc502, nn2, hc525, nn3]
          exact o_retA cx X531 d2_60 rfl rfl rfl ⟨b367, rfl, KK, sz_b367, ge374, by rw [et0, et1, et2, et3, et4]; exact A372⟩ (by decide) (by decide)
theorem ef_rpm_6 (m : MethodId) (aa : Addr) : entryFrame m #[(.ref aa)] 4 = mkF m 0 #[.val (.ref aa), .unset, .unset, .unset] [] := by first | (simp [entryFrame, mkF, argsToLocals, Value.category]; done) | rfl
set_option maxRecDepth 65536 in
set_option maxHeartbeats 40000000 in
theorem rpm_6 (l : Launch) (Z : State) (a0 : Array Value) (hw : ∀ d ∈ tables_1, d.before a0 Z = true) (aa : Addr) (b0 : Int32) (b1 : Int32) (b2 : Int32) (b3 : Int32) (b4 : Int32) (b5 : Int32) (h0 : Heap) (n0 : Nat) (Z0 : n0 ≤ h0.size) (A0 : own_Ar Z h0 aa .byte [(.int b0), (.int b1), (.int b2), (.int b3), (.int b4), (.int b5)]) :
    own_Met l Z (⟨"com/example/needlewise/needlewise/Kmp", "partialMatch", "([B)[I"⟩ : MethodName) prog_12_method_2_code 4 (some (.array .int)) ({ frames := 0, cells := 1, slots := 6, locals := 0 } : Room) #[(.ref aa)] h0 n0 (fun v' h' => ∃ b : Addr, v' = some (.ref b) ∧ Keep h0 h' [] ∧ h0.size ≤ b ∧ n0 ≤ b ∧ own_Ar Z h' b .int [(.int (own_b1 b0)), (.int (own_b2 b0 b1)), (.int (own_b3 b0 b1 b2)), (.int (own_b4 b0 b1 b2 b3)), (.int (own_b5 b0 b1 b2 b3 b4)), (.int (own_b6 b0 b1 b2 b3 b4 b5))]) := by
  refine own_body (plainFor_of_name pn_2) (fun m => ef_rpm_6 m aa) Z0 ?_
  intro p e s m below meth c T0 cx X0
  have KK := Keep.refl h0 []
  show own_Go p e below _ (T0.setTop (mkF m 0 #[.val (.ref aa), .unset, .unset, .unset] []))
  refine o_aloadN cx X0 d2_0 rfl rfl ?_
  refine o_len cx X0 (z := (6 : Int32)) d2_1 A0 rfl ?_
  refine o_newP cx X0 d2_2 (o_w hw 10 rfl) (by decide) 6 6 rfl (Nat.le_refl _) (by decide) (by decide) (by decide) fun T535 h537 b534 gb540 ge541 X536 E538 A539 => ?_
  have ne_aa_b534 : aa ≠ b534 := by rw [gb540]; exact Nat.ne_of_lt A0.lt
  have sz_b534 : h0.size ≤ b534 := by rw [gb540]; exact KK.1
  have A0 := A0.ext E538
  have KK := KK.ext E538
  have A539 : own_Ar Z h537 b534 .int [(.int (0 : Int32)), (.int (0 : Int32)), (.int (0 : Int32)), (.int (0 : Int32)), (.int (0 : Int32)), (.int (0 : Int32))] := A539
  refine o_astoreN cx X536 (Ls' := #[.val (.ref aa), .val (.ref b534), .unset, .unset]) d2_4 rfl rfl ?_
  refine o_iconst cx X536 (z := (0 : Int32)) d2_5 rfl ?_
  refine o_istoreN cx X536 (Ls' := #[.val (.ref aa), .val (.ref b534), .val (.int (0 : Int32)), .unset]) d2_6 rfl ?_
  refine o_iconst cx X536 (z := (1 : Int32)) d2_7 rfl ?_
  refine o_istoreN cx X536 (Ls' := #[.val (.ref aa), .val (.ref b534), .val (.int (0 : Int32)), .val (.int (1 : Int32))]) d2_8 rfl ?_
  refine o_iloadN cx X536 d2_9 rfl ?_
  refine o_aloadN cx X536 d2_10 rfl rfl ?_
  refine o_len cx X536 (z := (6 : Int32)) d2_11 A0 rfl ?_
  refine o_icmpNo cx X536 d2_12 (by decide) ?_
  refine o_iloadN cx X536 d2_15 rfl ?_
  refine o_ifYes cx X536 37 d2_16 (by decide) (by decide) (by decide) ?_
  refine o_aloadN cx X536 d2_37 rfl rfl ?_
  refine o_iloadN cx X536 d2_38 rfl ?_
  refine o_ldB cx X536 (v := (.int b1)) d2_39 A0 1 (by decide) rfl rfl ?_
  refine o_aloadN cx X536 d2_40 rfl rfl ?_
  refine o_iloadN cx X536 d2_41 rfl ?_
  refine o_ldB cx X536 (v := (.int b0)) d2_42 A0 0 (by decide) rfl rfl ?_
  by_cases hc542 : b1 = b0
  · refine o_icmpNo cx X536 d2_43 (teq hc542).2 ?_
    obtain rfl : b0 = b1 := hc542.symm
    refine o_iinc cx X536 (z := (1 : Int32)) (Ls' := #[.val (.ref aa), .val (.ref b534), .val (.int (1 : Int32)), .val (.int (1 : Int32))]) d2_46 rfl rfl rfl ?_
    refine o_aloadN cx X536 d2_49 rfl rfl ?_
    refine o_iloadN cx X536 d2_50 rfl ?_
    refine o_iloadN cx X536 d2_51 rfl ?_
    refine o_stI cx X536 d2_52 A539 1 (by decide) rfl (Nat.le_of_ble_eq_true rfl) ge541 fun T543 h545 X544 W546 A539 => ?_
    have A0 := A0.other W546 ne_aa_b534
    have KK := KK.wr W546 (Or.inr sz_b534)
    have A539 : own_Ar Z h545 b534 .int [(.int (0 : Int32)), (.int (1 : Int32)), (.int (0 : Int32)), (.int (0 : Int32)), (.int (0 : Int32)), (.int (0 : Int32))] := A539
    refine o_iinc cx X544 (z := (2 : Int32)) (Ls' := #[.val (.ref aa), .val (.ref b534), .val (.int (1 : Int32)), .val (.int (2 : Int32))]) d2_53 rfl rfl rfl ?_
    refine o_goto cx X544 9 d2_56 (by decide) (by decide) ?_
    refine o_iloadN cx X544 d2_9 rfl ?_
    refine o_aloadN cx X544 d2_10 rfl rfl ?_
    refine o_len cx X544 (z := (6 : Int32)) d2_11 A0 rfl ?_
    refine o_icmpNo cx X544 d2_12 (by decide) ?_
    refine o_iloadN cx X544 d2_15 rfl ?_
    refine o_ifNo cx X544 d2_16 (by decide) ?_
    refine o_aloadN cx X544 d2_19 rfl rfl ?_
    refine o_iloadN cx X544 d2_20 rfl ?_
    refine o_ldB cx X544 (v := (.int b2)) d2_21 A0 2 (by decide) rfl rfl ?_
    refine o_aloadN cx X544 d2_22 rfl rfl ?_
    refine o_iloadN cx X544 d2_23 rfl ?_
    refine o_ldB cx X544 (v := (.int b0)) d2_24 A0 1 (by decide) rfl rfl ?_
    by_cases hc547 : b2 = b0
    · refine o_icmpYes cx X544 37 d2_25 (teq hc547).1 (by decide) (by decide) ?_
      obtain rfl : b0 = b2 := hc547.symm
      refine o_aloadN cx X544 d2_37 rfl rfl ?_
      refine o_iloadN cx X544 d2_38 rfl ?_
      refine o_ldB cx X544 (v := (.int b0)) d2_39 A0 2 (by decide) rfl rfl ?_
      refine o_aloadN cx X544 d2_40 rfl rfl ?_
      refine o_iloadN cx X544 d2_41 rfl ?_
      refine o_ldB cx X544 (v := (.int b0)) d2_42 A0 1 (by decide) rfl rfl ?_
      refine o_icmpNo cx X544 d2_43 (teq rfl).2 ?_
      refine o_iinc cx X544 (z := (2 : Int32)) (Ls' := #[.val (.ref aa), .val (.ref b534), .val (.int (2 : Int32)), .val (.int (2 : Int32))]) d2_46 rfl rfl rfl ?_
      refine o_aloadN cx X544 d2_49 rfl rfl ?_
      refine o_iloadN cx X544 d2_50 rfl ?_
      refine o_iloadN cx X544 d2_51 rfl ?_
      refine o_stI cx X544 d2_52 A539 2 (by decide) rfl (Nat.le_of_ble_eq_true rfl) ge541 fun T548 h550 X549 W551 A539 => ?_
      have A0 := A0.other W551 ne_aa_b534
      have KK := KK.wr W551 (Or.inr sz_b534)
      have A539 : own_Ar Z h550 b534 .int [(.int (0 : Int32)), (.int (1 : Int32)), (.int (2 : Int32)), (.int (0 : Int32)), (.int (0 : Int32)), (.int (0 : Int32))] := A539
      refine o_iinc cx X549 (z := (3 : Int32)) (Ls' := #[.val (.ref aa), .val (.ref b534), .val (.int (2 : Int32)), .val (.int (3 : Int32))]) d2_53 rfl rfl rfl ?_
      refine o_goto cx X549 9 d2_56 (by decide) (by decide) ?_
      refine o_iloadN cx X549 d2_9 rfl ?_
      refine o_aloadN cx X549 d2_10 rfl rfl ?_
      refine o_len cx X549 (z := (6 : Int32)) d2_11 A0 rfl ?_
      refine o_icmpNo cx X549 d2_12 (by decide) ?_
      refine o_iloadN cx X549 d2_15 rfl ?_
      refine o_ifNo cx X549 d2_16 (by decide) ?_
      refine o_aloadN cx X549 d2_19 rfl rfl ?_
      refine o_iloadN cx X549 d2_20 rfl ?_
      refine o_ldB cx X549 (v := (.int b3)) d2_21 A0 3 (by decide) rfl rfl ?_
      refine o_aloadN cx X549 d2_22 rfl rfl ?_
      refine o_iloadN cx X549 d2_23 rfl ?_
      refine o_ldB cx X549 (v := (.int b0)) d2_24 A0 2 (by decide) rfl rfl ?_
      by_cases hc552 : b3 = b0
      · refine o_icmpYes cx X549 37 d2_25 (teq hc552).1 (by decide) (by decide) ?_
        obtain rfl : b0 = b3 := hc552.symm
        refine o_aloadN cx X549 d2_37 rfl rfl ?_
        refine o_iloadN cx X549 d2_38 rfl ?_
        refine o_ldB cx X549 (v := (.int b0)) d2_39 A0 3 (by decide) rfl rfl ?_
        refine o_aloadN cx X549 d2_40 rfl rfl ?_
        refine o_iloadN cx X549 d2_41 rfl ?_
        refine o_ldB cx X549 (v := (.int b0)) d2_42 A0 2 (by decide) rfl rfl ?_
        refine o_icmpNo cx X549 d2_43 (teq rfl).2 ?_
        refine o_iinc cx X549 (z := (3 : Int32)) (Ls' := #[.val (.ref aa), .val (.ref b534), .val (.int (3 : Int32)), .val (.int (3 : Int32))]) d2_46 rfl rfl rfl ?_
        refine o_aloadN cx X549 d2_49 rfl rfl ?_
        refine o_iloadN cx X549 d2_50 rfl ?_
        refine o_iloadN cx X549 d2_51 rfl ?_
        refine o_stI cx X549 d2_52 A539 3 (by decide) rfl (Nat.le_of_ble_eq_true rfl) ge541 fun T553 h555 X554 W556 A539 => ?_
        have A0 := A0.other W556 ne_aa_b534
        have KK := KK.wr W556 (Or.inr sz_b534)
        have A539 : own_Ar Z h555 b534 .int [(.int (0 : Int32)), (.int (1 : Int32)), (.int (2 : Int32)), (.int (3 : Int32)), (.int (0 : Int32)), (.int (0 : Int32))] := A539
        refine o_iinc cx X554 (z := (4 : Int32)) (Ls' := #[.val (.ref aa), .val (.ref b534), .val (.int (3 : Int32)), .val (.int (4 : Int32))]) d2_53 rfl rfl rfl ?_
        refine o_goto cx X554 9 d2_56 (by decide) (by decide) ?_
        refine o_iloadN cx X554 d2_9 rfl ?_
        refine o_aloadN cx X554 d2_10 rfl rfl ?_
        refine o_len cx X554 (z := (6 : Int32)) d2_11 A0 rfl ?_
        refine o_icmpNo cx X554 d2_12 (by decide) ?_
        refine o_iloadN cx X554 d2_15 rfl ?_
        refine o_ifNo cx X554 d2_16 (by decide) ?_
        refine o_aloadN cx X554 d2_19 rfl rfl ?_
        refine o_iloadN cx X554 d2_20 rfl ?_
        refine o_ldB cx X554 (v := (.int b4)) d2_21 A0 4 (by decide) rfl rfl ?_
        refine o_aloadN cx X554 d2_22 rfl rfl ?_
        refine o_iloadN cx X554 d2_23 rfl ?_
        refine o_ldB cx X554 (v := (.int b0)) d2_24 A0 3 (by decide) rfl rfl ?_
        by_cases hc557 : b4 = b0
        · refine o_icmpYes cx X554 37 d2_25 (teq hc557).1 (by decide) (by decide) ?_
          obtain rfl : b0 = b4 := hc557.symm
          refine o_aloadN cx X554 d2_37 rfl rfl ?_
          refine o_iloadN cx X554 d2_38 rfl ?_
          refine o_ldB cx X554 (v := (.int b0)) d2_39 A0 4 (by decide) rfl rfl ?_
          refine o_aloadN cx X554 d2_40 rfl rfl ?_
          refine o_iloadN cx X554 d2_41 rfl ?_
          refine o_ldB cx X554 (v := (.int b0)) d2_42 A0 3 (by decide) rfl rfl ?_
          refine o_icmpNo cx X554 d2_43 (teq rfl).2 ?_
          refine o_iinc cx X554 (z := (4 : Int32)) (Ls' := #[.val (.ref aa), .val (.ref b534), .val (.int (4 : Int32)), .val (.int (4 : Int32))]) d2_46 rfl rfl rfl ?_
          refine o_aloadN cx X554 d2_49 rfl rfl ?_
          refine o_iloadN cx X554 d2_50 rfl ?_
          refine o_iloadN cx X554 d2_51 rfl ?_
          refine o_stI cx X554 d2_52 A539 4 (by decide) rfl (Nat.le_of_ble_eq_true rfl) ge541 fun T558 h560 X559 W561 A539 => ?_
          have A0 := A0.other W561 ne_aa_b534
          have KK := KK.wr W561 (Or.inr sz_b534)
          have A539 : own_Ar Z h560 b534 .int [(.int (0 : Int32)), (.int (1 : Int32)), (.int (2 : Int32)), (.int (3 : Int32)), (.int (4 : Int32)), (.int (0 : Int32))] := A539
          refine o_iinc cx X559 (z := (5 : Int32)) (Ls' := #[.val (.ref aa), .val (.ref b534), .val (.int (4 : Int32)), .val (.int (5 : Int32))]) d2_53 rfl rfl rfl ?_
          refine o_goto cx X559 9 d2_56 (by decide) (by decide) ?_
          refine o_iloadN cx X559 d2_9 rfl ?_
          refine o_aloadN cx X559 d2_10 rfl rfl ?_
          refine o_len cx X559 (z := (6 : Int32)) d2_11 A0 rfl ?_
          refine o_icmpNo cx X559 d2_12 (by decide) ?_
          refine o_iloadN cx X559 d2_15 rfl ?_
          refine o_ifNo cx X559 d2_16 (by decide) ?_
          refine o_aloadN cx X559 d2_19 rfl rfl ?_
          refine o_iloadN cx X559 d2_20 rfl ?_
          refine o_ldB cx X559 (v := (.int b5)) d2_21 A0 5 (by decide) rfl rfl ?_
          refine o_aloadN cx X559 d2_22 rfl rfl ?_
          refine o_iloadN cx X559 d2_23 rfl ?_
          refine o_ldB cx X559 (v := (.int b0)) d2_24 A0 4 (by decide) rfl rfl ?_
          by_cases hc562 : b5 = b0
          · refine o_icmpYes cx X559 37 d2_25 (teq hc562).1 (by decide) (by decide) ?_
            obtain rfl : b0 = b5 := hc562.symm
            refine o_aloadN cx X559 d2_37 rfl rfl ?_
            refine o_iloadN cx X559 d2_38 rfl ?_
            refine o_ldB cx X559 (v := (.int b0)) d2_39 A0 5 (by decide) rfl rfl ?_
            refine o_aloadN cx X559 d2_40 rfl rfl ?_
            refine o_iloadN cx X559 d2_41 rfl ?_
            refine o_ldB cx X559 (v := (.int b0)) d2_42 A0 4 (by decide) rfl rfl ?_
            refine o_icmpNo cx X559 d2_43 (teq rfl).2 ?_
            refine o_iinc cx X559 (z := (5 : Int32)) (Ls' := #[.val (.ref aa), .val (.ref b534), .val (.int (5 : Int32)), .val (.int (5 : Int32))]) d2_46 rfl rfl rfl ?_
            refine o_aloadN cx X559 d2_49 rfl rfl ?_
            refine o_iloadN cx X559 d2_50 rfl ?_
            refine o_iloadN cx X559 d2_51 rfl ?_
            refine o_stI cx X559 d2_52 A539 5 (by decide) rfl (Nat.le_of_ble_eq_true rfl) ge541 fun T563 h565 X564 W566 A539 => ?_
            have A0 := A0.other W566 ne_aa_b534
            have KK := KK.wr W566 (Or.inr sz_b534)
            have A539 : own_Ar Z h565 b534 .int [(.int (0 : Int32)), (.int (1 : Int32)), (.int (2 : Int32)), (.int (3 : Int32)), (.int (4 : Int32)), (.int (5 : Int32))] := A539
            refine o_iinc cx X564 (z := (6 : Int32)) (Ls' := #[.val (.ref aa), .val (.ref b534), .val (.int (5 : Int32)), .val (.int (6 : Int32))]) d2_53 rfl rfl rfl ?_
            refine o_goto cx X564 9 d2_56 (by decide) (by decide) ?_
            refine o_iloadN cx X564 d2_9 rfl ?_
            refine o_aloadN cx X564 d2_10 rfl rfl ?_
            refine o_len cx X564 (z := (6 : Int32)) d2_11 A0 rfl ?_
            refine o_icmpYes cx X564 59 d2_12 (by decide) (by decide) (by decide) ?_
            refine o_aloadN cx X564 d2_59 rfl rfl ?_
            have et0 : own_b1 b0 = (0 : Int32) := by simp [own_b1, own_i]
            have et1 : own_b2 b0 b0 = (1 : Int32) := by simp [own_b2, own_i]
            have et2 : own_b3 b0 b0 b0 = (2 : Int32) := by simp [own_b3, own_i]
            have et3 : own_b4 b0 b0 b0 b0 = (3 : Int32) := by simp [own_b4, own_i]
            have et4 : own_b5 b0 b0 b0 b0 b0 = (4 : Int32) := by simp [own_b5, own_i]
            have et5 : own_b6 b0 b0 b0 b0 b0 b0 = (5 : Int32) := by simp [own_b6, own_i]
            exact o_retA cx X564 d2_60 rfl rfl rfl ⟨b534, rfl, KK, sz_b534, ge541, by rw [et0, et1, et2, et3, et4, et5]; exact A539⟩ (by decide) (by decide)
          · refine o_icmpNo cx X559 d2_25 (feq hc562).1 ?_
            refine o_aloadN cx X559 d2_28 rfl rfl ?_
            refine o_iloadN cx X559 d2_29 rfl ?_
            refine o_iconst cx X559 (z := (1 : Int32)) d2_30 rfl ?_
            refine o_isub cx X559 (z := (3 : Int32)) d2_31 rfl ?_
            refine o_ldI cx X559 (v := (.int (3 : Int32))) d2_32 A539 3 (by decide) rfl rfl ?_
            refine o_istoreN cx X559 (Ls' := #[.val (.ref aa), .val (.ref b534), .val (.int (3 : Int32)), .val (.int (5 : Int32))]) d2_33 rfl ?_
            refine o_goto cx X559 15 d2_34 (by decide) (by decide) ?_
            refine o_iloadN cx X559 d2_15 rfl ?_
            refine o_ifNo cx X559 d2_16 (by decide) ?_
            refine o_aloadN cx X559 d2_19 rfl rfl ?_
            refine o_iloadN cx X559 d2_20 rfl ?_
            refine o_ldB cx X559 (v := (.int b5)) d2_21 A0 5 (by decide) rfl rfl ?_
            refine o_aloadN cx X559 d2_22 rfl rfl ?_
            refine o_iloadN cx X559 d2_23 rfl ?_
            refine o_ldB cx X559 (v := (.int b0)) d2_24 A0 3 (by decide) rfl rfl ?_
            refine o_icmpNo cx X559 d2_25 (feq hc562).1 ?_
            refine o_aloadN cx X559 d2_28 rfl rfl ?_
            refine o_iloadN cx X559 d2_29 rfl ?_
            refine o_iconst cx X559 (z := (1 : Int32)) d2_30 rfl ?_
            refine o_isub cx X559 (z := (2 : Int32)) d2_31 rfl ?_
            refine o_ldI cx X559 (v := (.int (2 : Int32))) d2_32 A539 2 (by decide) rfl rfl ?_
            refine o_istoreN cx X559 (Ls' := #[.val (.ref aa), .val (.ref b534), .val (.int (2 : Int32)), .val (.int (5 : Int32))]) d2_33 rfl ?_
            refine o_goto cx X559 15 d2_34 (by decide) (by decide) ?_
            refine o_iloadN cx X559 d2_15 rfl ?_
            refine o_ifNo cx X559 d2_16 (by decide) ?_
            refine o_aloadN cx X559 d2_19 rfl rfl ?_
            refine o_iloadN cx X559 d2_20 rfl ?_
            refine o_ldB cx X559 (v := (.int b5)) d2_21 A0 5 (by decide) rfl rfl ?_
            refine o_aloadN cx X559 d2_22 rfl rfl ?_
            refine o_iloadN cx X559 d2_23 rfl ?_
            refine o_ldB cx X559 (v := (.int b0)) d2_24 A0 2 (by decide) rfl rfl ?_
            refine o_icmpNo cx X559 d2_25 (feq hc562).1 ?_
            refine o_aloadN cx X559 d2_28 rfl rfl ?_
            refine o_iloadN cx X559 d2_29 rfl ?_
            refine o_iconst cx X559 (z := (1 : Int32)) d2_30 rfl ?_
            refine o_isub cx X559 (z := (1 : Int32)) d2_31 rfl ?_
            refine o_ldI cx X559 (v := (.int (1 : Int32))) d2_32 A539 1 (by decide) rfl rfl ?_
            refine o_istoreN cx X559 (Ls' := #[.val (.ref aa), .val (.ref b534), .val (.int (1 : Int32)), .val (.int (5 : Int32))]) d2_33 rfl ?_
            refine o_goto cx X559 15 d2_34 (by decide) (by decide) ?_
            refine o_iloadN cx X559 d2_15 rfl ?_
            refine o_ifNo cx X559 d2_16 (by decide) ?_
            refine o_aloadN cx X559 d2_19 rfl rfl ?_
            refine o_iloadN cx X559 d2_20 rfl ?_
            refine o_ldB cx X559 (v := (.int b5)) d2_21 A0 5 (by decide) rfl rfl ?_
            refine o_aloadN cx X559 d2_22 rfl rfl ?_
            refine o_iloadN cx X559 d2_23 rfl ?_
            refine o_ldB cx X559 (v := (.int b0)) d2_24 A0 1 (by decide) rfl rfl ?_
            refine o_icmpNo cx X559 d2_25 (feq hc562).1 ?_
            refine o_aloadN cx X559 d2_28 rfl rfl ?_
            refine o_iloadN cx X559 d2_29 rfl ?_
            refine o_iconst cx X559 (z := (1 : Int32)) d2_30 rfl ?_
            refine o_isub cx X559 (z := (0 : Int32)) d2_31 rfl ?_
            refine o_ldI cx X559 (v := (.int (0 : Int32))) d2_32 A539 0 (by decide) rfl rfl ?_
            refine o_istoreN cx X559 (Ls' := #[.val (.ref aa), .val (.ref b534), .val (.int (0 : Int32)), .val (.int (5 : Int32))]) d2_33 rfl ?_
            refine o_goto cx X559 15 d2_34 (by decide) (by decide) ?_
            refine o_iloadN cx X559 d2_15 rfl ?_
            refine o_ifYes cx X559 37 d2_16 (by decide) (by decide) (by decide) ?_
            refine o_aloadN cx X559 d2_37 rfl rfl ?_
            refine o_iloadN cx X559 d2_38 rfl ?_
            refine o_ldB cx X559 (v := (.int b5)) d2_39 A0 5 (by decide) rfl rfl ?_
            refine o_aloadN cx X559 d2_40 rfl rfl ?_
            refine o_iloadN cx X559 d2_41 rfl ?_
            refine o_ldB cx X559 (v := (.int b0)) d2_42 A0 0 (by decide) rfl rfl ?_
            refine o_icmpYes cx X559 49 d2_43 (feq hc562).2 (by decide) (by decide) ?_
            refine o_aloadN cx X559 d2_49 rfl rfl ?_
            refine o_iloadN cx X559 d2_50 rfl ?_
            refine o_iloadN cx X559 d2_51 rfl ?_
            refine o_stI cx X559 d2_52 A539 5 (by decide) rfl (Nat.le_of_ble_eq_true rfl) ge541 fun T567 h569 X568 W570 A539 => ?_
            have A0 := A0.other W570 ne_aa_b534
            have KK := KK.wr W570 (Or.inr sz_b534)
            have A539 : own_Ar Z h569 b534 .int [(.int (0 : Int32)), (.int (1 : Int32)), (.int (2 : Int32)), (.int (3 : Int32)), (.int (4 : Int32)), (.int (0 : Int32))] := A539
            refine o_iinc cx X568 (z := (6 : Int32)) (Ls' := #[.val (.ref aa), .val (.ref b534), .val (.int (0 : Int32)), .val (.int (6 : Int32))]) d2_53 rfl rfl rfl ?_
            refine o_goto cx X568 9 d2_56 (by decide) (by decide) ?_
            refine o_iloadN cx X568 d2_9 rfl ?_
            refine o_aloadN cx X568 d2_10 rfl rfl ?_
            refine o_len cx X568 (z := (6 : Int32)) d2_11 A0 rfl ?_
            refine o_icmpYes cx X568 59 d2_12 (by decide) (by decide) (by decide) ?_
            refine o_aloadN cx X568 d2_59 rfl rfl ?_
            have nn0 : ¬ b0 = b5 := fun q => hc562 (Eq.symm q)
            have et0 : own_b1 b0 = (0 : Int32) := by simp [own_b1, own_i, hc562, nn0]
            have et1 : own_b2 b0 b0 = (1 : Int32) := by simp [own_b2, own_i, hc562, nn0]
            have et2 : own_b3 b0 b0 b0 = (2 : Int32) := by simp [own_b3, own_i, hc562, nn0]
            have et3 : own_b4 b0 b0 b0 b0 = (3 : Int32) := by simp [own_b4, own_i, hc562, nn0]
            have et4 : own_b5 b0 b0 b0 b0 b0 = (4 : Int32) := by simp [own_b5, own_i, hc562, nn0]
            have et5 : own_b6 b0 b0 b0 b0 b0 b5 = (0 : Int32) := by simp [own_b6, own_i, hc562, nn0]
            exact o_retA cx X568 d2_60 rfl rfl rfl ⟨b534, rfl, KK, sz_b534, ge541, by rw [et0, et1, et2, et3, et4, et5]; exact A539⟩ (by decide) (by decide)
        · refine o_icmpNo cx X554 d2_25 (feq hc557).1 ?_
          refine o_aloadN cx X554 d2_28 rfl rfl ?_
          refine o_iloadN cx X554 d2_29 rfl ?_
          refine o_iconst cx X554 (z := (1 : Int32)) d2_30 rfl ?_
          refine o_isub cx X554 (z := (2 : Int32)) d2_31 rfl ?_
          refine o_ldI cx X554 (v := (.int (2 : Int32))) d2_32 A539 2 (by decide) rfl rfl ?_
          refine o_istoreN cx X554 (Ls' := #[.val (.ref aa), .val (.ref b534), .val (.int (2 : Int32)), .val (.int (4 : Int32))]) d2_33 rfl ?_
          refine o_goto cx X554 15 d2_34 (by decide) (by decide) ?_
          refine o_iloadN cx X554 d2_15 rfl ?_
          refine o_ifNo cx X554 d2_16 (by decide) ?_
          refine o_aloadN cx X554 d2_19 rfl rfl ?_
          refine o_iloadN cx X554 d2_20 rfl ?_
          refine o_ldB cx X554 (v := (.int b4)) d2_21 A0 4 (by decide) rfl rfl ?_
          refine o_aloadN cx X554 d2_22 rfl rfl ?_
          refine o_iloadN cx X554 d2_23 rfl ?_
          refine o_ldB cx X554 (v := (.int b0)) d2_24 A0 2 (by decide) rfl rfl ?_
          refine o_icmpNo cx X554 d2_25 (feq hc557).1 ?_
          refine o_aloadN cx X554 d2_28 rfl rfl ?_
          refine o_iloadN cx X554 d2_29 rfl ?_
          refine o_iconst cx X554 (z := (1 : Int32)) d2_30 rfl ?_
          refine o_isub cx X554 (z := (1 : Int32)) d2_31 rfl ?_
          refine o_ldI cx X554 (v := (.int (1 : Int32))) d2_32 A539 1 (by decide) rfl rfl ?_
          refine o_istoreN cx X554 (Ls' := #[.val (.ref aa), .val (.ref b534), .val (.int (1 : Int32)), .val (.int (4 : Int32))]) d2_33 rfl ?_
          refine o_goto cx X554 15 d2_34 (by decide) (by decide) ?_
          refine o_iloadN cx X554 d2_15 rfl ?_
          refine o_ifNo cx X554 d2_16 (by decide) ?_
          refine o_aloadN cx X554 d2_19 rfl rfl ?_
          refine o_iloadN cx X554 d2_20 rfl ?_
          refine o_ldB cx X554 (v := (.int b4)) d2_21 A0 4 (by decide) rfl rfl ?_
          refine o_aloadN cx X554 d2_22 rfl rfl ?_
          refine o_iloadN cx X554 d2_23 rfl ?_
          refine o_ldB cx X554 (v := (.int b0)) d2_24 A0 1 (by decide) rfl rfl ?_
          refine o_icmpNo cx X554 d2_25 (feq hc557).1 ?_
          refine o_aloadN cx X554 d2_28 rfl rfl ?_
          refine o_iloadN cx X554 d2_29 rfl ?_
          refine o_iconst cx X554 (z := (1 : Int32)) d2_30 rfl ?_
          refine o_isub cx X554 (z := (0 : Int32)) d2_31 rfl ?_
          refine o_ldI cx X554 (v := (.int (0 : Int32))) d2_32 A539 0 (by decide) rfl rfl ?_
          refine o_istoreN cx X554 (Ls' := #[.val (.ref aa), .val (.ref b534), .val (.int (0 : Int32)), .val (.int (4 : Int32))]) d2_33 rfl ?_
          refine o_goto cx X554 15 d2_34 (by decide) (by decide) ?_
          refine o_iloadN cx X554 d2_15 rfl ?_
          refine o_ifYes cx X554 37 d2_16 (by decide) (by decide) (by decide) ?_
          refine o_aloadN cx X554 d2_37 rfl rfl ?_
          refine o_iloadN cx X554 d2_38 rfl ?_
          refine o_ldB cx X554 (v := (.int b4)) d2_39 A0 4 (by decide) rfl rfl ?_
          refine o_aloadN cx X554 d2_40 rfl rfl ?_
          refine o_iloadN cx X554 d2_41 rfl ?_
          refine o_ldB cx X554 (v := (.int b0)) d2_42 A0 0 (by decide) rfl rfl ?_
          refine o_icmpYes cx X554 49 d2_43 (feq hc557).2 (by decide) (by decide) ?_
          refine o_aloadN cx X554 d2_49 rfl rfl ?_
          refine o_iloadN cx X554 d2_50 rfl ?_
          refine o_iloadN cx X554 d2_51 rfl ?_
          refine o_stI cx X554 d2_52 A539 4 (by decide) rfl (Nat.le_of_ble_eq_true rfl) ge541 fun T571 h573 X572 W574 A539 => ?_
          have A0 := A0.other W574 ne_aa_b534
          have KK := KK.wr W574 (Or.inr sz_b534)
          have A539 : own_Ar Z h573 b534 .int [(.int (0 : Int32)), (.int (1 : Int32)), (.int (2 : Int32)), (.int (3 : Int32)), (.int (0 : Int32)), (.int (0 : Int32))] := A539
          refine o_iinc cx X572 (z := (5 : Int32)) (Ls' := #[.val (.ref aa), .val (.ref b534), .val (.int (0 : Int32)), .val (.int (5 : Int32))]) d2_53 rfl rfl rfl ?_
          refine o_goto cx X572 9 d2_56 (by decide) (by decide) ?_
          refine o_iloadN cx X572 d2_9 rfl ?_
          refine o_aloadN cx X572 d2_10 rfl rfl ?_
          refine o_len cx X572 (z := (6 : Int32)) d2_11 A0 rfl ?_
          refine o_icmpNo cx X572 d2_12 (by decide) ?_
          refine o_iloadN cx X572 d2_15 rfl ?_
          refine o_ifYes cx X572 37 d2_16 (by decide) (by decide) (by decide) ?_
          refine o_aloadN cx X572 d2_37 rfl rfl ?_
          refine o_iloadN cx X572 d2_38 rfl ?_
          refine o_ldB cx X572 (v := (.int b5)) d2_39 A0 5 (by decide) rfl rfl ?_
          refine o_aloadN cx X572 d2_40 rfl rfl ?_
          refine o_iloadN cx X572 d2_41 rfl ?_
          refine o_ldB cx X572 (v := (.int b0)) d2_42 A0 0 (by decide) rfl rfl ?_
          by_cases hc575 : b5 = b0
          · refine o_icmpNo cx X572 d2_43 (teq hc575).2 ?_
            obtain rfl : b0 = b5 := hc575.symm
            refine o_iinc cx X572 (z := (1 : Int32)) (Ls' := #[.val (.ref aa), .val (.ref b534), .val (.int (1 : Int32)), .val (.int (5 : Int32))]) d2_46 rfl rfl rfl ?_
            refine o_aloadN cx X572 d2_49 rfl rfl ?_
            refine o_iloadN cx X572 d2_50 rfl ?_
            refine o_iloadN cx X572 d2_51 rfl ?_
            refine o_stI cx X572 d2_52 A539 5 (by decide) rfl (Nat.le_of_ble_eq_true rfl) ge541 fun T576 h578 X577 W579 A539 => ?_
            have A0 := A0.other W579 ne_aa_b534
            have KK := KK.wr W579 (Or.inr sz_b534)
            have A539 : own_Ar Z h578 b534 .int [(.int (0 : Int32)), (.int (1 : Int32)), (.int (2 : Int32)), (.int (3 : Int32)), (.int (0 : Int32)), (.int (1 : Int32))] := A539
            refine o_iinc cx X577 (z := (6 : Int32)) (Ls' := #[.val (.ref aa), .val (.ref b534), .val (.int (1 : Int32)), .val (.int (6 : Int32))]) d2_53 rfl rfl rfl ?_
            refine o_goto cx X577 9 d2_56 (by decide) (by decide) ?_
            refine o_iloadN cx X577 d2_9 rfl ?_
            refine o_aloadN cx X577 d2_10 rfl rfl ?_
            refine o_len cx X577 (z := (6 : Int32)) d2_11 A0 rfl ?_
            refine o_icmpYes cx X577 59 d2_12 (by decide) (by decide) (by decide) ?_
            refine o_aloadN cx X577 d2_59 rfl rfl ?_
            have nn0 : ¬ b0 = b4 := fun q => hc557 (Eq.symm q)
            have et0 : own_b1 b0 = (0 : Int32) := by simp [own_b1, own_i, hc557, nn0]
            have et1 : own_b2 b0 b0 = (1 : Int32) := by simp [own_b2, own_i, hc557, nn0]
            have et2 : own_b3 b0 b0 b0 = (2 : Int32) := by simp [own_b3, own_i, hc557, nn0]
            have et3 : own_b4 b0 b0 b0 b0 = (3 : Int32) := by simp [own_b4, own_i, hc557, nn0]
            have et4 : own_b5 b0 b0 b0 b0 b4 = (0 : Int32) := by simp [own_b5, own_i, hc557, nn0]
            have et5 : own_b6 b0 b0 b0 b0 b4 b0 = (1 : Int32) := by simp [own_b6, own_i, hc557, nn0]
            exact o_retA cx X577 d2_60 rfl rfl rfl ⟨b534, rfl, KK, sz_b534, ge541, by rw [et0, et1, et2, et3, et4, et5]; exact A539⟩ (by decide) (by decide)
          · refine o_icmpYes cx X572 49 d2_43 (feq hc575).2 (by decide) (by decide) ?_
            refine o_aloadN cx X572 d2_49 rfl rfl ?_
            refine o_iloadN cx X572 d2_50 rfl ?_
            refine o_iloadN cx X572 d2_51 rfl ?_
            refine o_stI cx X572 d2_52 A539 5 (by decide) rfl (Nat.le_of_ble_eq_true rfl) ge541 fun T580 h582 X581 W583 A539 => ?_
            have A0 := A0.other W583 ne_aa_b534
            have KK := KK.wr W583 (Or.inr sz_b534)
            have A539 : own_Ar Z h582 b534 .int [(.int (0 : Int32)), (.int (1 : Int32)), (.int (2 : Int32)), (.int (3 : Int32)), (.int (0 : Int32)), (.int (0 : Int32))] := A539
            refine o_iinc cx X581 (z := (6 : Int32)) (Ls' := #[.val (.ref aa), .val (.ref b534), .val (.int (0 : Int32)), .val (.int (6 : Int32))]) d2_53 rfl rfl rfl ?_
            refine o_goto cx X581 9 d2_56 (by decide) (by decide) ?_
            refine o_iloadN cx X581 d2_9 rfl ?_
            refine o_aloadN cx X581 d2_10 rfl rfl ?_
            refine o_len cx X581 (z := (6 : Int32)) d2_11 A0 rfl ?_
            refine o_icmpYes cx X581 59 d2_12 (by decide) (by decide) (by decide) ?_
            refine o_aloadN cx X581 d2_59 rfl rfl ?_
            have nn0 : ¬ b0 = b4 := fun q => hc557 (Eq.symm q)
            have nn1 : ¬ b0 = b5 := fun q => hc575 (Eq.symm q)
            have et0 : own_b1 b0 = (0 : Int32) := by simp [own_b1, own_i, hc557, nn0, hc575, nn1]
            have et1 : own_b2 b0 b0 = (1 : Int32) := by simp [own_b2, own_i, hc557, nn0, hc575, nn1]
            have et2 : own_b3 b0 b0 b0 = (2 : Int32) := by simp [own_b3, own_i, hc557, nn0, hc575, nn1]
            have et3 : own_b4 b0 b0 b0 b0 = (3 : Int32) := by simp [own_b4, own_i, hc557, nn0, hc575, nn1]
            have et4 : own_b5 b0 b0 b0 b0 b4 = (0 : Int32) := by simp [own_b5, own_i, hc557, nn0, hc575, nn1]
            have et5 : own_b6 b0 b0 b0 b0 b4 b5 = (0 : Int32) := by simp [own_b6, own_i, hc557, nn0, hc575, nn1]
            exact o_retA cx X581 d2_60 rfl rfl rfl ⟨b534, rfl, KK, sz_b534, ge541, by rw [et0, et1, et2, et3, et4, et5]; exact A539⟩ (by decide) (by decide)
      · refine o_icmpNo cx X549 d2_25 (feq hc552).1 ?_
        refine o_aloadN cx X549 d2_28 rfl rfl ?_
        refine o_iloadN cx X549 d2_29 rfl ?_
        refine o_iconst cx X549 (z := (1 : Int32)) d2_30 rfl ?_
        refine o_isub cx X549 (z := (1 : Int32)) d2_31 rfl ?_
        refine o_ldI cx X549 (v := (.int (1 : Int32))) d2_32 A539 1 (by decide) rfl rfl ?_
        refine o_istoreN cx X549 (Ls' := #[.val (.ref aa), .val (.ref b534), .val (.int (1 : Int32)), .val (.int (3 : Int32))]) d2_33 rfl ?_
        refine o_goto cx X549 15 d2_34 (by decide) (by decide) ?_
        refine o_iloadN cx X549 d2_15 rfl ?_
        refine o_ifNo cx X549 d2_16 (by decide) ?_
        refine o_aloadN cx X549 d2_19 rfl rfl ?_
        refine o_iloadN cx X549 d2_20 rfl ?_
        refine o_ldB cx X549 (v := (.int b3)) d2_21 A0 3 (by decide) rfl rfl ?_
        refine o_aloadN cx X549 d2_22 rfl rfl ?_
        refine o_iloadN cx X549 d2_23 rfl ?_
        refine o_ldB cx X549 (v := (.int b0)) d2_24 A0 1 (by decide) rfl rfl ?_
        refine o_icmpNo cx X549 d2_25 (feq hc552).1 ?_
        refine o_aloadN cx X549 d2_28 rfl rfl ?_
        refine o_iloadN cx X549 d2_29 rfl ?_
        refine o_iconst cx X549 (z := (1 : Int32)) d2_30 rfl ?_
        refine o_isub cx X549 (z := (0 : Int32)) d2_31 rfl ?_
        refine o_ldI cx X549 (v := (.int (0 : Int32))) d2_32 A539 0 (by decide) rfl rfl ?_
        refine o_istoreN cx X549 (Ls' := #[.val (.ref aa), .val (.ref b534), .val (.int (0 : Int32)), .val (.int (3 : Int32))]) d2_33 rfl ?_
        refine o_goto cx X549 15 d2_34 (by decide) (by decide) ?_
        refine o_iloadN cx X549 d2_15 rfl ?_
        refine o_ifYes cx X549 37 d2_16 (by decide) (by decide) (by decide) ?_
        refine o_aloadN cx X549 d2_37 rfl rfl ?_
        refine o_iloadN cx X549 d2_38 rfl ?_
        refine o_ldB cx X549 (v := (.int b3)) d2_39 A0 3 (by decide) rfl rfl ?_
        refine o_aloadN cx X549 d2_40 rfl rfl ?_
        refine o_iloadN cx X549 d2_41 rfl ?_
        refine o_ldB cx X549 (v := (.int b0)) d2_42 A0 0 (by decide) rfl rfl ?_
        refine o_icmpYes cx X549 49 d2_43 (feq hc552).2 (by decide) (by decide) ?_
        refine o_aloadN cx X549 d2_49 rfl rfl ?_
        refine o_iloadN cx X549 d2_50 rfl ?_
        refine o_iloadN cx X549 d2_51 rfl ?_
        refine o_stI cx X549 d2_52 A539 3 (by decide) rfl (Nat.le_of_ble_eq_true rfl) ge541 fun T584 h586 X585 W587 A539 => ?_
        have A0 := A0.other W587 ne_aa_b534
        have KK := KK.wr W587 (Or.inr sz_b534)
        have A539 : own_Ar Z h586 b534 .int [(.int (0 : Int32)), (.int (1 : Int32)), (.int (2 : Int32)), (.int (0 : Int32)), (.int (0 : Int32)), (.int (0 : Int32))] := A539
        refine o_iinc cx X585 (z := (4 : Int32)) (Ls' := #[.val (.ref aa), .val (.ref b534), .val (.int (0 : Int32)), .val (.int (4 : Int32))]) d2_53 rfl rfl rfl ?_
        refine o_goto cx X585 9 d2_56 (by decide) (by decide) ?_
        refine o_iloadN cx X585 d2_9 rfl ?_
        refine o_aloadN cx X585 d2_10 rfl rfl ?_
        refine o_len cx X585 (z := (6 : Int32)) d2_11 A0 rfl ?_
        refine o_icmpNo cx X585 d2_12 (by decide) ?_
        refine o_iloadN cx X585 d2_15 rfl ?_
        refine o_ifYes cx X585 37 d2_16 (by decide) (by decide) (by decide) ?_
        refine o_aloadN cx X585 d2_37 rfl rfl ?_
        refine o_iloadN cx X585 d2_38 rfl ?_
        refine o_ldB cx X585 (v := (.int b4)) d2_39 A0 4 (by decide) rfl rfl ?_
        refine o_aloadN cx X585 d2_40 rfl rfl ?_
        refine o_iloadN cx X585 d2_41 rfl ?_
        refine o_ldB cx X585 (v := (.int b0)) d2_42 A0 0 (by decide) rfl rfl ?_
        by_cases hc588 : b4 = b0
        · refine o_icmpNo cx X585 d2_43 (teq hc588).2 ?_
          obtain rfl : b0 = b4 := hc588.symm
          refine o_iinc cx X585 (z := (1 : Int32)) (Ls' := #[.val (.ref aa), .val (.ref b534), .val (.int (1 : Int32)), .val (.int (4 : Int32))]) d2_46 rfl rfl rfl ?_
          refine o_aloadN cx X585 d2_49 rfl rfl ?_
          refine o_iloadN cx X585 d2_50 rfl ?_
          refine o_iloadN cx X585 d2_51 rfl ?_
          refine o_stI cx X585 d2_52 A539 4 (by decide) rfl (Nat.le_of_ble_eq_true rfl) ge541 fun T589 h591 X590 W592 A539 => ?_
          have A0 := A0.other W592 ne_aa_b534
          have KK := KK.wr W592 (Or.inr sz_b534)
          have A539 : own_Ar Z h591 b534 .int [(.int (0 : Int32)), (.int (1 : Int32)), (.int (2 : Int32)), (.int (0 : Int32)), (.int (1 : Int32)), (.int (0 : Int32))] := A539
          refine o_iinc cx X590 (z := (5 : Int32)) (Ls' := #[.val (.ref aa), .val (.ref b534), .val (.int (1 : Int32)), .val (.int (5 : Int32))]) d2_53 rfl rfl rfl ?_
          refine o_goto cx X590 9 d2_56 (by decide) (by decide) ?_
          refine o_iloadN cx X590 d2_9 rfl ?_
          refine o_aloadN cx X590 d2_10 rfl rfl ?_
          refine o_len cx X590 (z := (6 : Int32)) d2_11 A0 rfl ?_
          refine o_icmpNo cx X590 d2_12 (by decide) ?_
          refine o_iloadN cx X590 d2_15 rfl ?_
          refine o_ifNo cx X590 d2_16 (by decide) ?_
          refine o_aloadN cx X590 d2_19 rfl rfl ?_
          refine o_iloadN cx X590 d2_20 rfl ?_
          refine o_ldB cx X590 (v := (.int b5)) d2_21 A0 5 (by decide) rfl rfl ?_
          refine o_aloadN cx X590 d2_22 rfl rfl ?_
          refine o_iloadN cx X590 d2_23 rfl ?_
          refine o_ldB cx X590 (v := (.int b0)) d2_24 A0 1 (by decide) rfl rfl ?_
          by_cases hc593 : b5 = b0
          · refine o_icmpYes cx X590 37 d2_25 (teq hc593).1 (by decide) (by decide) ?_
            obtain rfl : b0 = b5 := hc593.symm
            refine o_aloadN cx X590 d2_37 rfl rfl ?_
            refine o_iloadN cx X590 d2_38 rfl ?_
            refine o_ldB cx X590 (v := (.int b0)) d2_39 A0 5 (by decide) rfl rfl ?_
            refine o_aloadN cx X590 d2_40 rfl rfl ?_
            refine o_iloadN cx X590 d2_41 rfl ?_
            refine o_ldB cx X590 (v := (.int b0)) d2_42 A0 1 (by decide) rfl rfl ?_
            refine o_icmpNo cx X590 d2_43 (teq rfl).2 ?_
            refine o_iinc cx X590 (z := (2 : Int32)) (Ls' := #[.val (.ref aa), .val (.ref b534), .val (.int (2 : Int32)), .val (.int (5 : Int32))]) d2_46 rfl rfl rfl ?_
            refine o_aloadN cx X590 d2_49 rfl rfl ?_
            refine o_iloadN cx X590 d2_50 rfl ?_
            refine o_iloadN cx X590 d2_51 rfl ?_
            refine o_stI cx X590 d2_52 A539 5 (by decide) rfl (Nat.le_of_ble_eq_true rfl) ge541 fun T594 h596 X595 W597 A539 => ?_
            have A0 := A0.other W597 ne_aa_b534
            have KK := KK.wr W597 (Or.inr sz_b534)
            have A539 : own_Ar Z h596 b534 .int [(.int (0 : Int32)), (.int (1 : Int32)), (.int (2 : Int32)), (.int (0 : Int32)), (.int (1 : Int32)), (.int (2 : Int32))] := A539
            refine o_iinc cx X595 (z := (6 : Int32)) (Ls' := #[.val (.ref aa), .val (.ref b534), .val (.int (2 : Int32)), .val (.int (6 : Int32))]) d2_53 rfl rfl rfl ?_
            refine o_goto cx X595 9 d2_56 (by decide) (by decide) ?_
            refine o_iloadN cx X595 d2_9 rfl ?_
            refine o_aloadN cx X595 d2_10 rfl rfl ?_
            refine o_len cx X595 (z := (6 : Int32)) d2_11 A0 rfl ?_
            refine o_icmpYes cx X595 59 d2_12 (by decide) (by decide) (by decide) ?_
            refine o_aloadN cx X595 d2_59 rfl rfl ?_
            have nn0 : ¬ b0 = b3 := fun q => hc552 (Eq.symm q)
            have et0 : own_b1 b0 = (0 : Int32) := by simp [own_b1, own_i, hc552, nn0]
            have et1 : own_b2 b0 b0 = (1 : Int32) := by simp [own_b2, own_i, hc552, nn0]
            have et2 : own_b3 b0 b0 b0 = (2 : Int32) := by simp [own_b3, own_i, hc552, nn0]
            have et3 : own_b4 b0 b0 b0 b3 = (0 : Int32) := by simp [own_b4, own_i, hc552, nn0]
            have et4 : own_b5 b0 b0 b0 b3 b0 = (1 : Int32) := by simp [own_b5, own_i, hc552, nn0]
            have et5 : own_b6 b0 b0 b0 b3 b0 b0 = (2 : Int32) := by simp [own_b6, own_i, hc552, nn0]
            exact o_retA cx X595 d2_60 rfl rfl rfl ⟨b534, rfl, KK, sz_b534, ge541, by rw [et0, et1, et2, et3, et4, et5]; exact A539⟩ (by decide) (by decide)
          · refine o_icmpNo cx X590 d2_25 (feq hc593).1 ?_
            refine o_aloadN cx X590 d2_28 rfl rfl ?_
            refine o_iloadN cx X590 d2_29 rfl ?_
            refine o_iconst cx X590 (z := (1 : Int32)) d2_30 rfl ?_
            refine o_isub cx X590 (z := (0 : Int32)) d2_31 rfl ?_
            refine o_ldI cx X590 (v := (.int (0 : Int32))) d2_32 A539 0 (by decide) rfl rfl ?_
            refine o_istoreN cx X590 (Ls' := #[.val (.ref aa), .val (.ref b534), .val (.int (0 : Int32)), .val (.int (5 : Int32))]) d2_33 rfl ?_
            refine o_goto cx X590 15 d2_34 (by decide) (by decide) ?_
            refine o_iloadN cx X590 d2_15 rfl ?_
            refine o_ifYes cx X590 37 d2_16 (by decide) (by decide) (by decide) ?_
            refine o_aloadN cx X590 d2_37 rfl rfl ?_
            refine o_iloadN cx X590 d2_38 rfl ?_
            refine o_ldB cx X590 (v := (.int b5)) d2_39 A0 5 (by decide) rfl rfl ?_
            refine o_aloadN cx X590 d2_40 rfl rfl ?_
            refine o_iloadN cx X590 d2_41 rfl ?_
            refine o_ldB cx X590 (v := (.int b0)) d2_42 A0 0 (by decide) rfl rfl ?_
            refine o_icmpYes cx X590 49 d2_43 (feq hc593).2 (by decide) (by decide) ?_
            refine o_aloadN cx X590 d2_49 rfl rfl ?_
            refine o_iloadN cx X590 d2_50 rfl ?_
            refine o_iloadN cx X590 d2_51 rfl ?_
            refine o_stI cx X590 d2_52 A539 5 (by decide) rfl (Nat.le_of_ble_eq_true rfl) ge541 fun T598 h600 X599 W601 A539 => ?_
            have A0 := A0.other W601 ne_aa_b534
            have KK := KK.wr W601 (Or.inr sz_b534)
            have A539 : own_Ar Z h600 b534 .int [(.int (0 : Int32)), (.int (1 : Int32)), (.int (2 : Int32)), (.int (0 : Int32)), (.int (1 : Int32)), (.int (0 : Int32))] := A539
            refine o_iinc cx X599 (z := (6 : Int32)) (Ls' := #[.val (.ref aa), .val (.ref b534), .val (.int (0 : Int32)), .val (.int (6 : Int32))]) d2_53 rfl rfl rfl ?_
            refine o_goto cx X599 9 d2_56 (by decide) (by decide) ?_
            refine o_iloadN cx X599 d2_9 rfl ?_
            refine o_aloadN cx X599 d2_10 rfl rfl ?_
            refine o_len cx X599 (z := (6 : Int32)) d2_11 A0 rfl ?_
            refine o_icmpYes cx X599 59 d2_12 (by decide) (by decide) (by decide) ?_
            refine o_aloadN cx X599 d2_59 rfl rfl ?_
            have nn0 : ¬ b0 = b3 := fun q => hc552 (Eq.symm q)
            have nn1 : ¬ b0 = b5 := fun q => hc593 (Eq.symm q)
            have et0 : own_b1 b0 = (0 : Int32) := by simp [own_b1, own_i, hc552, nn0, hc593, nn1]
            have et1 : own_b2 b0 b0 = (1 : Int32) := by simp [own_b2, own_i, hc552, nn0, hc593, nn1]
            have et2 : own_b3 b0 b0 b0 = (2 : Int32) := by simp [own_b3, own_i, hc552, nn0, hc593, nn1]
            have et3 : own_b4 b0 b0 b0 b3 = (0 : Int32) := by simp [own_b4, own_i, hc552, nn0, hc593, nn1]
            have et4 : own_b5 b0 b0 b0 b3 b0 = (1 : Int32) := by simp [own_b5, own_i, hc552, nn0, hc593, nn1]
            have et5 : own_b6 b0 b0 b0 b3 b0 b5 = (0 : Int32) := by simp [own_b6, own_i, hc552, nn0, hc593, nn1]
            exact o_retA cx X599 d2_60 rfl rfl rfl ⟨b534, rfl, KK, sz_b534, ge541, by rw [et0, et1, et2, et3, et4, et5]; exact A539⟩ (by decide) (by decide)
        · refine o_icmpYes cx X585 49 d2_43 (feq hc588).2 (by decide) (by decide) ?_
          refine o_aloadN cx X585 d2_49 rfl rfl ?_
          refine o_iloadN cx X585 d2_50 rfl ?_
          refine o_iloadN cx X585 d2_51 rfl ?_
          refine o_stI cx X585 d2_52 A539 4 (by decide) rfl (Nat.le_of_ble_eq_true rfl) ge541 fun T602 h604 X603 W605 A539 => ?_
          have A0 := A0.other W605 ne_aa_b534
          have KK := KK.wr W605 (Or.inr sz_b534)
          have A539 : own_Ar Z h604 b534 .int [(.int (0 : Int32)), (.int (1 : Int32)), (.int (2 : Int32)), (.int (0 : Int32)), (.int (0 : Int32)), (.int (0 : Int32))] := A539
          refine o_iinc cx X603 (z := (5 : Int32)) (Ls' := #[.val (.ref aa), .val (.ref b534), .val (.int (0 : Int32)), .val (.int (5 : Int32))]) d2_53 rfl rfl rfl ?_
          refine o_goto cx X603 9 d2_56 (by decide) (by decide) ?_
          refine o_iloadN cx X603 d2_9 rfl ?_
          refine o_aloadN cx X603 d2_10 rfl rfl ?_
          refine o_len cx X603 (z := (6 : Int32)) d2_11 A0 rfl ?_
          refine o_icmpNo cx X603 d2_12 (by decide) ?_
          refine o_iloadN cx X603 d2_15 rfl ?_
          refine o_ifYes cx X603 37 d2_16 (by decide) (by decide) (by decide) ?_
          refine o_aloadN cx X603 d2_37 rfl rfl ?_
          refine o_iloadN cx X603 d2_38 rfl ?_
          refine o_ldB cx X603 (v := (.int b5)) d2_39 A0 5 (by decide) rfl rfl ?_
          refine o_aloadN cx X603 d2_40 rfl rfl ?_
          refine o_iloadN cx X603 d2_41 rfl ?_
          refine o_ldB cx X603 (v := (.int b0)) d2_42 A0 0 (by decide) rfl rfl ?_
          by_cases hc606 : b5 = b0
          · refine o_icmpNo cx X603 d2_43 (teq hc606).2 ?_
            obtain rfl : b0 = b5 := hc606.symm
            refine o_iinc cx X603 (z := (1 : Int32)) (Ls' := #[.val (.ref aa), .val (.ref b534), .val (.int (1 : Int32)), .val (.int (5 : Int32))]) d2_46 rfl rfl rfl ?_
            refine o_aloadN cx X603 d2_49 rfl rfl ?_
            refine o_iloadN cx X603 d2_50 rfl ?_
            refine o_iloadN cx X603 d2_51 rfl ?_
            refine o_stI cx X603 d2_52 A539 5 (by decide) rfl (Nat.le_of_ble_eq_true rfl) ge541 fun T607 h609 X608 W610 A539 => ?_
            have A0 := A0.other W610 ne_aa_b534
            have KK := KK.wr W610 (Or.inr sz_b534)
            have A539 : own_Ar Z h609 b534 .int [(.int (0 : Int32)), (.int (1 : Int32)), (.int (2 : Int32)), (.int (0 : Int32)), (.int (0 : Int32)), (.int (1 : Int32))] := A539
            refine o_iinc cx X608 (z := (6 : Int32)) (Ls' := #[.val (.ref aa), .val (.ref b534), .val (.int (1 : Int32)), .val (.int (6 : Int32))]) d2_53 rfl rfl rfl ?_
            refine o_goto cx X608 9 d2_56 (by decide) (by decide) ?_
            refine o_iloadN cx X608 d2_9 rfl ?_
            refine o_aloadN cx X608 d2_10 rfl rfl ?_
            refine o_len cx X608 (z := (6 : Int32)) d2_11 A0 rfl ?_
            refine o_icmpYes cx X608 59 d2_12 (by decide) (by decide) (by decide) ?_
            refine o_aloadN cx X608 d2_59 rfl rfl ?_
            have nn0 : ¬ b0 = b3 := fun q => hc552 (Eq.symm q)
            have nn1 : ¬ b0 = b4 := fun q => hc588 (Eq.symm q)
            have et0 : own_b1 b0 = (0 : Int32) := by simp [own_b1, own_i, hc552, nn0, hc588, nn1]
            have et1 : own_b2 b0 b0 = (1 : Int32) := by simp [own_b2, own_i, hc552, nn0, hc588, nn1]
            have et2 : own_b3 b0 b0 b0 = (2 : Int32) := by simp [own_b3, own_i, hc552, nn0, hc588, nn1]
            have et3 : own_b4 b0 b0 b0 b3 = (0 : Int32) := by simp [own_b4, own_i, hc552, nn0, hc588, nn1]
            have et4 : own_b5 b0 b0 b0 b3 b4 = (0 : Int32) := by simp [own_b5, own_i, hc552, nn0, hc588, nn1]
            have et5 : own_b6 b0 b0 b0 b3 b4 b0 = (1 : Int32) := by simp [own_b6, own_i, hc552, nn0, hc588, nn1]
            exact o_retA cx X608 d2_60 rfl rfl rfl ⟨b534, rfl, KK, sz_b534, ge541, by rw [et0, et1, et2, et3, et4, et5]; exact A539⟩ (by decide) (by decide)
          · refine o_icmpYes cx X603 49 d2_43 (feq hc606).2 (by decide) (by decide) ?_
            refine o_aloadN cx X603 d2_49 rfl rfl ?_
            refine o_iloadN cx X603 d2_50 rfl ?_
            refine o_iloadN cx X603 d2_51 rfl ?_
            refine o_stI cx X603 d2_52 A539 5 (by decide) rfl (Nat.le_of_ble_eq_true rfl) ge541 fun T611 h613 X612 W614 A539 => ?_
            have A0 := A0.other W614 ne_aa_b534
            have KK := KK.wr W614 (Or.inr sz_b534)
            have A539 : own_Ar Z h613 b534 .int [(.int (0 : Int32)), (.int (1 : Int32)), (.int (2 : Int32)), (.int (0 : Int32)), (.int (0 : Int32)), (.int (0 : Int32))] := A539
            refine o_iinc cx X612 (z := (6 : Int32)) (Ls' := #[.val (.ref aa), .val (.ref b534), .val (.int (0 : Int32)), .val (.int (6 : Int32))]) d2_53 rfl rfl rfl ?_
            refine o_goto cx X612 9 d2_56 (by decide) (by decide) ?_
            refine o_iloadN cx X612 d2_9 rfl ?_
            refine o_aloadN cx X612 d2_10 rfl rfl ?_
            refine o_len cx X612 (z := (6 : Int32)) d2_11 A0 rfl ?_
            refine o_icmpYes cx X612 59 d2_12 (by decide) (by decide) (by decide) ?_
            refine o_aloadN cx X612 d2_59 rfl rfl ?_
            have nn0 : ¬ b0 = b3 := fun q => hc552 (Eq.symm q)
            have nn1 : ¬ b0 = b4 := fun q => hc588 (Eq.symm q)
            have nn2 : ¬ b0 = b5 := fun q => hc606 (Eq.symm q)
            have et0 : own_b1 b0 = (0 : Int32) := by simp [own_b1, own_i, hc552, nn0, hc588, nn1, hc606, nn2]
            have et1 : own_b2 b0 b0 = (1 : Int32) := by simp [own_b2, own_i, hc552, nn0, hc588, nn1, hc606, nn2]
            have et2 : own_b3 b0 b0 b0 = (2 : Int32) := by simp [own_b3, own_i, hc552, nn0, hc588, nn1, hc606, nn2]
            have et3 : own_b4 b0 b0 b0 b3 = (0 : Int32) := by simp [own_b4, own_i, hc552, nn0, hc588, nn1, hc606, nn2]
            have et4 : own_b5 b0 b0 b0 b3 b4 = (0 : Int32) := by simp [own_b5, own_i, hc552, nn0, hc588, nn1, hc606, nn2]
            have et5 : own_b6 b0 b0 b0 b3 b4 b5 = (0 : Int32) := by simp [own_b6, own_i, hc552, nn0, hc588, nn1, hc606, nn2]
            exact o_retA cx X612 d2_60 rfl rfl rfl ⟨b534, rfl, KK, sz_b534, ge541, by rw [et0, et1, et2, et3, et4, et5]; exact A539⟩ (by decide) (by decide)
    · refine o_icmpNo cx X544 d2_25 (feq hc547).1 ?_
      refine o_aloadN cx X544 d2_28 rfl rfl ?_
      refine o_iloadN cx X544 d2_29 rfl ?_
      refine o_iconst cx X544 (z := (1 : Int32)) d2_30 rfl ?_
      refine o_isub cx X544 (z := (0 : Int32)) d2_31 rfl ?_
      refine o_ldI cx X544 (v := (.int (0 : Int32))) d2_32 A539 0 (by decide) rfl rfl ?_
      refine o_istoreN cx X544 (Ls' := #[.val (.ref aa), .val (.ref b534), .val (.int (0 : Int32)), .val (.int (2 : Int32))]) d2_33 rfl ?_
      refine o_goto cx X544 15 d2_34 (by decide) (by decide) ?_
      refine o_iloadN cx X544 d2_15 rfl ?_
      refine o_ifYes cx X544 37 d2_16 (by decide) (by decide) (by decide) ?_
      refine o_aloadN cx X544 d2_37 rfl rfl ?_
      refine o_iloadN cx X544 d2_38 rfl ?_
      refine o_ldB cx X544 (v := (.int b2)) d2_39 A0 2 (by decide) rfl rfl ?_
      refine o_aloadN cx X544 d2_40 rfl rfl ?_
      refine o_iloadN cx X544 d2_41 rfl ?_
      refine o_ldB cx X544 (v := (.int b0)) d2_42 A0 0 (by decide) rfl rfl ?_
      refine o_icmpYes cx X544 49 d2_43 (feq hc547).2 (by decide) (by decide) ?_
      refine o_aloadN cx X544 d2_49 rfl rfl ?_
      refine o_iloadN cx X544 d2_50 rfl ?_
      refine o_iloadN cx X544 d2_51 rfl ?_
      refine o_stI cx X544 d2_52 A539 2 (by decide) rfl (Nat.le_of_ble_eq_true rfl) ge541 fun T615 h617 X616 W618 A539 => ?_
      have A0 := A0.other W618 ne_aa_b534
      have KK := KK.wr W618 (Or.inr sz_b534)
      have A539 : own_Ar Z h617 b534 .int [(.int (0 : Int32)), (.int (1 : Int32)), (.int (0 : Int32)), (.int (0 : Int32)), (.int (0 : Int32)), (.int (0 : Int32))] := A539
      refine o_iinc cx X616 (z := (3 : Int32)) (Ls' := #[.val (.ref aa), .val (.ref b534), .val (.int (0 : Int32)), .val (.int (3 : Int32))]) d2_53 rfl rfl rfl ?_
      refine o_goto cx X616 9 d2_56 (by decide) (by decide) ?_
      refine o_iloadN cx X616 d2_9 rfl ?_
      refine o_aloadN cx X616 d2_10 rfl rfl ?_
      refine o_len cx X616 (z := (6 : Int32)) d2_11 A0 rfl ?_
      refine o_icmpNo cx X616 d2_12 (by decide) ?_
      refine o_iloadN cx X616 d2_15 rfl ?_
      refine o_ifYes cx X616 37 d2_16 (by decide) (by decide) (by decide) ?_
      refine o_aloadN cx X616 d2_37 rfl rfl ?_
      refine o_iloadN cx X616 d2_38 rfl ?_
      refine o_ldB cx X616 (v := (.int b3)) d2_39 A0 3 (by decide) rfl rfl ?_
      refine o_aloadN cx X616 d2_40 rfl rfl ?_
      refine o_iloadN cx X616 d2_41 rfl ?_
      refine o_ldB cx X616 (v := (.int b0)) d2_42 A0 0 (by decide) rfl rfl ?_
      by_cases hc619 : b3 = b0
      · refine o_icmpNo cx X616 d2_43 (teq hc619).2 ?_
        obtain rfl : b0 = b3 := hc619.symm
        refine o_iinc cx X616 (z := (1 : Int32)) (Ls' := #[.val (.ref aa), .val (.ref b534), .val (.int (1 : Int32)), .val (.int (3 : Int32))]) d2_46 rfl rfl rfl ?_
        refine o_aloadN cx X616 d2_49 rfl rfl ?_
        refine o_iloadN cx X616 d2_50 rfl ?_
        refine o_iloadN cx X616 d2_51 rfl ?_
        refine o_stI cx X616 d2_52 A539 3 (by decide) rfl (Nat.le_of_ble_eq_true rfl) ge541 fun T620 h622 X621 W623 A539 => ?_
        have A0 := A0.other W623 ne_aa_b534
        have KK := KK.wr W623 (Or.inr sz_b534)
        have A539 : own_Ar Z h622 b534 .int [(.int (0 : Int32)), (.int (1 : Int32)), (.int (0 : Int32)), (.int (1 : Int32)), (.int (0 : Int32)), (.int (0 : Int32))] := A539
        refine o_iinc cx X621 (z := (4 : Int32)) (Ls' := #[.val (.ref aa), .val (.ref b534), .val (.int (1 : Int32)), .val (.int (4 : Int32))]) d2_53 rfl rfl rfl ?_
        refine o_goto cx X621 9 d2_56 (by decide) (by decide) ?_
        refine o_iloadN cx X621 d2_9 rfl ?_
        refine o_aloadN cx X621 d2_10 rfl rfl ?_
        refine o_len cx X621 (z := (6 : Int32)) d2_11 A0 rfl ?_
        refine o_icmpNo cx X621 d2_12 (by decide) ?_
        refine o_iloadN cx X621 d2_15 rfl ?_
        refine o_ifNo cx X621 d2_16 (by decide) ?_
        refine o_aloadN cx X621 d2_19 rfl rfl ?_
        refine o_iloadN cx X621 d2_20 rfl ?_
        refine o_ldB cx X621 (v := (.int b4)) d2_21 A0 4 (by decide) rfl rfl ?_
        refine o_aloadN cx X621 d2_22 rfl rfl ?_
        refine o_iloadN cx X621 d2_23 rfl ?_
        refine o_ldB cx X621 (v := (.int b0)) d2_24 A0 1 (by decide) rfl rfl ?_
        by_cases hc624 : b4 = b0
        · refine o_icmpYes cx X621 37 d2_25 (teq hc624).1 (by decide) (by decide) ?_
          obtain rfl : b0 = b4 := hc624.symm
          refine o_aloadN cx X621 d2_37 rfl rfl ?_
          refine o_iloadN cx X621 d2_38 rfl ?_
          refine o_ldB cx X621 (v := (.int b0)) d2_39 A0 4 (by decide) rfl rfl ?_
          refine o_aloadN cx X621 d2_40 rfl rfl ?_
          refine o_iloadN cx X621 d2_41 rfl ?_
          refine o_ldB cx X621 (v := (.int b0)) d2_42 A0 1 (by decide) rfl rfl ?_
          refine o_icmpNo cx X621 d2_43 (teq rfl).2 ?_
          refine o_iinc cx X621 (z := (2 : Int32)) (Ls' := #[.val (.ref aa), .val (.ref b534), .val (.int (2 : Int32)), .val (.int (4 : Int32))]) d2_46 rfl rfl rfl ?_
          refine o_aloadN cx X621 d2_49 rfl rfl ?_
          refine o_iloadN cx X621 d2_50 rfl ?_
          refine o_iloadN cx X621 d2_51 rfl ?_
          refine o_stI cx X621 d2_52 A539 4 (by decide) rfl (Nat.le_of_ble_eq_true rfl) ge541 fun T625 h627 X626 W628 A539 => ?_
          have A0 := A0.other W628 ne_aa_b534
          have KK := KK.wr W628 (Or.inr sz_b534)
          have A539 : own_Ar Z h627 b534 .int [(.int (0 : Int32)), (.int (1 : Int32)), (.int (0 : Int32)), (.int (1 : Int32)), (.int (2 : Int32)), (.int (0 : Int32))] := A539
          refine o_iinc cx X626 (z := (5 : Int32)) (Ls' := #[.val (.ref aa), .val (.ref b534), .val (.int (2 : Int32)), .val (.int (5 : Int32))]) d2_53 rfl rfl rfl ?_
          refine o_goto cx X626 9 d2_56 (by decide) (by decide) ?_
          refine o_iloadN cx X626 d2_9 rfl ?_
          refine o_aloadN cx X626 d2_10 rfl rfl ?_
          refine o_len cx X626 (z := (6 : Int32)) d2_11 A0 rfl ?_
          refine o_icmpNo cx X626 d2_12 (by decide) ?_
          refine o_iloadN cx X626 d2_15 rfl ?_
          refine o_ifNo cx X626 d2_16 (by decide) ?_
          refine o_aloadN cx X626 d2_19 rfl rfl ?_
          refine o_iloadN cx X626 d2_20 rfl ?_
          refine o_ldB cx X626 (v := (.int b5)) d2_21 A0 5 (by decide) rfl rfl ?_
          refine o_aloadN cx X626 d2_22 rfl rfl ?_
          refine o_iloadN cx X626 d2_23 rfl ?_
          refine o_ldB cx X626 (v := (.int b2)) d2_24 A0 2 (by decide) rfl rfl ?_
          by_cases hc629 : b5 = b2
          · refine o_icmpYes cx X626 37 d2_25 (teq hc629).1 (by decide) (by decide) ?_
            obtain rfl : b2 = b5 := hc629.symm
            refine o_aloadN cx X626 d2_37 rfl rfl ?_
            refine o_iloadN cx X626 d2_38 rfl ?_
            refine o_ldB cx X626 (v := (.int b2)) d2_39 A0 5 (by decide) rfl rfl ?_
            refine o_aloadN cx X626 d2_40 rfl rfl ?_
            refine o_iloadN cx X626 d2_41 rfl ?_
            refine o_ldB cx X626 (v := (.int b2)) d2_42 A0 2 (by decide) rfl rfl ?_
            refine o_icmpNo cx X626 d2_43 (teq rfl).2 ?_
            refine o_iinc cx X626 (z := (3 : Int32)) (Ls' := #[.val (.ref aa), .val (.ref b534), .val (.int (3 : Int32)), .val (.int (5 : Int32))]) d2_46 rfl rfl rfl ?_
            refine o_aloadN cx X626 d2_49 rfl rfl ?_
            refine o_iloadN cx X626 d2_50 rfl ?_
            refine o_iloadN cx X626 d2_51 rfl ?_
            refine o_stI cx X626 d2_52 A539 5 (by decide) rfl (Nat.le_of_ble_eq_true rfl) ge541 fun T630 h632 X631 W633 A539 => ?_
            have A0 := A0.other W633 ne_aa_b534
            have KK := KK.wr W633 (Or.inr sz_b534)
            have A539 : own_Ar Z h632 b534 .int [(.int (0 : Int32)), (.int (1 : Int32)), (.int (0 : Int32)), (.int (1 : Int32)), (.int (2 : Int32)), (.int (3 : Int32))] := A539
            refine o_iinc cx X631 (z := (6 : Int32)) (Ls' := #[.val (.ref aa), .val (.ref b534), .val (.int (3 : Int32)), .val (.int (6 : Int32))]) d2_53 rfl rfl rfl ?_
            refine o_goto cx X631 9 d2_56 (by decide) (by decide) ?_
            refine o_iloadN cx X631 d2_9 rfl ?_
            refine o_aloadN cx X631 d2_10 rfl rfl ?_
            refine o_len cx X631 (z := (6 : Int32)) d2_11 A0 rfl ?_
            refine o_icmpYes cx X631 59 d2_12 (by decide) (by decide) (by decide) ?_
            refine o_aloadN cx X631 d2_59 rfl rfl ?_
            have nn0 : ¬ b0 = b2 := fun q => hc547 (Eq.symm q)
            have et0 : own_b1 b0 = (0 : Int32) := by simp [own_b1, own_i, hc547, nn0]
            have et1 : own_b2 b0 b0 = (1 : Int32) := by simp [own_b2, own_i, hc547, nn0]
            have et2 : own_b3 b0 b0 b2 = (0 : Int32) := by simp [own_b3, own_i, hc547, nn0]
            have et3 : own_b4 b0 b0 b2 b0 = (1 : Int32) := by simp [own_b4, own_i, hc547, nn0]
            have et4 : own_b5 b0 b0 b2 b0 b0 = (2 : Int32) := by simp [own_b5, own_i, hc547, nn0]
            have et5 : own_b6 b0 b0 b2 b0 b0 b2 = (3 : Int32) := by simp [own_b6, own_i, hc547, nn0]
            exact o_retA cx X631 d2_60 rfl rfl rfl ⟨b534, rfl, KK, sz_b534, ge541, by rw [et0, et1, et2, et3, et4, et5]; exact A539⟩ (by decide) (by decide)
          · refine o_icmpNo cx X626 d2_25 (feq hc629).1 ?_
            refine o_aloadN cx X626 d2_28 rfl rfl ?_
            refine o_iloadN cx X626 d2_29 rfl ?_
            refine o_iconst cx X626 (z := (1 : Int32)) d2_30 rfl ?_
            refine o_isub cx X626 (z := (1 : Int32)) d2_31 rfl ?_
            refine o_ldI cx X626 (v := (.int (1 : Int32))) d2_32 A539 1 (by decide) rfl rfl ?_
            refine o_istoreN cx X626 (Ls' := #[.val (.ref aa), .val (.ref b534), .val (.int (1 : Int32)), .val (.int (5 : Int32))]) d2_33 rfl ?_
            refine o_goto cx X626 15 d2_34 (by decide) (by decide) ?_
            refine o_iloadN cx X626 d2_15 rfl ?_
            refine o_ifNo cx X626 d2_16 (by decide) ?_
            refine o_aloadN cx X626 d2_19 rfl rfl ?_
            refine o_iloadN cx X626 d2_20 rfl ?_
            refine o_ldB cx X626 (v := (.int b5)) d2_21 A0 5 (by decide) rfl rfl ?_
            refine o_aloadN cx X626 d2_22 rfl rfl ?_
            refine o_iloadN cx X626 d2_23 rfl ?_
            refine o_ldB cx X626 (v := (.int b0)) d2_24 A0 1 (by decide) rfl rfl ?_
            by_cases hc634 : b5 = b0
            · refine o_icmpYes cx X626 37 d2_25 (teq hc634).1 (by decide) (by decide) ?_
              obtain rfl : b0 = b5 := hc634.symm
              refine o_aloadN cx X626 d2_37 rfl rfl ?_
              refine o_iloadN cx X626 d2_38 rfl ?_
              refine o_ldB cx X626 (v := (.int b0)) d2_39 A0 5 (by decide) rfl rfl ?_
              refine o_aloadN cx X626 d2_40 rfl rfl ?_
              refine o_iloadN cx X626 d2_41 rfl ?_
              refine o_ldB cx X626 (v := (.int b0)) d2_42 A0 1 (by decide) rfl rfl ?_
              refine o_icmpNo cx X626 d2_43 (teq rfl).2 ?_
              refine o_iinc cx X626 (z := (2 : Int32)) (Ls' := #[.val (.ref aa), .val (.ref b534), .val (.int (2 : Int32)), .val (.int (5 : Int32))]) d2_46 rfl rfl rfl ?_
              refine o_aloadN cx X626 d2_49 rfl rfl ?_
              refine o_iloadN cx X626 d2_50 rfl ?_
              refine o_iloadN cx X626 d2_51 rfl ?_
              refine o_stI cx X626 d2_52 A539 5 (by decide) rfl (Nat.le_of_ble_eq_true rfl) ge541 fun T635 h637 X636 W638 A539 => ?_
              have A0 := A0.other W638 ne_aa_b534
              have KK := KK.wr W638 (Or.inr sz_b534)
              have A539 : own_Ar Z h637 b534 .int [(.int (0 : Int32)), (.int (1 : Int32)), (.int (0 : Int32)), (.int (1 : Int32)), (.int (2 : Int32)), (.int (2 : Int32))] := A539
              refine o_iinc cx X636 (z := (6 : Int32)) (Ls' := #[.val (.ref aa), .val (.ref b534), .val (.int (2 : Int32)), .val (.int (6 : Int32))]) d2_53 rfl rfl rfl ?_
              refine o_goto cx X636 9 d2_56 (by decide) (by decide) ?_
              refine o_iloadN cx X636 d2_9 rfl ?_
              refine o_aloadN cx X636 d2_10 rfl rfl ?_
              refine o_len cx X636 (z := (6 : Int32)) d2_11 A0 rfl ?_
              refine o_icmpYes cx X636 59 d2_12 (by decide) (by decide) (by decide) ?_
              refine o_aloadN cx X636 d2_59 rfl rfl ?_
              have nn0 : ¬ b0 = b2 := fun q => hc547 (Eq.symm q)
              have nn1 : ¬ b2 = b0 := fun q => hc629 (Eq.symm q)
              have et0 : own_b1 b0 = (0 : Int32) := by simp [own_b1, own_i, hc547, nn0, hc629, nn1]
              have et1 : own_b2 b0 b0 = (1 : Int32) := by simp [own_b2, own_i, hc547, nn0, hc629, nn1]
              have et2 : own_b3 b0 b0 b2 = (0 : Int32) := by simp [own_b3, own_i, hc547, nn0, hc629, nn1]
              have et3 : own_b4 b0 b0 b2 b0 = (1 : Int32) := by simp [own_b4, own_i, hc547, nn0, hc629, nn1]
              have et4 : own_b5 b0 b0 b2 b0 b0 = (2 : Int32) := by simp [own_b5, own_i, hc547, nn0, hc629, nn1]
              have et5 : own_b6 b0 b0 b2 b0 b0 b0 = (2 : Int32) := by simp [own_b6, own_i, hc547, nn0, hc629, nn1]
              exact o_retA cx X636 d2_60 rfl rfl rfl ⟨b534, rfl, KK, sz_b534, ge541, by rw [et0, et1, et2, et3, et4, et5]; exact A539⟩ (by decide) (by decide)
            · refine o_icmpNo cx X626 d2_25 (feq hc634).1 ?_
              refine o_aloadN cx X626 d2_28 rfl rfl ?_
              refine o_iloadN cx X626 d2_29 rfl ?_
              refine o_iconst cx X626 (z := (1 : Int32)) d2_30 rfl ?_
              refine o_isub cx X626 (z := (0 : Int32)) d2_31 rfl ?_
              refine o_ldI cx X626 (v := (.int (0 : Int32))) d2_32 A539 0 (by decide) rfl rfl ?_
              refine o_istoreN cx X626 (Ls' := #[.val (.ref aa), .val (.ref b534), .val (.int (0 : Int32)), .val (.int (5 : Int32))]) d2_33 rfl ?_
              refine o_goto cx X626 15 d2_34 (by decide) (by decide) ?_
              refine o_iloadN cx X626 d2_15 rfl ?_
              refine o_ifYes cx X626 37 d2_16 (by decide) (by decide) (by decide) ?_
              refine o_aloadN cx X626 d2_37 rfl rfl ?_
              refine o_iloadN cx X626 d2_38 rfl ?_
              refine o_ldB cx X626 (v := (.int b5)) d2_39 A0 5 (by decide) rfl rfl ?_
              refine o_aloadN cx X626 d2_40 rfl rfl ?_
              refine o_iloadN cx X626 d2_41 rfl ?_
              refine o_ldB cx X626 (v := (.int b0)) d2_42 A0 0 (by decide) rfl rfl ?_
              refine o_icmpYes cx X626 49 d2_43 (feq hc634).2 (by decide) (by decide) ?_
              refine o_aloadN cx X626 d2_49 rfl rfl ?_
              refine o_iloadN cx X626 d2_50 rfl ?_
              refine o_iloadN cx X626 d2_51 rfl ?_
              refine o_stI cx X626 d2_52 A539 5 (by decide) rfl (Nat.le_of_ble_eq_true rfl) ge541 fun T639 h641 X640 W642 A539 => ?_
              have A0 := A0.other W642 ne_aa_b534
              have KK := KK.wr W642 (Or.inr sz_b534)
              have A539 : own_Ar Z h641 b534 .int [(.int (0 : Int32)), (.int (1 : Int32)), (.int (0 : Int32)), (.int (1 : Int32)), (.int (2 : Int32)), (.int (0 : Int32))] := A539
              refine o_iinc cx X640 (z := (6 : Int32)) (Ls' := #[.val (.ref aa), .val (.ref b534), .val (.int (0 : Int32)), .val (.int (6 : Int32))]) d2_53 rfl rfl rfl ?_
              refine o_goto cx X640 9 d2_56 (by decide) (by decide) ?_
              refine o_iloadN cx X640 d2_9 rfl ?_
              refine o_aloadN cx X640 d2_10 rfl rfl ?_
              refine o_len cx X640 (z := (6 : Int32)) d2_11 A0 rfl ?_
              refine o_icmpYes cx X640 59 d2_12 (by decide) (by decide) (by decide) ?_
              refine o_aloadN cx X640 d2_59 rfl rfl ?_
              have nn0 : ¬ b0 = b2 := fun q => hc547 (Eq.symm q)
              have nn1 : ¬ b2 = b5 := fun q => hc629 (Eq.symm q)
              have nn2 : ¬ b0 = b5 := fun q => hc634 (Eq.symm q)
              have et0 : own_b1 b0 = (0 : Int32) := by simp [own_b1, own_i, hc547, nn0, hc629, nn1, hc634, nn2]
              have et1 : own_b2 b0 b0 = (1 : Int32) := by simp [own_b2, own_i, hc547, nn0, hc629, nn1, hc634, nn2]
              have et2 : own_b3 b0 b0 b2 = (0 : Int32) := by simp [own_b3, own_i, hc547, nn0, hc629, nn1, hc634, nn2]
              have et3 : own_b4 b0 b0 b2 b0 = (1 : Int32) := by simp [own_b4, own_i, hc547, nn0, hc629, nn1, hc634, nn2]
              have et4 : own_b5 b0 b0 b2 b0 b0 = (2 : Int32) := by simp [own_b5, own_i, hc547, nn0, hc629, nn1, hc634, nn2]
              have et5 : own_b6 b0 b0 b2 b0 b0 b5 = (0 : Int32) := by simp [own_b6, own_i, hc547, nn0, hc629, nn1, hc634, nn2]
              exact o_retA cx X640 d2_60 rfl rfl rfl ⟨b534, rfl, KK, sz_b534, ge541, by rw [et0, et1, et2, et3, et4, et5]; exact A539⟩ (by decide) (by decide)
        · refine o_icmpNo cx X621 d2_25 (feq hc624).1 ?_
          refine o_aloadN cx X621 d2_28 rfl rfl ?_
          refine o_iloadN cx X621 d2_29 rfl ?_
          refine o_iconst cx X621 (z := (1 : Int32)) d2_30 rfl ?_
          refine o_isub cx X621 (z := (0 : Int32)) d2_31 rfl ?_
          refine o_ldI cx X621 (v := (.int (0 : Int32))) d2_32 A539 0 (by decide) rfl rfl ?_
          refine o_istoreN cx X621 (Ls' := #[.val (.ref aa), .val (.ref b534), .val (.int (0 : Int32)), .val (.int (4 : Int32))]) d2_33 rfl ?_
          refine o_goto cx X621 15 d2_34 (by decide) (by decide) ?_
          refine o_iloadN cx X621 d2_15 rfl ?_
          refine o_ifYes cx X621 37 d2_16 (by decide) (by decide) (by decide) ?_
          refine o_aloadN cx X621 d2_37 rfl rfl ?_
          refine o_iloadN cx X621 d2_38 rfl ?_
          refine o_ldB cx X621 (v := (.int b4)) d2_39 A0 4 (by decide) rfl rfl ?_
          refine o_aloadN cx X621 d2_40 rfl rfl ?_
          refine o_iloadN cx X621 d2_41 rfl ?_
          refine o_ldB cx X621 (v := (.int b0)) d2_42 A0 0 (by decide) rfl rfl ?_
          refine o_icmpYes cx X621 49 d2_43 (feq hc624).2 (by decide) (by decide) ?_
          refine o_aloadN cx X621 d2_49 rfl rfl ?_
          refine o_iloadN cx X621 d2_50 rfl ?_
          refine o_iloadN cx X621 d2_51 rfl ?_
          refine o_stI cx X621 d2_52 A539 4 (by decide) rfl (Nat.le_of_ble_eq_true rfl) ge541 fun T643 h645 X644 W646 A539 => ?_
          have A0 := A0.other W646 ne_aa_b534
          have KK := KK.wr W646 (Or.inr sz_b534)
          have A539 : own_Ar Z h645 b534 .int [(.int (0 : Int32)), (.int (1 : Int32)), (.int (0 : Int32)), (.int (1 : Int32)), (.int (0 : Int32)), (.int (0 : Int32))] := A539
          refine o_iinc cx X644 (z := (5 : Int32)) (Ls' := #[.val (.ref aa), .val (.ref b534), .val (.int (0 : Int32)), .val (.int (5 : Int32))]) d2_53 rfl rfl rfl ?_
          refine o_goto cx X644 9 d2_56 (by decide) (by decide) ?_
          refine o_iloadN cx X644 d2_9 rfl ?_
          refine o_aloadN cx X644 d2_10 rfl rfl ?_
          refine o_len cx X644 (z := (6 : Int32)) d2_11 A0 rfl ?_
          refine o_icmpNo cx X644 d2_12 (by decide) ?_
          refine o_iloadN cx X644 d2_15 rfl ?_
          refine o_ifYes cx X644 37 d2_16 (by decide) (by decide) (by decide) ?_
          refine o_aloadN cx X644 d2_37 rfl rfl ?_
          refine o_iloadN cx X644 d2_38 rfl ?_
          refine o_ldB cx X644 (v := (.int b5)) d2_39 A0 5 (by decide) rfl rfl ?_
          refine o_aloadN cx X644 d2_40 rfl rfl ?_
          refine o_iloadN cx X644 d2_41 rfl ?_
          refine o_ldB cx X644 (v := (.int b0)) d2_42 A0 0 (by decide) rfl rfl ?_
          by_cases hc647 : b5 = b0
          · refine o_icmpNo cx X644 d2_43 (teq hc647).2 ?_
            obtain rfl : b0 = b5 := hc647.symm
            refine o_iinc cx X644 (z := (1 : Int32)) (Ls' := #[.val (.ref aa), .val (.ref b534), .val (.int (1 : Int32)), .val (.int (5 : Int32))]) d2_46 rfl rfl rfl ?_
            refine o_aloadN cx X644 d2_49 rfl rfl ?_
            refine o_iloadN cx X644 d2_50 rfl ?_
            refine o_iloadN cx X644 d2_51 rfl ?_
            refine o_stI cx X644 d2_52 A539 5 (by decide) rfl (Nat.le_of_ble_eq_true rfl) ge541 fun T648 h650 X649 W651 A539 => ?_
            have A0 := A0.other W651 ne_aa_b534
            have KK := KK.wr W651 (Or.inr sz_b534)
            have A539 : own_Ar Z h650 b534 .int [(.int (0 : Int32)), (.int (1 : Int32)), (.int (0 : Int32)), (.int (1 : Int32)), (.int (0 : Int32)), (.int (1 : Int32))] := A539
            refine o_iinc cx X649 (z := (6 : Int32)) (Ls' := #[.val (.ref aa), .val (.ref b534), .val (.int (1 : Int32)), .val (.int (6 : Int32))]) d2_53 rfl rfl rfl ?_
            refine o_goto cx X649 9 d2_56 (by decide) (by decide) ?_
            refine o_iloadN cx X649 d2_9 rfl ?_
            refine o_aloadN cx X649 d2_10 rfl rfl ?_
            refine o_len cx X649 (z := (6 : Int32)) d2_11 A0 rfl ?_
            refine o_icmpYes cx X649 59 d2_12 (by decide) (by decide) (by decide) ?_
            refine o_aloadN cx X649 d2_59 rfl rfl ?_
            have nn0 : ¬ b0 = b2 := fun q => hc547 (Eq.symm q)
            have nn1 : ¬ b0 = b4 := fun q => hc624 (Eq.symm q)
            have et0 : own_b1 b0 = (0 : Int32) := by simp [own_b1, own_i, hc547, nn0, hc624, nn1]
            have et1 : own_b2 b0 b0 = (1 : Int32) := by simp [own_b2, own_i, hc547, nn0, hc624, nn1]
            have et2 : own_b3 b0 b0 b2 = (0 : Int32) := by simp [own_b3, own_i, hc547, nn0, hc624, nn1]
            have et3 : own_b4 b0 b0 b2 b0 = (1 : Int32) := by simp [own_b4, own_i, hc547, nn0, hc624, nn1]
            have et4 : own_b5 b0 b0 b2 b0 b4 = (0 : Int32) := by simp [own_b5, own_i, hc547, nn0, hc624, nn1]
            have et5 : own_b6 b0 b0 b2 b0 b4 b0 = (1 : Int32) := by simp [own_b6, own_i, hc547, nn0, hc624, nn1]
            exact o_retA cx X649 d2_60 rfl rfl rfl ⟨b534, rfl, KK, sz_b534, ge541, by rw [et0, et1, et2, et3, et4, et5]; exact A539⟩ (by decide) (by decide)
          · refine o_icmpYes cx X644 49 d2_43 (feq hc647).2 (by decide) (by decide) ?_
            refine o_aloadN cx X644 d2_49 rfl rfl ?_
            refine o_iloadN cx X644 d2_50 rfl ?_
            refine o_iloadN cx X644 d2_51 rfl ?_
            refine o_stI cx X644 d2_52 A539 5 (by decide) rfl (Nat.le_of_ble_eq_true rfl) ge541 fun T652 h654 X653 W655 A539 => ?_
            have A0 := A0.other W655 ne_aa_b534
            have KK := KK.wr W655 (Or.inr sz_b534)
            have A539 : own_Ar Z h654 b534 .int [(.int (0 : Int32)), (.int (1 : Int32)), (.int (0 : Int32)), (.int (1 : Int32)), (.int (0 : Int32)), (.int (0 : Int32))] := A539
            refine o_iinc cx X653 (z := (6 : Int32)) (Ls' := #[.val (.ref aa), .val (.ref b534), .val (.int (0 : Int32)), .val (.int (6 : Int32))]) d2_53 rfl rfl rfl ?_
            refine o_goto cx X653 9 d2_56 (by decide) (by decide) ?_
            refine o_iloadN cx X653 d2_9 rfl ?_
            refine o_aloadN cx X653 d2_10 rfl rfl ?_
            refine o_len cx X653 (z := (6 : Int32)) d2_11 A0 rfl ?_
            refine o_icmpYes cx X653 59 d2_12 (by decide) (by decide) (by decide) ?_
            refine o_aloadN cx X653 d2_59 rfl rfl ?_
            have nn0 : ¬ b0 = b2 := fun q => hc547 (Eq.symm q)
            have nn1 : ¬ b0 = b4 := fun q => hc624 (Eq.symm q)
            have nn2 : ¬ b0 = b5 := fun q => hc647 (Eq.symm q)
            have et0 : own_b1 b0 = (0 : Int32) := by simp [own_b1, own_i, hc547, nn0, hc624, nn1, hc647, nn2]
            have et1 : own_b2 b0 b0 = (1 : Int32) := by simp [own_b2, own_i, hc547, nn0, hc624, nn1, hc647, nn2]
            have et2 : own_b3 b0 b0 b2 = (0 : Int32) := by simp [own_b3, own_i, hc547, nn0, hc624, nn1, hc647, nn2]
            have et3 : own_b4 b0 b0 b2 b0 = (1 : Int32) := by simp [own_b4, own_i, hc547, nn0, hc624, nn1, hc647, nn2]
            have et4 : own_b5 b0 b0 b2 b0 b4 = (0 : Int32) := by simp [own_b5, own_i, hc547, nn0, hc624, nn1, hc647, nn2]
            have et5 : own_b6 b0 b0 b2 b0 b4 b5 = (0 : Int32) := by simp [own_b6, own_i, hc547, nn0, hc624, nn1, hc647, nn2]
            exact o_retA cx X653 d2_60 rfl rfl rfl ⟨b534, rfl, KK, sz_b534, ge541, by rw [et0, et1, et2, et3, et4, et5]; exact A539⟩ (by decide) (by decide)
      · refine o_icmpYes cx X616 49 d2_43 (feq hc619).2 (by decide) (by decide) ?_
        refine o_aloadN cx X616 d2_49 rfl rfl ?_
        refine o_iloadN cx X616 d2_50 rfl ?_
        refine o_iloadN cx X616 d2_51 rfl ?_
        refine o_stI cx X616 d2_52 A539 3 (by decide) rfl (Nat.le_of_ble_eq_true rfl) ge541 fun T656 h658 X657 W659 A539 => ?_
        have A0 := A0.other W659 ne_aa_b534
        have KK := KK.wr W659 (Or.inr sz_b534)
        have A539 : own_Ar Z h658 b534 .int [(.int (0 : Int32)), (.int (1 : Int32)), (.int (0 : Int32)), (.int (0 : Int32)), (.int (0 : Int32)), (.int (0 : Int32))] := A539
        refine o_iinc cx X657 (z := (4 : Int32)) (Ls' := #[.val (.ref aa), .val (.ref b534), .val (.int (0 : Int32)), .val (.int (4 : Int32))]) d2_53 rfl rfl rfl ?_
        refine o_goto cx X657 9 d2_56 (by decide) (by decide) ?_
        refine o_iloadN cx X657 d2_9 rfl ?_
        refine o_aloadN cx X657 d2_10 rfl rfl ?_
        refine o_len cx X657 (z := (6 : Int32)) d2_11 A0 rfl ?_
        refine o_icmpNo cx X657 d2_12 (by decide) ?_
        refine o_iloadN cx X657 d2_15 rfl ?_
        refine o_ifYes cx X657 37 d2_16 (by decide) (by decide) (by decide) ?_
        refine o_aloadN cx X657 d2_37 rfl rfl ?_
        refine o_iloadN cx X657 d2_38 rfl ?_
        refine o_ldB cx X657 (v := (.int b4)) d2_39 A0 4 (by decide) rfl rfl ?_
        refine o_aloadN cx X657 d2_40 rfl rfl ?_
        refine o_iloadN cx X657 d2_41 rfl ?_
        refine o_ldB cx X657 (v := (.int b0)) d2_42 A0 0 (by decide) rfl rfl ?_
        by_cases hc660 : b4 = b0
        · refine o_icmpNo cx X657 d2_43 (teq hc660).2 ?_
          obtain rfl : b0 = b4 := hc660.symm
          refine o_iinc cx X657 (z := (1 : Int32)) (Ls' := #[.val (.ref aa), .val (.ref b534), .val (.int (1 : Int32)), .val (.int (4 : Int32))]) d2_46 rfl rfl rfl ?_
          refine o_aloadN cx X657 d2_49 rfl rfl ?_
          refine o_iloadN cx X657 d2_50 rfl ?_
          refine o_iloadN cx X657 d2_51 rfl ?_
          refine o_stI cx X657 d2_52 A539 4 (by decide) rfl (Nat.le_of_ble_eq_true rfl) ge541 fun T661 h663 X662 W664 A539 => ?_
          have A0 := A0.other W664 ne_aa_b534
          have KK := KK.wr W664 (Or.inr sz_b534)
          have A539 : own_Ar Z h663 b534 .int [(.int (0 : Int32)), (.int (1 : Int32)), (.int (0 : Int32)), (.int (0 : Int32)), (.int (1 : Int32)), (.int (0 : Int32))] := A539
          refine o_iinc cx X662 (z := (5 : Int32)) (Ls' := #[.val (.ref aa), .val (.ref b534), .val (.int (1 : Int32)), .val (.int (5 : Int32))]) d2_53 rfl rfl rfl ?_
          refine o_goto cx X662 9 d2_56 (by decide) (by decide) ?_
          refine o_iloadN cx X662 d2_9 rfl ?_
          refine o_aloadN cx X662 d2_10 rfl rfl ?_
          refine o_len cx X662 (z := (6 : Int32)) d2_11 A0 rfl ?_
          refine o_icmpNo cx X662 d2_12 (by decide) ?_
          refine o_iloadN cx X662 d2_15 rfl ?_
          refine o_ifNo cx X662 d2_16 (by decide) ?_
          refine o_aloadN cx X662 d2_19 rfl rfl ?_
          refine o_iloadN cx X662 d2_20 rfl ?_
          refine o_ldB cx X662 (v := (.int b5)) d2_21 A0 5 (by decide) rfl rfl ?_
          refine o_aloadN cx X662 d2_22 rfl rfl ?_
          refine o_iloadN cx X662 d2_23 rfl ?_
          refine o_ldB cx X662 (v := (.int b0)) d2_24 A0 1 (by decide) rfl rfl ?_
          by_cases hc665 : b5 = b0
          · refine o_icmpYes cx X662 37 d2_25 (teq hc665).1 (by decide) (by decide) ?_
            obtain rfl : b0 = b5 := hc665.symm
            refine o_aloadN cx X662 d2_37 rfl rfl ?_
            refine o_iloadN cx X662 d2_38 rfl ?_
            refine o_ldB cx X662 (v := (.int b0)) d2_39 A0 5 (by decide) rfl rfl ?_
            refine o_aloadN cx X662 d2_40 rfl rfl ?_
            refine o_iloadN cx X662 d2_41 rfl ?_
            refine o_ldB cx X662 (v := (.int b0)) d2_42 A0 1 (by decide) rfl rfl ?_
            refine o_icmpNo cx X662 d2_43 (teq rfl).2 ?_
            refine o_iinc cx X662 (z := (2 : Int32)) (Ls' := #[.val (.ref aa), .val (.ref b534), .val (.int (2 : Int32)), .val (.int (5 : Int32))]) d2_46 rfl rfl rfl ?_
            refine o_aloadN cx X662 d2_49 rfl rfl ?_
            refine o_iloadN cx X662 d2_50 rfl ?_
            refine o_iloadN cx X662 d2_51 rfl ?_
            refine o_stI cx X662 d2_52 A539 5 (by decide) rfl (Nat.le_of_ble_eq_true rfl) ge541 fun T666 h668 X667 W669 A539 => ?_
            have A0 := A0.other W669 ne_aa_b534
            have KK := KK.wr W669 (Or.inr sz_b534)
            have A539 : own_Ar Z h668 b534 .int [(.int (0 : Int32)), (.int (1 : Int32)), (.int (0 : Int32)), (.int (0 : Int32)), (.int (1 : Int32)), (.int (2 : Int32))] := A539
            refine o_iinc cx X667 (z := (6 : Int32)) (Ls' := #[.val (.ref aa), .val (.ref b534), .val (.int (2 : Int32)), .val (.int (6 : Int32))]) d2_53 rfl rfl rfl ?_
            refine o_goto cx X667 9 d2_56 (by decide) (by decide) ?_
            refine o_iloadN cx X667 d2_9 rfl ?_
            refine o_aloadN cx X667 d2_10 rfl rfl ?_
            refine o_len cx X667 (z := (6 : Int32)) d2_11 A0 rfl ?_
            refine o_icmpYes cx X667 59 d2_12 (by decide) (by decide) (by decide) ?_
            refine o_aloadN cx X667 d2_59 rfl rfl ?_
            have nn0 : ¬ b0 = b2 := fun q => hc547 (Eq.symm q)
            have nn1 : ¬ b0 = b3 := fun q => hc619 (Eq.symm q)
            have et0 : own_b1 b0 = (0 : Int32) := by simp [own_b1, own_i, hc547, nn0, hc619, nn1]
            have et1 : own_b2 b0 b0 = (1 : Int32) := by simp [own_b2, own_i, hc547, nn0, hc619, nn1]
            have et2 : own_b3 b0 b0 b2 = (0 : Int32) := by simp [own_b3, own_i, hc547, nn0, hc619, nn1]
            have et3 : own_b4 b0 b0 b2 b3 = (0 : Int32) := by simp [own_b4, own_i, hc547, nn0, hc619, nn1]
            have et4 : own_b5 b0 b0 b2 b3 b0 = (1 : Int32) := by simp [own_b5, own_i, hc547, nn0, hc619, nn1]
            have et5 : own_b6 b0 b0 b2 b3 b0 b0 = (2 : Int32) := by simp [own_b6, own_i, hc547, nn0, hc619, nn1]
            exact o_retA cx X667 d2_60 rfl rfl rfl ⟨b534, rfl, KK, sz_b534, ge541, by rw [et0, et1, et2, et3, et4, et5]; exact A539⟩ (by decide) (by decide)
          · refine o_icmpNo cx X662 d2_25 (feq hc665).1 ?_
            refine o_aloadN cx X662 d2_28 rfl rfl ?_
            refine o_iloadN cx X662 d2_29 rfl ?_
            refine o_iconst cx X662 (z := (1 : Int32)) d2_30 rfl ?_
            refine o_isub cx X662 (z := (0 : Int32)) d2_31 rfl ?_
            refine o_ldI cx X662 (v := (.int (0 : Int32))) d2_32 A539 0 (by decide) rfl rfl ?_
            refine o_istoreN cx X662 (Ls' := #[.val (.ref aa), .val (.ref b534), .val (.int (0 : Int32)), .val (.int (5 : Int32))]) d2_33 rfl ?_
            refine o_goto cx X662 15 d2_34 (by decide) (by decide) ?_
            refine o_iloadN cx X662 d2_15 rfl ?_
            refine o_ifYes cx X662 37 d2_16 (by decide) (by decide) (by decide) ?_
            refine o_aloadN cx X662 d2_37 rfl rfl ?_
            refine o_iloadN cx X662 d2_38 rfl ?_
            refine o_ldB cx X662 (v := (.int b5)) d2_39 A0 5 (by decide) rfl rfl ?_
            refine o_aloadN cx X662 d2_40 rfl rfl ?_
            refine o_iloadN cx X662 d2_41 rfl ?_
            refine o_ldB cx X662 (v := (.int b0)) d2_42 A0 0 (by decide) rfl rfl ?_
            refine o_icmpYes cx X662 49 d2_43 (feq hc665).2 (by decide) (by decide) ?_
            refine o_aloadN cx X662 d2_49 rfl rfl ?_
            refine o_iloadN cx X662 d2_50 rfl ?_
            refine o_iloadN cx X662 d2_51 rfl ?_
            refine o_stI cx X662 d2_52 A539 5 (by decide) rfl (Nat.le_of_ble_eq_true rfl) ge541 fun T670 h672 X671 W673 A539 => ?_
            have A0 := A0.other W673 ne_aa_b534
            have KK := KK.wr W673 (Or.inr sz_b534)
            have A539 : own_Ar Z h672 b534 .int [(.int (0 : Int32)), (.int (1 : Int32)), (.int (0 : Int32)), (.int (0 : Int32)), (.int (1 : Int32)), (.int (0 : Int32))] := A539
            refine o_iinc cx X671 (z := (6 : Int32)) (Ls' := #[.val (.ref aa), .val (.ref b534), .val (.int (0 : Int32)), .val (.int (6 : Int32))]) d2_53 rfl rfl rfl ?_
            refine o_goto cx X671 9 d2_56 (by decide) (by decide) ?_
            refine o_iloadN cx X671 d2_9 rfl ?_
            refine o_aloadN cx X671 d2_10 rfl rfl ?_
            refine o_len cx X671 (z := (6 : Int32)) d2_11 A0 rfl ?_
            refine o_icmpYes cx X671 59 d2_12 (by decide) (by decide) (by decide) ?_
            refine o_aloadN cx X671 d2_59 rfl rfl ?_
            have nn0 : ¬ b0 = b2 := fun q => hc547 (Eq.symm q)
            have nn1 : ¬ b0 = b3 := fun q => hc619 (Eq.symm q)
            have nn2 : ¬ b0 = b5 := fun q => hc665 (Eq.symm q)
            have et0 : own_b1 b0 = (0 : Int32) := by simp [own_b1, own_i, hc547, nn0, hc619, nn1, hc665, nn2]
            have et1 : own_b2 b0 b0 = (1 : Int32) := by simp [own_b2, own_i, hc547, nn0, hc619, nn1, hc665, nn2]
            have et2 : own_b3 b0 b0 b2 = (0 : Int32) := by simp [own_b3, own_i, hc547, nn0, hc619, nn1, hc665, nn2]
            have et3 : own_b4 b0 b0 b2 b3 = (0 : Int32) := by simp [own_b4, own_i, hc547, nn0, hc619, nn1, hc665, nn2]
            have et4 : own_b5 b0 b0 b2 b3 b0 = (1 : Int32) := by simp [own_b5, own_i, hc547, nn0, hc619, nn1, hc665, nn2]
            have et5 : own_b6 b0 b0 b2 b3 b0 b5 = (0 : Int32) := by simp [own_b6, own_i, hc547, nn0, hc619, nn1, hc665, nn2]
            exact o_retA cx X671 d2_60 rfl rfl rfl ⟨b534, rfl, KK, sz_b534, ge541, by rw [et0, et1, et2, et3, et4, et5]; exact A539⟩ (by decide) (by decide)
        · refine o_icmpYes cx X657 49 d2_43 (feq hc660).2 (by decide) (by decide) ?_
          refine o_aloadN cx X657 d2_49 rfl rfl ?_
          refine o_iloadN cx X657 d2_50 rfl ?_
          refine o_iloadN cx X657 d2_51 rfl ?_
          refine o_stI cx X657 d2_52 A539 4 (by decide) rfl (Nat.le_of_ble_eq_true rfl) ge541 fun T674 h676 X675 W677 A539 => ?_
          have A0 := A0.other W677 ne_aa_b534
          have KK := KK.wr W677 (Or.inr sz_b534)
          have A539 : own_Ar Z h676 b534 .int [(.int (0 : Int32)), (.int (1 : Int32)), (.int (0 : Int32)), (.int (0 : Int32)), (.int (0 : Int32)), (.int (0 : Int32))] := A539
          refine o_iinc cx X675 (z := (5 : Int32)) (Ls' := #[.val (.ref aa), .val (.ref b534), .val (.int (0 : Int32)), .val (.int (5 : Int32))]) d2_53 rfl rfl rfl ?_
          refine o_goto cx X675 9 d2_56 (by decide) (by decide) ?_
          refine o_iloadN cx X675 d2_9 rfl ?_
          refine o_aloadN cx X675 d2_10 rfl rfl ?_
          refine o_len cx X675 (z := (6 : Int32)) d2_11 A0 rfl ?_
          refine o_icmpNo cx X675 d2_12 (by decide) ?_
          refine o_iloadN cx X675 d2_15 rfl ?_
          refine o_ifYes cx X675 37 d2_16 (by decide) (by decide) (by decide) ?_
          refine o_aloadN cx X675 d2_37 rfl rfl ?_
          refine o_iloadN cx X675 d2_38 rfl ?_
          refine o_ldB cx X675 (v := (.int b5)) d2_39 A0 5 (by decide) rfl rfl ?_
          refine o_aloadN cx X675 d2_40 rfl rfl ?_
          refine o_iloadN cx X675 d2_41 rfl ?_
          refine o_ldB cx X675 (v := (.int b0)) d2_42 A0 0 (by decide) rfl rfl ?_
          by_cases hc678 : b5 = b0
          · refine o_icmpNo cx X675 d2_43 (teq hc678).2 ?_
            obtain rfl : b0 = b5 := hc678.symm
            refine o_iinc cx X675 (z := (1 : Int32)) (Ls' := #[.val (.ref aa), .val (.ref b534), .val (.int (1 : Int32)), .val (.int (5 : Int32))]) d2_46 rfl rfl rfl ?_
            refine o_aloadN cx X675 d2_49 rfl rfl ?_
            refine o_iloadN cx X675 d2_50 rfl ?_
            refine o_iloadN cx X675 d2_51 rfl ?_
            refine o_stI cx X675 d2_52 A539 5 (by decide) rfl (Nat.le_of_ble_eq_true rfl) ge541 fun T679 h681 X680 W682 A539 => ?_
            have A0 := A0.other W682 ne_aa_b534
            have KK := KK.wr W682 (Or.inr sz_b534)
            have A539 : own_Ar Z h681 b534 .int [(.int (0 : Int32)), (.int (1 : Int32)), (.int (0 : Int32)), (.int (0 : Int32)), (.int (0 : Int32)), (.int (1 : Int32))] := A539
            refine o_iinc cx X680 (z := (6 : Int32)) (Ls' := #[.val (.ref aa), .val (.ref b534), .val (.int (1 : Int32)), .val (.int (6 : Int32))]) d2_53 rfl rfl rfl ?_
            refine o_goto cx X680 9 d2_56 (by decide) (by decide) ?_
            refine o_iloadN cx X680 d2_9 rfl ?_
            refine o_aloadN cx X680 d2_10 rfl rfl ?_
            refine o_len cx X680 (z := (6 : Int32)) d2_11 A0 rfl ?_
            refine o_icmpYes cx X680 59 d2_12 (by decide) (by decide) (by decide) ?_
            refine o_aloadN cx X680 d2_59 rfl rfl ?_
            have nn0 : ¬ b0 = b2 := fun q => hc547 (Eq.symm q)
            have nn1 : ¬ b0 = b3 := fun q => hc619 (Eq.symm q)
            have nn2 : ¬ b0 = b4 := fun q => hc660 (Eq.symm q)
            have et0 : own_b1 b0 = (0 : Int32) := by simp [own_b1, own_i, hc547, nn0, hc619, nn1, hc660, nn2]
            have et1 : own_b2 b0 b0 = (1 : Int32) := by simp [own_b2, own_i, hc547, nn0, hc619, nn1, hc660, nn2]
            have et2 : own_b3 b0 b0 b2 = (0 : Int32) := by simp [own_b3, own_i, hc547, nn0, hc619, nn1, hc660, nn2]
            have et3 : own_b4 b0 b0 b2 b3 = (0 : Int32) := by simp [own_b4, own_i, hc547, nn0, hc619, nn1, hc660, nn2]
            have et4 : own_b5 b0 b0 b2 b3 b4 = (0 : Int32) := by simp [own_b5, own_i, hc547, nn0, hc619, nn1, hc660, nn2]
            have et5 : own_b6 b0 b0 b2 b3 b4 b0 = (1 : Int32) := by simp [own_b6, own_i, hc547, nn0, hc619, nn1, hc660, nn2]
            exact o_retA cx X680 d2_60 rfl rfl rfl ⟨b534, rfl, KK, sz_b534, ge541, by rw [et0, et1, et2, et3, et4, et5]; exact A539⟩ (by decide) (by decide)
          · refine o_icmpYes cx X675 49 d2_43 (feq hc678).2 (by decide) (by decide) ?_
            refine o_aloadN cx X675 d2_49 rfl rfl ?_
            refine o_iloadN cx X675 d2_50 rfl ?_
            refine o_iloadN cx X675 d2_51 rfl ?_
            refine o_stI cx X675 d2_52 A539 5 (by decide) rfl (Nat.le_of_ble_eq_true rfl) ge541 fun T683 h685 X684 W686 A539 => ?_
            have A0 := A0.other W686 ne_aa_b534
            have KK := KK.wr W686 (Or.inr sz_b534)
            have A539 : own_Ar Z h685 b534 .int [(.int (0 : Int32)), (.int (1 : Int32)), (.int (0 : Int32)), (.int (0 : Int32)), (.int (0 : Int32)), (.int (0 : Int32))] := A539
            refine o_iinc cx X684 (z := (6 : Int32)) (Ls' := #[.val (.ref aa), .val (.ref b534), .val (.int (0 : Int32)), .val (.int (6 : Int32))]) d2_53 rfl rfl rfl ?_
            refine o_goto cx X684 9 d2_56 (by decide) (by decide) ?_
            refine o_iloadN cx X684 d2_9 rfl ?_
            refine o_aloadN cx X684 d2_10 rfl rfl ?_
            refine o_len cx X684 (z := (6 : Int32)) d2_11 A0 rfl ?_
            refine o_icmpYes cx X684 59 d2_12 (by decide) (by decide) (by decide) ?_
            refine o_aloadN cx X684 d2_59 rfl rfl ?_
            have nn0 : ¬ b0 = b2 := fun q => hc547 (Eq.symm q)
            have nn1 : ¬ b0 = b3 := fun q => hc619 (Eq.symm q)
            have nn2 : ¬ b0 = b4 := fun q => hc660 (Eq.symm q)
            have nn3 : ¬ b0 = b5 := fun q => hc678 (Eq.symm q)
            have et0 : own_b1 b0 = (0 : Int32) := by simp [own_b1, own_i, hc547, nn0, hc619, nn1, hc660, nn2, hc678, nn3]
            have et1 : own_b2 b0 b0 = (1 : Int32) := by simp [own_b2, own_i, hc547, nn0, hc619, nn1, hc660, nn2, hc678, nn3]
            have et2 : own_b3 b0 b0 b2 = (0 : Int32) := by simp [own_b3, own_i, hc547, nn0, hc619, nn1, hc660, nn2, hc678, nn3]
            have et3 : own_b4 b0 b0 b2 b3 = (0 : Int32) := by simp [own_b4, own_i, hc547, nn0, hc619, nn1, hc660, nn2, hc678, nn3]
            have et4 : own_b5 b0 b0 b2 b3 b4 = (0 : Int32) := by simp [own_b5, own_i, hc547, nn0, hc619, nn1, hc660, nn2, hc678, nn3]
            have et5 : own_b6 b0 b0 b2 b3 b4 b5 = (0 : Int32) := by simp [own_b6, own_i, hc547, nn0, hc619, nn1, hc660, nn2, hc678, nn3]
            exact o_retA cx X684 d2_60 rfl rfl rfl ⟨b534, rfl, KK, sz_b534, ge541, by rw [et0, et1, et2, et3, et4, et5]; exact A539⟩ (by decide) (by decide)
  · refine o_icmpYes cx X536 49 d2_43 (feq hc542).2 (by decide) (by decide) ?_
    refine o_aloadN cx X536 d2_49 rfl rfl ?_
    refine o_iloadN cx X536 d2_50 rfl ?_
    refine o_iloadN cx X536 d2_51 rfl ?_
    refine o_stI cx X536 d2_52 A539 1 (by decide) rfl (Nat.le_of_ble_eq_true rfl) ge541 fun T687 h689 X688 W690 A539 => ?_
    have A0 := A0.other W690 ne_aa_b534
    have KK := KK.wr W690 (Or.inr sz_b534)
    have A539 : own_Ar Z h689 b534 .int [(.int (0 : Int32)), (.int (0 : Int32)), (.int (0 : Int32)), (.int (0 : Int32)), (.int (0 : Int32)), (.int (0 : Int32))] := A539
    refine o_iinc cx X688 (z := (2 : Int32)) (Ls' := #[.val (.ref aa), .val (.ref b534), .val (.int (0 : Int32)), .val (.int (2 : Int32))]) d2_53 rfl rfl rfl ?_
    refine o_goto cx X688 9 d2_56 (by decide) (by decide) ?_
    refine o_iloadN cx X688 d2_9 rfl ?_
    refine o_aloadN cx X688 d2_10 rfl rfl ?_
    refine o_len cx X688 (z := (6 : Int32)) d2_11 A0 rfl ?_
    refine o_icmpNo cx X688 d2_12 (by decide) ?_
    refine o_iloadN cx X688 d2_15 rfl ?_
    refine o_ifYes cx X688 37 d2_16 (by decide) (by decide) (by decide) ?_
    refine o_aloadN cx X688 d2_37 rfl rfl ?_
    refine o_iloadN cx X688 d2_38 rfl ?_
    refine o_ldB cx X688 (v := (.int b2)) d2_39 A0 2 (by decide) rfl rfl ?_
    refine o_aloadN cx X688 d2_40 rfl rfl ?_
    refine o_iloadN cx X688 d2_41 rfl ?_
    refine o_ldB cx X688 (v := (.int b0)) d2_42 A0 0 (by decide) rfl rfl ?_
    by_cases hc691 : b2 = b0
    · refine o_icmpNo cx X688 d2_43 (teq hc691).2 ?_
      obtain rfl : b0 = b2 := hc691.symm
      refine o_iinc cx X688 (z := (1 : Int32)) (Ls' := #[.val (.ref aa), .val (.ref b534), .val (.int (1 : Int32)), .val (.int (2 : Int32))]) d2_46 rfl rfl rfl ?_
      refine o_aloadN cx X688 d2_49 rfl rfl ?_
      refine o_iloadN cx X688 d2_50 rfl ?_
      refine o_iloadN cx X688 d2_51 rfl ?_
      refine o_stI cx X688 d2_52 A539 2 (by decide) rfl (Nat.le_of_ble_eq_true rfl) ge541 fun T692 h694 X693 W695 A539 => ?_
      have A0 := A0.other W695 ne_aa_b534
      have KK := KK.wr W695 (Or.inr sz_b534)
      have A539 : own_Ar Z h694 b534 .int [(.int (0 : Int32)), (.int (0 : Int32)), (.int (1 : Int32)), (.int (0 : Int32)), (.int (0 : Int32)), (.int (0 : Int32))] := A539
      refine o_iinc cx X693 (z := (3 : Int32)) (Ls' := #[.val (.ref aa), .val (.ref b534), .val (.int (1 : Int32)), .val (.int (3 : Int32))]) d2_53 rfl rfl rfl ?_
      refine o_goto cx X693 9 d2_56 (by decide) (by decide) ?_
      refine o_iloadN cx X693 d2_9 rfl ?_
      refine o_aloadN cx X693 d2_10 rfl rfl ?_
      refine o_len cx X693 (z := (6 : Int32)) d2_11 A0 rfl ?_
      refine o_icmpNo cx X693 d2_12 (by decide) ?_
      refine o_iloadN cx X693 d2_15 rfl ?_
      refine o_ifNo cx X693 d2_16 (by decide) ?_
      refine o_aloadN cx X693 d2_19 rfl rfl ?_
      refine o_iloadN cx X693 d2_20 rfl ?_
      refine o_ldB cx X693 (v := (.int b3)) d2_21 A0 3 (by decide) rfl rfl ?_
      refine o_aloadN cx X693 d2_22 rfl rfl ?_
      refine o_iloadN cx X693 d2_23 rfl ?_
      refine o_ldB cx X693 (v := (.int b1)) d2_24 A0 1 (by decide) rfl rfl ?_
      by_cases hc696 : b3 = b1
      · refine o_icmpYes cx X693 37 d2_25 (teq hc696).1 (by decide) (by decide) ?_
        obtain rfl : b1 = b3 := hc696.symm
        refine o_aloadN cx X693 d2_37 rfl rfl ?_
        refine o_iloadN cx X693 d2_38 rfl ?_
        refine o_ldB cx X693 (v := (.int b1)) d2_39 A0 3 (by decide) rfl rfl ?_
        refine o_aloadN cx X693 d2_40 rfl rfl ?_
        refine o_iloadN cx X693 d2_41 rfl ?_
        refine o_ldB cx X693 (v := (.int b1)) d2_42 A0 1 (by decide) rfl rfl ?_
        refine o_icmpNo cx X693 d2_43 (teq rfl).2 ?_
        refine o_iinc cx X693 (z := (2 : Int32)) (Ls' := #[.val (.ref aa), .val (.ref b534), .val (.int (2 : Int32)), .val (.int (3 : Int32))]) d2_46 rfl rfl rfl ?_
        refine o_aloadN cx X693 d2_49 rfl rfl ?_
        refine o_iloadN cx X693 d2_50 rfl ?_
        refine o_iloadN cx X693 d2_51 rfl ?_
        refine o_stI cx X693 d2_52 A539 3 (by decide) rfl (Nat.le_of_ble_eq_true rfl) ge541 fun T697 h699 X698 W700 A539 => ?_
        have A0 := A0.other W700 ne_aa_b534
        have KK := KK.wr W700 (Or.inr sz_b534)
        have A539 : own_Ar Z h699 b534 .int [(.int (0 : Int32)), (.int (0 : Int32)), (.int (1 : Int32)), (.int (2 : Int32)), (.int (0 : Int32)), (.int (0 : Int32))] := A539
        refine o_iinc cx X698 (z := (4 : Int32)) (Ls' := #[.val (.ref aa), .val (.ref b534), .val (.int (2 : Int32)), .val (.int (4 : Int32))]) d2_53 rfl rfl rfl ?_
        refine o_goto cx X698 9 d2_56 (by decide) (by decide) ?_
        refine o_iloadN cx X698 d2_9 rfl ?_
        refine o_aloadN cx X698 d2_10 rfl rfl ?_
        refine o_len cx X698 (z := (6 : Int32)) d2_11 A0 rfl ?_
        refine o_icmpNo cx X698 d2_12 (by decide) ?_
        refine o_iloadN cx X698 d2_15 rfl ?_
        refine o_ifNo cx X698 d2_16 (by decide) ?_
        refine o_aloadN cx X698 d2_19 rfl rfl ?_
        refine o_iloadN cx X698 d2_20 rfl ?_
        refine o_ldB cx X698 (v := (.int b4)) d2_21 A0 4 (by decide) rfl rfl ?_
        refine o_aloadN cx X698 d2_22 rfl rfl ?_
        refine o_iloadN cx X698 d2_23 rfl ?_
        refine o_ldB cx X698 (v := (.int b0)) d2_24 A0 2 (by decide) rfl rfl ?_
        by_cases hc701 : b4 = b0
        · refine o_icmpYes cx X698 37 d2_25 (teq hc701).1 (by decide) (by decide) ?_
          obtain rfl : b0 = b4 := hc701.symm
          refine o_aloadN cx X698 d2_37 rfl rfl ?_
          refine o_iloadN cx X698 d2_38 rfl ?_
          refine o_ldB cx X698 (v := (.int b0)) d2_39 A0 4 (by decide) rfl rfl ?_
          refine o_aloadN cx X698 d2_40 rfl rfl ?_
          refine o_iloadN cx X698 d2_41 rfl ?_
          refine o_ldB cx X698 (v := (.int b0)) d2_42 A0 2 (by decide) rfl rfl ?_
          refine o_icmpNo cx X698 d2_43 (teq rfl).2 ?_
          refine o_iinc cx X698 (z := (3 : Int32)) (Ls' := #[.val (.ref aa), .val (.ref b534), .val (.int (3 : Int32)), .val (.int (4 : Int32))]) d2_46 rfl rfl rfl ?_
          refine o_aloadN cx X698 d2_49 rfl rfl ?_
          refine o_iloadN cx X698 d2_50 rfl ?_
          refine o_iloadN cx X698 d2_51 rfl ?_
          refine o_stI cx X698 d2_52 A539 4 (by decide) rfl (Nat.le_of_ble_eq_true rfl) ge541 fun T702 h704 X703 W705 A539 => ?_
          have A0 := A0.other W705 ne_aa_b534
          have KK := KK.wr W705 (Or.inr sz_b534)
          have A539 : own_Ar Z h704 b534 .int [(.int (0 : Int32)), (.int (0 : Int32)), (.int (1 : Int32)), (.int (2 : Int32)), (.int (3 : Int32)), (.int (0 : Int32))] := A539
          refine o_iinc cx X703 (z := (5 : Int32)) (Ls' := #[.val (.ref aa), .val (.ref b534), .val (.int (3 : Int32)), .val (.int (5 : Int32))]) d2_53 rfl rfl rfl ?_
          refine o_goto cx X703 9 d2_56 (by decide) (by decide) ?_
          refine o_iloadN cx X703 d2_9 rfl ?_
          refine o_aloadN cx X703 d2_10 rfl rfl ?_
          refine o_len cx X703 (z := (6 : Int32)) d2_11 A0 rfl ?_
          refine o_icmpNo cx X703 d2_12 (by decide) ?_
          refine o_iloadN cx X703 d2_15 rfl ?_
          refine o_ifNo cx X703 d2_16 (by decide) ?_
          refine o_aloadN cx X703 d2_19 rfl rfl ?_
          refine o_iloadN cx X703 d2_20 rfl ?_
          refine o_ldB cx X703 (v := (.int b5)) d2_21 A0 5 (by decide) rfl rfl ?_
          refine o_aloadN cx X703 d2_22 rfl rfl ?_
          refine o_iloadN cx X703 d2_23 rfl ?_
          refine o_ldB cx X703 (v := (.int b1)) d2_24 A0 3 (by decide) rfl rfl ?_
          by_cases hc706 : b5 = b1
          · refine o_icmpYes cx X703 37 d2_25 (teq hc706).1 (by decide) (by decide) ?_
            obtain rfl : b1 = b5 := hc706.symm
            refine o_aloadN cx X703 d2_37 rfl rfl ?_
            refine o_iloadN cx X703 d2_38 rfl ?_
            refine o_ldB cx X703 (v := (.int b1)) d2_39 A0 5 (by decide) rfl rfl ?_
            refine o_aloadN cx X703 d2_40 rfl rfl ?_
            refine o_iloadN cx X703 d2_41 rfl ?_
            refine o_ldB cx X703 (v := (.int b1)) d2_42 A0 3 (by decide) rfl rfl ?_
            refine o_icmpNo cx X703 d2_43 (teq rfl).2 ?_
            refine o_iinc cx X703 (z := (4 : Int32)) (Ls' := #[.val (.ref aa), .val (.ref b534), .val (.int (4 : Int32)), .val (.int (5 : Int32))]) d2_46 rfl rfl rfl ?_
            refine o_aloadN cx X703 d2_49 rfl rfl ?_
            refine o_iloadN cx X703 d2_50 rfl ?_
            refine o_iloadN cx X703 d2_51 rfl ?_
            refine o_stI cx X703 d2_52 A539 5 (by decide) rfl (Nat.le_of_ble_eq_true rfl) ge541 fun T707 h709 X708 W710 A539 => ?_
            have A0 := A0.other W710 ne_aa_b534
            have KK := KK.wr W710 (Or.inr sz_b534)
            have A539 : own_Ar Z h709 b534 .int [(.int (0 : Int32)), (.int (0 : Int32)), (.int (1 : Int32)), (.int (2 : Int32)), (.int (3 : Int32)), (.int (4 : Int32))] := A539
            refine o_iinc cx X708 (z := (6 : Int32)) (Ls' := #[.val (.ref aa), .val (.ref b534), .val (.int (4 : Int32)), .val (.int (6 : Int32))]) d2_53 rfl rfl rfl ?_
            refine o_goto cx X708 9 d2_56 (by decide) (by decide) ?_
            refine o_iloadN cx X708 d2_9 rfl ?_
            refine o_aloadN cx X708 d2_10 rfl rfl ?_
            refine o_len cx X708 (z := (6 : Int32)) d2_11 A0 rfl ?_
            refine o_icmpYes cx X708 59 d2_12 (by decide) (by decide) (by decide) ?_
            refine o_aloadN cx X708 d2_59 rfl rfl ?_
            have nn0 : ¬ b0 = b1 := fun q => hc542 (Eq.symm q)
            have et0 : own_b1 b0 = (0 : Int32) := by simp [own_b1, own_i, hc542, nn0]
            have et1 : own_b2 b0 b1 = (0 : Int32) := by simp [own_b2, own_i, hc542, nn0]
            have et2 : own_b3 b0 b1 b0 = (1 : Int32) := by simp [own_b3, own_i, hc542, nn0]
            have et3 : own_b4 b0 b1 b0 b1 = (2 : Int32) := by simp [own_b4, own_i, hc542, nn0]
            have et4 : own_b5 b0 b1 b0 b1 b0 = (3 : Int32) := by simp [own_b5, own_i, hc542, nn0]
            have et5 : own_b6 b0 b1 b0 b1 b0 b1 = (4 : Int32) := by simp [own_b6, own_i, hc542, nn0]
            exact o_retA cx X708 d2_60 rfl rfl rfl ⟨b534, rfl, KK, sz_b534, ge541, by rw [et0, et1, et2, et3, et4, et5]; exact A539⟩ (by decide) (by decide)
          · refine o_icmpNo cx X703 d2_25 (feq hc706).1 ?_
            refine o_aloadN cx X703 d2_28 rfl rfl ?_
            refine o_iloadN cx X703 d2_29 rfl ?_
            refine o_iconst cx X703 (z := (1 : Int32)) d2_30 rfl ?_
            refine o_isub cx X703 (z := (2 : Int32)) d2_31 rfl ?_
            refine o_ldI cx X703 (v := (.int (1 : Int32))) d2_32 A539 2 (by decide) rfl rfl ?_
            refine o_istoreN cx X703 (Ls' := #[.val (.ref aa), .val (.ref b534), .val (.int (1 : Int32)), .val (.int (5 : Int32))]) d2_33 rfl ?_
            refine o_goto cx X703 15 d2_34 (by decide) (by decide) ?_
            refine o_iloadN cx X703 d2_15 rfl ?_
            refine o_ifNo cx X703 d2_16 (by decide) ?_
            refine o_aloadN cx X703 d2_19 rfl rfl ?_
            refine o_iloadN cx X703 d2_20 rfl ?_
            refine o_ldB cx X703 (v := (.int b5)) d2_21 A0 5 (by decide) rfl rfl ?_
            refine o_aloadN cx X703 d2_22 rfl rfl ?_
            refine o_iloadN cx X703 d2_23 rfl ?_
            refine o_ldB cx X703 (v := (.int b1)) d2_24 A0 1 (by decide) rfl rfl ?_
            refine o_icmpNo cx X703 d2_25 (feq hc706).1 ?_
            refine o_aloadN cx X703 d2_28 rfl rfl ?_
            refine o_iloadN cx X703 d2_29 rfl ?_
            refine o_iconst cx X703 (z := (1 : Int32)) d2_30 rfl ?_
            refine o_isub cx X703 (z := (0 : Int32)) d2_31 rfl ?_
            refine o_ldI cx X703 (v := (.int (0 : Int32))) d2_32 A539 0 (by decide) rfl rfl ?_
            refine o_istoreN cx X703 (Ls' := #[.val (.ref aa), .val (.ref b534), .val (.int (0 : Int32)), .val (.int (5 : Int32))]) d2_33 rfl ?_
            refine o_goto cx X703 15 d2_34 (by decide) (by decide) ?_
            refine o_iloadN cx X703 d2_15 rfl ?_
            refine o_ifYes cx X703 37 d2_16 (by decide) (by decide) (by decide) ?_
            refine o_aloadN cx X703 d2_37 rfl rfl ?_
            refine o_iloadN cx X703 d2_38 rfl ?_
            refine o_ldB cx X703 (v := (.int b5)) d2_39 A0 5 (by decide) rfl rfl ?_
            refine o_aloadN cx X703 d2_40 rfl rfl ?_
            refine o_iloadN cx X703 d2_41 rfl ?_
            refine o_ldB cx X703 (v := (.int b0)) d2_42 A0 0 (by decide) rfl rfl ?_
            by_cases hc711 : b5 = b0
            · refine o_icmpNo cx X703 d2_43 (teq hc711).2 ?_
              obtain rfl : b0 = b5 := hc711.symm
              refine o_iinc cx X703 (z := (1 : Int32)) (Ls' := #[.val (.ref aa), .val (.ref b534), .val (.int (1 : Int32)), .val (.int (5 : Int32))]) d2_46 rfl rfl rfl ?_
              refine o_aloadN cx X703 d2_49 rfl rfl ?_
              refine o_iloadN cx X703 d2_50 rfl ?_
              refine o_iloadN cx X703 d2_51 rfl ?_
              refine o_stI cx X703 d2_52 A539 5 (by decide) rfl (Nat.le_of_ble_eq_true rfl) ge541 fun T712 h714 X713 W715 A539 => ?_
              have A0 := A0.other W715 ne_aa_b534
              have KK := KK.wr W715 (Or.inr sz_b534)
              have A539 : own_Ar Z h714 b534 .int [(.int (0 : Int32)), (.int (0 : Int32)), (.int (1 : Int32)), (.int (2 : Int32)), (.int (3 : Int32)), (.int (1 : Int32))] := A539
              refine o_iinc cx X713 (z := (6 : Int32)) (Ls' := #[.val (.ref aa), .val (.ref b534), .val (.int (1 : Int32)), .val (.int (6 : Int32))]) d2_53 rfl rfl rfl ?_
              refine o_goto cx X713 9 d2_56 (by decide) (by decide) ?_
              refine o_iloadN cx X713 d2_9 rfl ?_
              refine o_aloadN cx X713 d2_10 rfl rfl ?_
              refine o_len cx X713 (z := (6 : Int32)) d2_11 A0 rfl ?_
              refine o_icmpYes cx X713 59 d2_12 (by decide) (by decide) (by decide) ?_
              refine o_aloadN cx X713 d2_59 rfl rfl ?_
              have nn0 : ¬ b0 = b1 := fun q => hc542 (Eq.symm q)
              have nn1 : ¬ b1 = b0 := fun q => hc706 (Eq.symm q)
              have et0 : own_b1 b0 = (0 : Int32) := by simp [own_b1, own_i, hc542, nn0, hc706, nn1]
              have et1 : own_b2 b0 b1 = (0 : Int32) := by simp [own_b2, own_i, hc542, nn0, hc706, nn1]
              have et2 : own_b3 b0 b1 b0 = (1 : Int32) := by simp [own_b3, own_i, hc542, nn0, hc706, nn1]
              have et3 : own_b4 b0 b1 b0 b1 = (2 : Int32) := by simp [own_b4, own_i, hc542, nn0, hc706, nn1]
              have et4 : own_b5 b0 b1 b0 b1 b0 = (3 : Int32) := by simp [own_b5, own_i, hc542, nn0, hc706, nn1]
              have et5 : own_b6 b0 b1 b0 b1 b0 b0 = (1 : Int32) := by simp [own_b6, own_i, hc542, nn0, hc706, nn1]
              exact o_retA cx X713 d2_60 rfl rfl rfl ⟨b534, rfl, KK, sz_b534, ge541, by rw [et0, et1, et2, et3, et4, et5]; exact A539⟩ (by decide) (by decide)
            · refine o_icmpYes cx X703 49 d2_43 (feq hc711).2 (by decide) (by decide) ?_
              refine o_aloadN cx X703 d2_49 rfl rfl ?_
              refine o_iloadN cx X703 d2_50 rfl ?_
              refine o_iloadN cx X703 d2_51 rfl ?_
              refine o_stI cx X703 d2_52 A539 5 (by decide) rfl (Nat.le_of_ble_eq_true rfl) ge541 fun T716 h718 X717 W719 A539 => ?_
              have A0 := A0.other W719 ne_aa_b534
              have KK := KK.wr W719 (Or.inr sz_b534)
              have A539 : own_Ar Z h718 b534 .int [(.int (0 : Int32)), (.int (0 : Int32)), (.int (1 : Int32)), (.int (2 : Int32)), (.int (3 : Int32)), (.int (0 : Int32))] := A539
              refine o_iinc cx X717 (z := (6 : Int32)) (Ls' := #[.val (.ref aa), .val (.ref b534), .val (.int (0 : Int32)), .val (.int (6 : Int32))]) d2_53 rfl rfl rfl ?_
              refine o_goto cx X717 9 d2_56 (by decide) (by decide) ?_
              refine o_iloadN cx X717 d2_9 rfl ?_
              refine o_aloadN cx X717 d2_10 rfl rfl ?_
              refine o_len cx X717 (z := (6 : Int32)) d2_11 A0 rfl ?_
              refine o_icmpYes cx X717 59 d2_12 (by decide) (by decide) (by decide) ?_
              refine o_aloadN cx X717 d2_59 rfl rfl ?_
              have nn0 : ¬ b0 = b1 := fun q => hc542 (Eq.symm q)
              have nn1 : ¬ b1 = b5 := fun q => hc706 (Eq.symm q)
              have nn2 : ¬ b0 = b5 := fun q => hc711 (Eq.symm q)
              have et0 : own_b1 b0 = (0 : Int32) := by simp [own_b1, own_i, hc542, nn0, hc706, nn1, hc711, nn2]
              have et1 : own_b2 b0 b1 = (0 : Int32) := by simp [own_b2, own_i, hc542, nn0, hc706, nn1, hc711, nn2]
              have et2 : own_b3 b0 b1 b0 = (1 : Int32) := by simp [own_b3, own_i, hc542, nn0, hc706, nn1, hc711, nn2]
              have et3 : own_b4 b0 b1 b0 b1 = (2 : Int32) := by simp [own_b4, own_i, hc542, nn0, hc706, nn1, hc711, nn2]
              have et4 : own_b5 b0 b1 b0 b1 b0 = (3 : Int32) := by simp [own_b5, own_i, hc542, nn0, hc706, nn1, hc711, nn2]
              have et5 : own_b6 b0 b1 b0 b1 b0 b5 = (0 : Int32) := by simp [own_b6, own_i, hc542, nn0, hc706, nn1, hc711, nn2]
              exact o_retA cx X717 d2_60 rfl rfl rfl ⟨b534, rfl, KK, sz_b534, ge541, by rw [et0, et1, et2, et3, et4, et5]; exact A539⟩ (by decide) (by decide)
        · refine o_icmpNo cx X698 d2_25 (feq hc701).1 ?_
          refine o_aloadN cx X698 d2_28 rfl rfl ?_
          refine o_iloadN cx X698 d2_29 rfl ?_
          refine o_iconst cx X698 (z := (1 : Int32)) d2_30 rfl ?_
          refine o_isub cx X698 (z := (1 : Int32)) d2_31 rfl ?_
          refine o_ldI cx X698 (v := (.int (0 : Int32))) d2_32 A539 1 (by decide) rfl rfl ?_
          refine o_istoreN cx X698 (Ls' := #[.val (.ref aa), .val (.ref b534), .val (.int (0 : Int32)), .val (.int (4 : Int32))]) d2_33 rfl ?_
          refine o_goto cx X698 15 d2_34 (by decide) (by decide) ?_
          refine o_iloadN cx X698 d2_15 rfl ?_
          refine o_ifYes cx X698 37 d2_16 (by decide) (by decide) (by decide) ?_
          refine o_aloadN cx X698 d2_37 rfl rfl ?_
          refine o_iloadN cx X698 d2_38 rfl ?_
          refine o_ldB cx X698 (v := (.int b4)) d2_39 A0 4 (by decide) rfl rfl ?_
          refine o_aloadN cx X698 d2_40 rfl rfl ?_
          refine o_iloadN cx X698 d2_41 rfl ?_
          refine o_ldB cx X698 (v := (.int b0)) d2_42 A0 0 (by decide) rfl rfl ?_
          refine o_icmpYes cx X698 49 d2_43 (feq hc701).2 (by decide) (by decide) ?_
          refine o_aloadN cx X698 d2_49 rfl rfl ?_
          refine o_iloadN cx X698 d2_50 rfl ?_
          refine o_iloadN cx X698 d2_51 rfl ?_
          refine o_stI cx X698 d2_52 A539 4 (by decide) rfl (Nat.le_of_ble_eq_true rfl) ge541 fun T720 h722 X721 W723 A539 => ?_
          have A0 := A0.other W723 ne_aa_b534
          have KK := KK.wr W723 (Or.inr sz_b534)
          have A539 : own_Ar Z h722 b534 .int [(.int (0 : Int32)), (.int (0 : Int32)), (.int (1 : Int32)), (.int (2 : Int32)), (.int (0 : Int32)), (.int (0 : Int32))] := A539
          refine o_iinc cx X721 (z := (5 : Int32)) (Ls' := #[.val (.ref aa), .val (.ref b534), .val (.int (0 : Int32)), .val (.int (5 : Int32))]) d2_53 rfl rfl rfl ?_
          refine o_goto cx X721 9 d2_56 (by decide) (by decide) ?_
          refine o_iloadN cx X721 d2_9 rfl ?_
          refine o_aloadN cx X721 d2_10 rfl rfl ?_
          refine o_len cx X721 (z := (6 : Int32)) d2_11 A0 rfl ?_
          refine o_icmpNo cx X721 d2_12 (by decide) ?_
          refine o_iloadN cx X721 d2_15 rfl ?_
          refine o_ifYes cx X721 37 d2_16 (by decide) (by decide) (by decide) ?_
          refine o_aloadN cx X721 d2_37 rfl rfl ?_
          refine o_iloadN cx X721 d2_38 rfl ?_
          refine o_ldB cx X721 (v := (.int b5)) d2_39 A0 5 (by decide) rfl rfl ?_
          refine o_aloadN cx X721 d2_40 rfl rfl ?_
          refine o_iloadN cx X721 d2_41 rfl ?_
          refine o_ldB cx X721 (v := (.int b0)) d2_42 A0 0 (by decide) rfl rfl ?_
          by_cases hc724 : b5 = b0
          · refine o_icmpNo cx X721 d2_43 (teq hc724).2 ?_
            obtain rfl : b0 = b5 := hc724.symm
            refine o_iinc cx X721 (z := (1 : Int32)) (Ls' := #[.val (.ref aa), .val (.ref b534), .val (.int (1 : Int32)), .val (.int (5 : Int32))]) d2_46 rfl rfl rfl ?_
            refine o_aloadN cx X721 d2_49 rfl rfl ?_
            refine o_iloadN cx X721 d2_50 rfl ?_
            refine o_iloadN cx X721 d2_51 rfl ?_
            refine o_stI cx X721 d2_52 A539 5 (by decide) rfl (Nat.le_of_ble_eq_true rfl) ge541 fun T725 h727 X726 W728 A539 => ?_
            have A0 := A0.other W728 ne_aa_b534
            have KK := KK.wr W728 (Or.inr sz_b534)
            have A539 : own_Ar Z h727 b534 .int [(.int (0 : Int32)), (.int (0 : Int32)), (.int (1 : Int32)), (.int (2 : Int32)), (.int (0 : Int32)), (.int (1 : Int32))] := A539
            refine o_iinc cx X726 (z := (6 : Int32)) (Ls' := #[.val (.ref aa), .val (.ref b534), .val (.int (1 : Int32)), .val (.int (6 : Int32))]) d2_53 rfl rfl rfl ?_
            refine o_goto cx X726 9 d2_56 (by decide) (by decide) ?_
            refine o_iloadN cx X726 d2_9 rfl ?_
            refine o_aloadN cx X726 d2_10 rfl rfl ?_
            refine o_len cx X726 (z := (6 : Int32)) d2_11 A0 rfl ?_
            refine o_icmpYes cx X726 59 d2_12 (by decide) (by decide) (by decide) ?_
            refine o_aloadN cx X726 d2_59 rfl rfl ?_
            have nn0 : ¬ b0 = b1 := fun q => hc542 (Eq.symm q)
            have nn1 : ¬ b0 = b4 := fun q => hc701 (Eq.symm q)
            have et0 : own_b1 b0 = (0 : Int32) := by simp [own_b1, own_i, hc542, nn0, hc701, nn1]
            have et1 : own_b2 b0 b1 = (0 : Int32) := by simp [own_b2, own_i, hc542, nn0, hc701, nn1]
            have et2 : own_b3 b0 b1 b0 = (1 : Int32) := by simp [own_b3, own_i, hc542, nn0, hc701, nn1]
            have et3 : own_b4 b0 b1 b0 b1 = (2 : Int32) := by simp [own_b4, own_i, hc542, nn0, hc701, nn1]
            have et4 : own_b5 b0 b1 b0 b1 b4 = (0 : Int32) := by simp [own_b5, own_i, hc542, nn0, hc701, nn1]
            have et5 : own_b6 b0 b1 b0 b1 b4 b0 = (1 : Int32) := by simp [own_b6, own_i, hc542, nn0, hc701, nn1]
            exact o_retA cx X726 d2_60 rfl rfl rfl ⟨b534, rfl, KK, sz_b534, ge541, by rw [et0, et1, et2, et3, et4, et5]; exact A539⟩ (by decide) (by decide)
          · refine o_icmpYes cx X721 49 d2_43 (feq hc724).2 (by decide) (by decide) ?_
            refine o_aloadN cx X721 d2_49 rfl rfl ?_
            refine o_iloadN cx X721 d2_50 rfl ?_
            refine o_iloadN cx X721 d2_51 rfl ?_
            refine o_stI cx X721 d2_52 A539 5 (by decide) rfl (Nat.le_of_ble_eq_true rfl) ge541 fun T729 h731 X730 W732 A539 => ?_
            have A0 := A0.other W732 ne_aa_b534
            have KK := KK.wr W732 (Or.inr sz_b534)
            have A539 : own_Ar Z h731 b534 .int [(.int (0 : Int32)), (.int (0 : Int32)), (.int (1 : Int32)), (.int (2 : Int32)), (.int (0 : Int32)), (.int (0 : Int32))] := A539
            refine o_iinc cx X730 (z := (6 : Int32)) (Ls' := #[.val (.ref aa), .val (.ref b534), .val (.int (0 : Int32)), .val (.int (6 : Int32))]) d2_53 rfl rfl rfl ?_
            refine o_goto cx X730 9 d2_56 (by decide) (by decide) ?_
            refine o_iloadN cx X730 d2_9 rfl ?_
            refine o_aloadN cx X730 d2_10 rfl rfl ?_
            refine o_len cx X730 (z := (6 : Int32)) d2_11 A0 rfl ?_
            refine o_icmpYes cx X730 59 d2_12 (by decide) (by decide) (by decide) ?_
            refine o_aloadN cx X730 d2_59 rfl rfl ?_
            have nn0 : ¬ b0 = b1 := fun q => hc542 (Eq.symm q)
            have nn1 : ¬ b0 = b4 := fun q => hc701 (Eq.symm q)
            have nn2 : ¬ b0 = b5 := fun q => hc724 (Eq.symm q)
            have et0 : own_b1 b0 = (0 : Int32) := by simp [own_b1, own_i, hc542, nn0, hc701, nn1, hc724, nn2]
            have et1 : own_b2 b0 b1 = (0 : Int32) := by simp [own_b2, own_i, hc542, nn0, hc701, nn1, hc724, nn2]
            have et2 : own_b3 b0 b1 b0 = (1 : Int32) := by simp [own_b3, own_i, hc542, nn0, hc701, nn1, hc724, nn2]
            have et3 : own_b4 b0 b1 b0 b1 = (2 : Int32) := by simp [own_b4, own_i, hc542, nn0, hc701, nn1, hc724, nn2]
            have et4 : own_b5 b0 b1 b0 b1 b4 = (0 : Int32) := by simp [own_b5, own_i, hc542, nn0, hc701, nn1, hc724, nn2]
            have et5 : own_b6 b0 b1 b0 b1 b4 b5 = (0 : Int32) := by simp [own_b6, own_i, hc542, nn0, hc701, nn1, hc724, nn2]
            exact o_retA cx X730 d2_60 rfl rfl rfl ⟨b534, rfl, KK, sz_b534, ge541, by rw [et0, et1, et2, et3, et4, et5]; exact A539⟩ (by decide) (by decide)
      · refine o_icmpNo cx X693 d2_25 (feq hc696).1 ?_
        refine o_aloadN cx X693 d2_28 rfl rfl ?_
        refine o_iloadN cx X693 d2_29 rfl ?_
        refine o_iconst cx X693 (z := (1 : Int32)) d2_30 rfl ?_
        refine o_isub cx X693 (z := (0 : Int32)) d2_31 rfl ?_
        refine o_ldI cx X693 (v := (.int (0 : Int32))) d2_32 A539 0 (by decide) rfl rfl ?_
        refine o_istoreN cx X693 (Ls' := #[.val (.ref aa), .val (.ref b534), .val (.int (0 : Int32)), .val (.int (3 : Int32))]) d2_33 rfl ?_
        refine o_goto cx X693 15 d2_34 (by decide) (by decide) ?_
        refine o_iloadN cx X693 d2_15 rfl ?_
        refine o_ifYes cx X693 37 d2_16 (by decide) (by decide) (by decide) ?_
        refine o_aloadN cx X693 d2_37 rfl rfl ?_
        refine o_iloadN cx X693 d2_38 rfl ?_
        refine o_ldB cx X693 (v := (.int b3)) d2_39 A0 3 (by decide) rfl rfl ?_
        refine o_aloadN cx X693 d2_40 rfl rfl ?_
        refine o_iloadN cx X693 d2_41 rfl ?_
        refine o_ldB cx X693 (v := (.int b0)) d2_42 A0 0 (by decide) rfl rfl ?_
        by_cases hc733 : b3 = b0
        · refine o_icmpNo cx X693 d2_43 (teq hc733).2 ?_
          obtain rfl : b0 = b3 := hc733.symm
          refine o_iinc cx X693 (z := (1 : Int32)) (Ls' := #[.val (.ref aa), .val (.ref b534), .val (.int (1 : Int32)), .val (.int (3 : Int32))]) d2_46 rfl rfl rfl ?_
          refine o_aloadN cx X693 d2_49 rfl rfl ?_
          refine o_iloadN cx X693 d2_50 rfl ?_
          refine o_iloadN cx X693 d2_51 rfl ?_
          refine o_stI cx X693 d2_52 A539 3 (by decide) rfl (Nat.le_of_ble_eq_true rfl) ge541 fun T734 h736 X735 W737 A539 => ?_
          have A0 := A0.other W737 ne_aa_b534
          have KK := KK.wr W737 (Or.inr sz_b534)
          have A539 : own_Ar Z h736 b534 .int [(.int (0 : Int32)), (.int (0 : Int32)), (.int (1 : Int32)), (.int (1 : Int32)), (.int (0 : Int32)), (.int (0 : Int32))] := A539
          refine o_iinc cx X735 (z := (4 : Int32)) (Ls' := #[.val (.ref aa), .val (.ref b534), .val (.int (1 : Int32)), .val (.int (4 : Int32))]) d2_53 rfl rfl rfl ?_
          refine o_goto cx X735 9 d2_56 (by decide) (by decide) ?_
          refine o_iloadN cx X735 d2_9 rfl ?_
          refine o_aloadN cx X735 d2_10 rfl rfl ?_
          refine o_len cx X735 (z := (6 : Int32)) d2_11 A0 rfl ?_
          refine o_icmpNo cx X735 d2_12 (by decide) ?_
          refine o_iloadN cx X735 d2_15 rfl ?_
          refine o_ifNo cx X735 d2_16 (by decide) ?_
          refine o_aloadN cx X735 d2_19 rfl rfl ?_
          refine o_iloadN cx X735 d2_20 rfl ?_
          refine o_ldB cx X735 (v := (.int b4)) d2_21 A0 4 (by decide) rfl rfl ?_
          refine o_aloadN cx X735 d2_22 rfl rfl ?_
          refine o_iloadN cx X735 d2_23 rfl ?_
          refine o_ldB cx X735 (v := (.int b1)) d2_24 A0 1 (by decide) rfl rfl ?_
          by_cases hc738 : b4 = b1
          · refine o_icmpYes cx X735 37 d2_25 (teq hc738).1 (by decide) (by decide) ?_
            obtain rfl : b1 = b4 := hc738.symm
            refine o_aloadN cx X735 d2_37 rfl rfl ?_
            refine o_iloadN cx X735 d2_38 rfl ?_
            refine o_ldB cx X735 (v := (.int b1)) d2_39 A0 4 (by decide) rfl rfl ?_
            refine o_aloadN cx X735 d2_40 rfl rfl ?_
            refine o_iloadN cx X735 d2_41 rfl ?_
            refine o_ldB cx X735 (v := (.int b1)) d2_42 A0 1 (by decide) rfl rfl ?_
            refine o_icmpNo cx X735 d2_43 (teq rfl).2 ?_
            refine o_iinc cx X735 (z := (2 : Int32)) (Ls' := #[.val (.ref aa), .val (.ref b534), .val (.int (2 : Int32)), .val (.int (4 : Int32))]) d2_46 rfl rfl rfl ?_
            refine o_aloadN cx X735 d2_49 rfl rfl ?_
            refine o_iloadN cx X735 d2_50 rfl ?_
            refine o_iloadN cx X735 d2_51 rfl ?_
            refine o_stI cx X735 d2_52 A539 4 (by decide) rfl (Nat.le_of_ble_eq_true rfl) ge541 fun T739 h741 X740 W742 A539 => ?_
            have A0 := A0.other W742 ne_aa_b534
            have KK := KK.wr W742 (Or.inr sz_b534)
            have A539 : own_Ar Z h741 b534 .int [(.int (0 : Int32)), (.int (0 : Int32)), (.int (1 : Int32)), (.int (1 : Int32)), (.int (2 : Int32)), (.int (0 : Int32))] := A539
            refine o_iinc cx X740 (z := (5 : Int32)) (Ls' := #[.val (.ref aa), .val (.ref b534), .val (.int (2 : Int32)), .val (.int (5 : Int32))]) d2_53 rfl rfl rfl ?_
            refine o_goto cx X740 9 d2_56 (by decide) (by decide) ?_
            refine o_iloadN cx X740 d2_9 rfl ?_
            refine o_aloadN cx X740 d2_10 rfl rfl ?_
            refine o_len cx X740 (z := (6 : Int32)) d2_11 A0 rfl ?_
            refine o_icmpNo cx X740 d2_12 (by decide) ?_
            refine o_iloadN cx X740 d2_15 rfl ?_
            refine o_ifNo cx X740 d2_16 (by decide) ?_
            refine o_aloadN cx X740 d2_19 rfl rfl ?_
            refine o_iloadN cx X740 d2_20 rfl ?_
            refine o_ldB cx X740 (v := (.int b5)) d2_21 A0 5 (by decide) rfl rfl ?_
            refine o_aloadN cx X740 d2_22 rfl rfl ?_
            refine o_iloadN cx X740 d2_23 rfl ?_
            refine o_ldB cx X740 (v := (.int b0)) d2_24 A0 2 (by decide) rfl rfl ?_
            by_cases hc743 : b5 = b0
            · refine o_icmpYes cx X740 37 d2_25 (teq hc743).1 (by decide) (by decide) ?_
              obtain rfl : b0 = b5 := hc743.symm
              refine o_aloadN cx X740 d2_37 rfl rfl ?_
              refine o_iloadN cx X740 d2_38 rfl ?_
              refine o_ldB cx X740 (v := (.int b0)) d2_39 A0 5 (by decide) rfl rfl ?_
              refine o_aloadN cx X740 d2_40 rfl rfl ?_
              refine o_iloadN cx X740 d2_41 rfl ?_
              refine o_ldB cx X740 (v := (.int b0)) d2_42 A0 2 (by decide) rfl rfl ?_
              refine o_icmpNo cx X740 d2_43 (teq rfl).2 ?_
              refine o_iinc cx X740 (z := (3 : Int32)) (Ls' := #[.val (.ref aa), .val (.ref b534), .val (.int (3 : Int32)), .val (.int (5 : Int32))]) d2_46 rfl rfl rfl ?_
              refine o_aloadN cx X740 d2_49 rfl rfl ?_
              refine o_iloadN cx X740 d2_50 rfl ?_
              refine o_iloadN cx X740 d2_51 rfl ?_
              refine o_stI cx X740 d2_52 A539 5 (by decide) rfl (Nat.le_of_ble_eq_true rfl) ge541 fun T744 h746 X745 W747 A539 => ?_
              have A0 := A0.other W747 ne_aa_b534
              have KK := KK.wr W747 (Or.inr sz_b534)
              have A539 : own_Ar Z h746 b534 .int [(.int (0 : Int32)), (.int (0 : Int32)), (.int (1 : Int32)), (.int (1 : Int32)), (.int (2 : Int32)), (.int (3 : Int32))] := A539
              refine o_iinc cx X745 (z := (6 : Int32)) (Ls' := #[.val (.ref aa), .val (.ref b534), .val (.int (3 : Int32)), .val (.int (6 : Int32))]) d2_53 rfl rfl rfl ?_
              refine o_goto cx X745 9 d2_56 (by decide) (by decide) ?_
              refine o_iloadN cx X745 d2_9 rfl ?_
              refine o_aloadN cx X745 d2_10 rfl rfl ?_
              refine o_len cx X745 (z := (6 : Int32)) d2_11 A0 rfl ?_
              refine o_icmpYes cx X745 59 d2_12 (by decide) (by decide) (by decide) ?_
              refine o_aloadN cx X745 d2_59 rfl rfl ?_
              have nn0 : ¬ b0 = b1 := fun q => hc542 (Eq.symm q)
              have nn1 : ¬ b1 = b0 := fun q => hc696 (Eq.symm q)
              have et0 : own_b1 b0 = (0 : Int32) := by simp [own_b1, own_i, hc542, nn0, hc696, nn1]
              have et1 : own_b2 b0 b1 = (0 : Int32) := by simp [own_b2, own_i, hc542, nn0, hc696, nn1]
              have et2 : own_b3 b0 b1 b0 = (1 : Int32) := by simp [own_b3, own_i, hc542, nn0, hc696, nn1]
              have et3 : own_b4 b0 b1 b0 b0 = (1 : Int32) := by simp [own_b4, own_i, hc542, nn0, hc696, nn1]
              have et4 : own_b5 b0 b1 b0 b0 b1 = (2 : Int32) := by simp [own_b5, own_i, hc542, nn0, hc696, nn1]
              have et5 : own_b6 b0 b1 b0 b0 b1 b0 = (3 : Int32) := by simp [own_b6, own_i, hc542, nn0, hc696, nn1]
              exact o_retA cx X745 d2_60 rfl rfl rfl ⟨b534, rfl, KK, sz_b534, ge541, by rw [et0, et1, et2, et3, et4, et5]; exact A539⟩ (by decide) (by decide)
            · refine o_icmpNo cx X740 d2_25 (feq hc743).1 ?_
              refine o_aloadN cx X740 d2_28 rfl rfl ?_
              refine o_iloadN cx X740 d2_29 rfl ?_
              refine o_iconst cx X740 (z := (1 : Int32)) d2_30 rfl ?_
              refine o_isub cx X740 (z := (1 : Int32)) d2_31 rfl ?_
              refine o_ldI cx X740 (v := (.int (0 : Int32))) d2_32 A539 1 (by decide) rfl rfl ?_
              refine o_istoreN cx X740 (Ls' := #[.val (.ref aa), .val (.ref b534), .val (.int (0 : Int32)), .val (.int (5 : Int32))]) d2_33 rfl ?_
              refine o_goto cx X740 15 d2_34 (by decide) (by decide) ?_
              refine o_iloadN cx X740 d2_15 rfl ?_
              refine o_ifYes cx X740 37 d2_16 (by decide) (by decide) (by decide) ?_
              refine o_aloadN cx X740 d2_37 rfl rfl ?_
              refine o_iloadN cx X740 d2_38 rfl ?_
              refine o_ldB cx X740 (v := (.int b5)) d2_39 A0 5 (by decide) rfl rfl ?_
              refine o_aloadN cx X740 d2_40 rfl rfl ?_
              refine o_iloadN cx X740 d2_41 rfl ?_
              refine o_ldB cx X740 (v := (.int b0)) d2_42 A0 0 (by decide) rfl rfl ?_
              refine o_icmpYes cx X740 49 d2_43 (feq hc743).2 (by decide) (by decide) ?_
              refine o_aloadN cx X740 d2_49 rfl rfl ?_
              refine o_iloadN cx X740 d2_50 rfl ?_
              refine o_iloadN cx X740 d2_51 rfl ?_
              refine o_stI cx X740 d2_52 A539 5 (by decide) rfl (Nat.le_of_ble_eq_true rfl) ge541 fun T748 h750 X749 W751 A539 => ?_
              have A0 := A0.other W751 ne_aa_b534
              have KK := KK.wr W751 (Or.inr sz_b534)
              have A539 : own_Ar Z h750 b534 .int [(.int (0 : Int32)), (.int (0 : Int32)), (.int (1 : Int32)), (.int (1 : Int32)), (.int (2 : Int32)), (.int (0 : Int32))] := A539
              refine o_iinc cx X749 (z := (6 : Int32)) (Ls' := #[.val (.ref aa), .val (.ref b534), .val (.int (0 : Int32)), .val (.int (6 : Int32))]) d2_53 rfl rfl rfl ?_
              refine o_goto cx X749 9 d2_56 (by decide) (by decide) ?_
              refine o_iloadN cx X749 d2_9 rfl ?_
              refine o_aloadN cx X749 d2_10 rfl rfl ?_
              refine o_len cx X749 (z := (6 : Int32)) d2_11 A0 rfl ?_
              refine o_icmpYes cx X749 59 d2_12 (by decide) (by decide) (by decide) ?_
              refine o_aloadN cx X749 d2_59 rfl rfl ?_
              have nn0 : ¬ b0 = b1 := fun q => hc542 (Eq.symm q)
              have nn1 : ¬ b1 = b0 := fun q => hc696 (Eq.symm q)
              have nn2 : ¬ b0 = b5 := fun q => hc743 (Eq.symm q)
              have et0 : own_b1 b0 = (0 : Int32) := by simp [own_b1, own_i, hc542, nn0, hc696, nn1, hc743, nn2]
              have et1 : own_b2 b0 b1 = (0 : Int32) := by simp [own_b2, own_i, hc542, nn0, hc696, nn1, hc743, nn2]
              have et2 : own_b3 b0 b1 b0 = (1 : Int32) := by simp [own_b3, own_i, hc542, nn0, hc696, nn1, hc743, nn2]
              have et3 : own_b4 b0 b1 b0 b0 = (1 : Int32) := by simp [own_b4, own_i, hc542, nn0, hc696, nn1, hc743, nn2]
              have et4 : own_b5 b0 b1 b0 b0 b1 = (2 : Int32) := by simp [own_b5, own_i, hc542, nn0, hc696, nn1, hc743, nn2]
              have et5 : own_b6 b0 b1 b0 b0 b1 b5 = (0 : Int32) := by simp [own_b6, own_i, hc542, nn0, hc696, nn1, hc743, nn2]
              exact o_retA cx X749 d2_60 rfl rfl rfl ⟨b534, rfl, KK, sz_b534, ge541, by rw [et0, et1, et2, et3, et4, et5]; exact A539⟩ (by decide) (by decide)
          · refine o_icmpNo cx X735 d2_25 (feq hc738).1 ?_
            refine o_aloadN cx X735 d2_28 rfl rfl ?_
            refine o_iloadN cx X735 d2_29 rfl ?_
            refine o_iconst cx X735 (z := (1 : Int32)) d2_30 rfl ?_
            refine o_isub cx X735 (z := (0 : Int32)) d2_31 rfl ?_
            refine o_ldI cx X735 (v := (.int (0 : Int32))) d2_32 A539 0 (by decide) rfl rfl ?_
            refine o_istoreN cx X735 (Ls' := #[.val (.ref aa), .val (.ref b534), .val (.int (0 : Int32)), .val (.int (4 : Int32))]) d2_33 rfl ?_
            refine o_goto cx X735 15 d2_34 (by decide) (by decide) ?_
            refine o_iloadN cx X735 d2_15 rfl ?_
            refine o_ifYes cx X735 37 d2_16 (by decide) (by decide) (by decide) ?_
            refine o_aloadN cx X735 d2_37 rfl rfl ?_
            refine o_iloadN cx X735 d2_38 rfl ?_
            refine o_ldB cx X735 (v := (.int b4)) d2_39 A0 4 (by decide) rfl rfl ?_
            refine o_aloadN cx X735 d2_40 rfl rfl ?_
            refine o_iloadN cx X735 d2_41 rfl ?_
            refine o_ldB cx X735 (v := (.int b0)) d2_42 A0 0 (by decide) rfl rfl ?_
            by_cases hc752 : b4 = b0
            · refine o_icmpNo cx X735 d2_43 (teq hc752).2 ?_
              obtain rfl : b0 = b4 := hc752.symm
              refine o_iinc cx X735 (z := (1 : Int32)) (Ls' := #[.val (.ref aa), .val (.ref b534), .val (.int (1 : Int32)), .val (.int (4 : Int32))]) d2_46 rfl rfl rfl ?_
              refine o_aloadN cx X735 d2_49 rfl rfl ?_
              refine o_iloadN cx X735 d2_50 rfl ?_
              refine o_iloadN cx X735 d2_51 rfl ?_
              refine o_stI cx X735 d2_52 A539 4 (by decide) rfl (Nat.le_of_ble_eq_true rfl) ge541 fun T753 h755 X754 W756 A539 => ?_
              have A0 := A0.other W756 ne_aa_b534
              have KK := KK.wr W756 (Or.inr sz_b534)
              have A539 : own_Ar Z h755 b534 .int [(.int (0 : Int32)), (.int (0 : Int32)), (.int (1 : Int32)), (.int (1 : Int32)), (.int (1 : Int32)), (.int (0 : Int32))] := A539
              refine o_iinc cx X754 (z := (5 : Int32)) (Ls' := #[.val (.ref aa), .val (.ref b534), .val (.int (1 : Int32)), .val (.int (5 : Int32))]) d2_53 rfl rfl rfl ?_
              refine o_goto cx X754 9 d2_56 (by decide) (by decide) ?_
              refine o_iloadN cx X754 d2_9 rfl ?_
              refine o_aloadN cx X754 d2_10 rfl rfl ?_
              refine o_len cx X754 (z := (6 : Int32)) d2_11 A0 rfl ?_
              refine o_icmpNo cx X754 d2_12 (by decide) ?_
              refine o_iloadN cx X754 d2_15 rfl ?_
              refine o_ifNo cx X754 d2_16 (by decide) ?_
              refine o_aloadN cx X754 d2_19 rfl rfl ?_
              refine o_iloadN cx X754 d2_20 rfl ?_
              refine o_ldB cx X754 (v := (.int b5)) d2_21 A0 5 (by decide) rfl rfl ?_
              refine o_aloadN cx X754 d2_22 rfl rfl ?_
              refine o_iloadN cx X754 d2_23 rfl ?_
              refine o_ldB cx X754 (v := (.int b1)) d2_24 A0 1 (by decide) rfl rfl ?_
              by_cases hc757 : b5 = b1
              · refine o_icmpYes cx X754 37 d2_25 (teq hc757).1 (by decide) (by decide) ?_
                obtain rfl : b1 = b5 := hc757.symm
                refine o_aloadN cx X754 d2_37 rfl rfl ?_
                refine o_iloadN cx X754 d2_38 rfl ?_
                refine o_ldB cx X754 (v := (.int b1)) d2_39 A0 5 (by decide) rfl rfl ?_
                refine o_aloadN cx X754 d2_40 rfl rfl ?_
                refine o_iloadN cx X754 d2_41 rfl ?_
                refine o_ldB cx X754 (v := (.int b1)) d2_42 A0 1 (by decide) rfl rfl ?_
                refine o_icmpNo cx X754 d2_43 (teq rfl).2 ?_
                refine o_iinc cx X754 (z := (2 : Int32)) (Ls' := #[.val (.ref aa), .val (.ref b534), .val (.int (2 : Int32)), .val (.int (5 : Int32))]) d2_46 rfl rfl rfl ?_
                refine o_aloadN cx X754 d2_49 rfl rfl ?_
                refine o_iloadN cx X754 d2_50 rfl ?_
                refine o_iloadN cx X754 d2_51 rfl ?_
                refine o_stI cx X754 d2_52 A539 5 (by decide) rfl (Nat.le_of_ble_eq_true rfl) ge541 fun T758 h760 X759 W761 A539 => ?_
                have A0 := A0.other W761 ne_aa_b534
                have KK := KK.wr W761 (Or.inr sz_b534)
                have A539 : own_Ar Z h760 b534 .int [(.int (0 : Int32)), (.int (0 : Int32)), (.int (1 : Int32)), (.int (1 : Int32)), (.int (1 : Int32)), (.int (2 : Int32))] := A539
                refine o_iinc cx X759 (z := (6 : Int32)) (Ls' := #[.val (.ref aa), .val (.ref b534), .val (.int (2 : Int32)), .val (.int (6 : Int32))]) d2_53 rfl rfl rfl ?_
                refine o_goto cx X759 9 d2_56 (by decide) (by decide) ?_
                refine o_iloadN cx X759 d2_9 rfl ?_
                refine o_aloadN cx X759 d2_10 rfl rfl ?_
                refine o_len cx X759 (z := (6 : Int32)) d2_11 A0 rfl ?_
                refine o_icmpYes cx X759 59 d2_12 (by decide) (by decide) (by decide) ?_
                refine o_aloadN cx X759 d2_59 rfl rfl ?_
                have nn0 : ¬ b0 = b1 := fun q => hc542 (Eq.symm q)
                have nn1 : ¬ b1 = b0 := fun q => hc696 (Eq.symm q)
                have nn2 : ¬ b1 = b0 := fun q => hc738 (Eq.symm q)
                have et0 : own_b1 b0 = (0 : Int32) := by simp [own_b1, own_i, hc542, nn0, hc696, nn1, hc738, nn2]
                have et1 : own_b2 b0 b1 = (0 : Int32) := by simp [own_b2, own_i, hc542, nn0, hc696, nn1, hc738, nn2]
                have et2 : own_b3 b0 b1 b0 = (1 : Int32) := by simp [own_b3, own_i, hc542, nn0, hc696, nn1, hc738, nn2]
                have et3 : own_b4 b0 b1 b0 b0 = (1 : Int32) := by simp [own_b4, own_i, hc542, nn0, hc696, nn1, hc738, nn2]
                have et4 : own_b5 b0 b1 b0 b0 b0 = (1 : Int32) := by simp [own_b5, own_i, hc542, nn0, hc696, nn1, hc738, nn2]
                have et5 : own_b6 b0 b1 b0 b0 b0 b1 = (2 : Int32) := by simp [own_b6, own_i, hc542, nn0, hc696, nn1, hc738, nn2]
                exact o_retA cx X759 d2_60 rfl rfl rfl ⟨b534, rfl, KK, sz_b534, ge541, by rw [et0, et1, et2, et3, et4, et5]; exact A539⟩ (by decide) (by decide)
              · refine o_icmpNo cx X754 d2_25 (feq hc757).1 ?_
                refine o_aloadN cx X754 d2_28 rfl rfl ?_
                refine o_iloadN cx X754 d2_29 rfl ?_
                refine o_iconst cx X754 (z := (1 : Int32)) d2_30 rfl ?_
                refine o_isub cx X754 (z := (0 : Int32)) d2_31 rfl ?_
                refine o_ldI cx X754 (v := (.int (0 : Int32))) d2_32 A539 0 (by decide) rfl rfl ?_
                refine o_istoreN cx X754 (Ls' := #[.val (.ref aa), .val (.ref b534), .val (.int (0 : Int32)), .val (.int (5 : Int32))]) d2_33 rfl ?_
                refine o_goto cx X754 15 d2_34 (by decide) (by decide) ?_
                refine o_iloadN cx X754 d2_15 rfl ?_
                refine o_ifYes cx X754 37 d2_16 (by decide) (by decide) (by decide) ?_
                refine o_aloadN cx X754 d2_37 rfl rfl ?_
                refine o_iloadN cx X754 d2_38 rfl ?_
                refine o_ldB cx X754 (v := (.int b5)) d2_39 A0 5 (by decide) rfl rfl ?_
                refine o_aloadN cx X754 d2_40 rfl rfl ?_
                refine o_iloadN cx X754 d2_41 rfl ?_
                refine o_ldB cx X754 (v := (.int b0)) d2_42 A0 0 (by decide) rfl rfl ?_
                by_cases hc762 : b5 = b0
                · refine o_icmpNo cx X754 d2_43 (teq hc762).2 ?_
                  obtain rfl : b0 = b5 := hc762.symm
                  refine o_iinc cx X754 (z := (1 : Int32)) (Ls' := #[.val (.ref aa), .val (.ref b534), .val (.int (1 : Int32)), .val (.int (5 : Int32))]) d2_46 rfl rfl rfl ?_
                  refine o_aloadN cx X754 d2_49 rfl rfl ?_
                  refine o_iloadN cx X754 d2_50 rfl ?_
                  refine o_iloadN cx X754 d2_51 rfl ?_
                  refine o_stI cx X754 d2_52 A539 5 (by decide) rfl (Nat.le_of_ble_eq_true rfl) ge541 fun T763 h765 X764 W766 A539 => ?_
                  have A0 := A0.other W766 ne_aa_b534
                  have KK := KK.wr W766 (Or.inr sz_b534)
                  have A539 : own_Ar Z h765 b534 .int [(.int (0 : Int32)), (.int (0 : Int32)), (.int (1 : Int32)), (.int (1 : Int32)), (.int (1 : Int32)), (.int (1 : Int32))] := A539
                  refine o_iinc cx X764 (z := (6 : Int32)) (Ls' := #[.val (.ref aa), .val (.ref b534), .val (.int (1 : Int32)), .val (.int (6 : Int32))]) d2_53 rfl rfl rfl ?_
                  refine o_goto cx X764 9 d2_56 (by decide) (by decide) ?_
                  refine o_iloadN cx X764 d2_9 rfl ?_
                  refine o_aloadN cx X764 d2_10 rfl rfl ?_
                  refine o_len cx X764 (z := (6 : Int32)) d2_11 A0 rfl ?_
                  refine o_icmpYes cx X764 59 d2_12 (by decide) (by decide) (by decide) ?_
                  refine o_aloadN cx X764 d2_59 rfl rfl ?_
                  have nn0 : ¬ b0 = b1 := fun q => hc542 (Eq.symm q)
                  have nn1 : ¬ b1 = b0 := fun q => hc696 (Eq.symm q)
                  have nn2 : ¬ b1 = b0 := fun q => hc738 (Eq.symm q)
                  have nn3 : ¬ b1 = b0 := fun q => hc757 (Eq.symm q)
                  have et0 : own_b1 b0 = (0 : Int32) := by simp [own_b1, own_i, hc542, nn0, hc696, nn1, hc738, nn2, hc757, nn3]
                  have et1 : own_b2 b0 b1 = (0 : Int32) := by simp [own_b2, own_i, hc542, nn0, hc696, nn1, hc738, nn2, hc757, nn3]
                  have et2 : own_b3 b0 b1 b0 = (1 : Int32) := by simp [own_b3, own_i, hc542, nn0, hc696, nn1, hc738, nn2, hc757, nn3]
                  have et3 : own_b4 b0 b1 b0 b0 = (1 : Int32) := by simp [own_b4, own_i, hc542, nn0, hc696, nn1, hc738, nn2, hc757, nn3]
                  have et4 : own_b5 b0 b1 b0 b0 b0 = (1 : Int32) := by simp [own_b5, own_i, hc542, nn0, hc696, nn1, hc738, nn2, hc757, nn3]
                  have et5 : own_b6 b0 b1 b0 b0 b0 b0 = (1 : Int32) := by simp [own_b6, own_i, hc542, nn0, hc696, nn1, hc738, nn2, hc757, nn3]
                  exact o_retA cx X764 d2_60 rfl rfl rfl ⟨b534, rfl, KK, sz_b534, ge541, by rw [et0, et1, et2, et3, et4, et5]; exact A539⟩ (by decide) (by decide)
                · refine o_icmpYes cx X754 49 d2_43 (feq hc762).2 (by decide) (by decide) ?_
                  refine o_aloadN cx X754 d2_49 rfl rfl ?_
                  refine o_iloadN cx X754 d2_50 rfl ?_
                  refine o_iloadN cx X754 d2_51 rfl ?_
                  refine o_stI cx X754 d2_52 A539 5 (by decide) rfl (Nat.le_of_ble_eq_true rfl) ge541 fun T767 h769 X768 W770 A539 => ?_
                  have A0 := A0.other W770 ne_aa_b534
                  have KK := KK.wr W770 (Or.inr sz_b534)
                  have A539 : own_Ar Z h769 b534 .int [(.int (0 : Int32)), (.int (0 : Int32)), (.int (1 : Int32)), (.int (1 : Int32)), (.int (1 : Int32)), (.int (0 : Int32))] := A539
                  refine o_iinc cx X768 (z := (6 : Int32)) (Ls' := #[.val (.ref aa), .val (.ref b534), .val (.int (0 : Int32)), .val (.int (6 : Int32))]) d2_53 rfl rfl rfl ?_
                  refine o_goto cx X768 9 d2_56 (by decide) (by decide) ?_
                  refine o_iloadN cx X768 d2_9 rfl ?_
                  refine o_aloadN cx X768 d2_10 rfl rfl ?_
                  refine o_len cx X768 (z := (6 : Int32)) d2_11 A0 rfl ?_
                  refine o_icmpYes cx X768 59 d2_12 (by decide) (by decide) (by decide) ?_
                  refine o_aloadN cx X768 d2_59 rfl rfl ?_
                  have nn0 : ¬ b0 = b1 := fun q => hc542 (Eq.symm q)
                  have nn1 : ¬ b1 = b0 := fun q => hc696 (Eq.symm q)
                  have nn2 : ¬ b1 = b0 := fun q => hc738 (Eq.symm q)
                  have nn3 : ¬ b1 = b5 := fun q => hc757 (Eq.symm q)
                  have nn4 : ¬ b0 = b5 := fun q => hc762 (Eq.symm q)
                  have et0 : own_b1 b0 = (0 : Int32) := by simp [own_b1, own_i, hc542, nn0, hc696, nn1, hc738, nn2, hc757, nn3, hc762, nn4]
                  have et1 : own_b2 b0 b1 = (0 : Int32) := by simp [own_b2, own_i, hc542, nn0, hc696, nn1, hc738, nn2, hc757, nn3, hc762, nn4]
                  have et2 : own_b3 b0 b1 b0 = (1 : Int32) := by simp [own_b3, own_i, hc542, nn0, hc696, nn1, hc738, nn2, hc757, nn3, hc762, nn4]
                  have et3 : own_b4 b0 b1 b0 b0 = (1 : Int32) := by simp [own_b4, own_i, hc542, nn0, hc696, nn1, hc738, nn2, hc757, nn3, hc762, nn4]
                  have et4 : own_b5 b0 b1 b0 b0 b0 = (1 : Int32) := by simp [own_b5, own_i, hc542, nn0, hc696, nn1, hc738, nn2, hc757, nn3, hc762, nn4]
                  have et5 : own_b6 b0 b1 b0 b0 b0 b5 = (0 : Int32) := by simp [own_b6, own_i, hc542, nn0, hc696, nn1, hc738, nn2, hc757, nn3, hc762, nn4]
                  exact o_retA cx X768 d2_60 rfl rfl rfl ⟨b534, rfl, KK, sz_b534, ge541, by rw [et0, et1, et2, et3, et4, et5]; exact A539⟩ (by decide) (by decide)
            · refine o_icmpYes cx X735 49 d2_43 (feq hc752).2 (by decide) (by decide) ?_
              refine o_aloadN cx X735 d2_49 rfl rfl ?_
              refine o_iloadN cx X735 d2_50 rfl ?_
              refine o_iloadN cx X735 d2_51 rfl ?_
              refine o_stI cx X735 d2_52 A539 4 (by decide) rfl (Nat.le_of_ble_eq_true rfl) ge541 fun T771 h773 X772 W774 A539 => ?_
              have A0 := A0.other W774 ne_aa_b534
              have KK := KK.wr W774 (Or.inr sz_b534)
              have A539 : own_Ar Z h773 b534 .int [(.int (0 : Int32)), (.int (0 : Int32)), (.int (1 : Int32)), (.int (1 : Int32)), (.int (0 : Int32)), (.int (0 : Int32))] := A539
              refine o_iinc cx X772 (z := (5 : Int32)) (Ls' := #[.val (.ref aa), .val (.ref b534), .val (.int (0 : Int32)), .val (.int (5 : Int32))]) d2_53 rfl rfl rfl ?_
              refine o_goto cx X772 9 d2_56 (by decide) (by decide) ?_
              refine o_iloadN cx X772 d2_9 rfl ?_
              refine o_aloadN cx X772 d2_10 rfl rfl ?_
              refine o_len cx X772 (z := (6 : Int32)) d2_11 A0 rfl ?_
              refine o_icmpNo cx X772 d2_12 (by decide) ?_
              refine o_iloadN cx X772 d2_15 rfl ?_
              refine o_ifYes cx X772 37 d2_16 (by decide) (by decide) (by decide) ?_
              refine o_aloadN cx X772 d2_37 rfl rfl ?_
              refine o_iloadN cx X772 d2_38 rfl ?_
              refine o_ldB cx X772 (v := (.int b5)) d2_39 A0 5 (by decide) rfl rfl ?_
              refine o_aloadN cx X772 d2_40 rfl rfl ?_
              refine o_iloadN cx X772 d2_41 rfl ?_
              refine o_ldB cx X772 (v := (.int b0)) d2_42 A0 0 (by decide) rfl rfl ?_
              by_cases hc775 : b5 = b0
              · refine o_icmpNo cx X772 d2_43 (teq hc775).2 ?_
                obtain rfl : b0 = b5 := hc775.symm
                refine o_iinc cx X772 (z := (1 : Int32)) (Ls' := #[.val (.ref aa), .val (.ref b534), .val (.int (1 : Int32)), .val (.int (5 : Int32))]) d2_46 rfl rfl rfl ?_
                refine o_aloadN cx X772 d2_49 rfl rfl ?_
                refine o_iloadN cx X772 d2_50 rfl ?_
                refine o_iloadN cx X772 d2_51 rfl ?_
                refine o_stI cx X772 d2_52 A539 5 (by decide) rfl (Nat.le_of_ble_eq_true rfl) ge541 fun T776 h778 X777 W779 A539 => ?_
                have A0 := A0.other W779 ne_aa_b534
                have KK := KK.wr W779 (Or.inr sz_b534)
                have A539 : own_Ar Z h778 b534 .int [(.int (0 : Int32)), (.int (0 : Int32)), (.int (1 : Int32)), (.int (1 : Int32)), (.int (0 : Int32)), (.int (1 : Int32))] := A539
                refine o_iinc cx X777 (z := (6 : Int32)) (Ls' := #[.val (.ref aa), .val (.ref b534), .val (.int (1 : Int32)), .val (.int (6 : Int32))]) d2_53 rfl rfl rfl ?_
                refine o_goto cx X777 9 d2_56 (by decide) (by decide) ?_
                refine o_iloadN cx X777 d2_9 rfl ?_
                refine o_aloadN cx X777 d2_10 rfl rfl ?_
                refine o_len cx X777 (z := (6 : Int32)) d2_11 A0 rfl ?_
                refine o_icmpYes cx X777 59 d2_12 (by decide) (by decide) (by decide) ?_
                refine o_aloadN cx X777 d2_59 rfl rfl ?_
                have nn0 : ¬ b0 = b1 := fun q => hc542 (Eq.symm q)
                have nn1 : ¬ b1 = b0 := fun q => hc696 (Eq.symm q)
                have nn2 : ¬ b1 = b4 := fun q => hc738 (Eq.symm q)
                have nn3 : ¬ b0 = b4 := fun q => hc752 (Eq.symm q)
                have et0 : own_b1 b0 = (0 : Int32) := by simp [own_b1, own_i, hc542, nn0, hc696, nn1, hc738, nn2, hc752, nn3]
                have et1 : own_b2 b0 b1 = (0 : Int32) := by simp [own_b2, own_i, hc542, nn0, hc696, nn1, hc738, nn2, hc752, nn3]
                have et2 : own_b3 b0 b1 b0 = (1 : Int32) := by simp [own_b3, own_i, hc542, nn0, hc696, nn1, hc738, nn2, hc752, nn3]
                have et3 : own_b4 b0 b1 b0 b0 = (1 : Int32) := by simp [own_b4, own_i, hc542, nn0, hc696, nn1, hc738, nn2, hc752, nn3]
                have et4 : own_b5 b0 b1 b0 b0 b4 = (0 : Int32) := by simp [own_b5, own_i, hc542, nn0, hc696, nn1, hc738, nn2, hc752, nn3]
                have et5 : own_b6 b0 b1 b0 b0 b4 b0 = (1 : Int32) := by simp [own_b6, own_i, hc542, nn0, hc696, nn1, hc738, nn2, hc752, nn3]
                exact o_retA cx X777 d2_60 rfl rfl rfl ⟨b534, rfl, KK, sz_b534, ge541, by rw [et0, et1, et2, et3, et4, et5]; exact A539⟩ (by decide) (by decide)
              · refine o_icmpYes cx X772 49 d2_43 (feq hc775).2 (by decide) (by decide) ?_
                refine o_aloadN cx X772 d2_49 rfl rfl ?_
                refine o_iloadN cx X772 d2_50 rfl ?_
                refine o_iloadN cx X772 d2_51 rfl ?_
                refine o_stI cx X772 d2_52 A539 5 (by decide) rfl (Nat.le_of_ble_eq_true rfl) ge541 fun T780 h782 X781 W783 A539 => ?_
                have A0 := A0.other W783 ne_aa_b534
                have KK := KK.wr W783 (Or.inr sz_b534)
                have A539 : own_Ar Z h782 b534 .int [(.int (0 : Int32)), (.int (0 : Int32)), (.int (1 : Int32)), (.int (1 : Int32)), (.int (0 : Int32)), (.int (0 : Int32))] := A539
                refine o_iinc cx X781 (z := (6 : Int32)) (Ls' := #[.val (.ref aa), .val (.ref b534), .val (.int (0 : Int32)), .val (.int (6 : Int32))]) d2_53 rfl rfl rfl ?_
                refine o_goto cx X781 9 d2_56 (by decide) (by decide) ?_
                refine o_iloadN cx X781 d2_9 rfl ?_
                refine o_aloadN cx X781 d2_10 rfl rfl ?_
                refine o_len cx X781 (z := (6 : Int32)) d2_11 A0 rfl ?_
                refine o_icmpYes cx X781 59 d2_12 (by decide) (by decide) (by decide) ?_
                refine o_aloadN cx X781 d2_59 rfl rfl ?_
                have nn0 : ¬ b0 = b1 := fun q => hc542 (Eq.symm q)
                have nn1 : ¬ b1 = b0 := fun q => hc696 (Eq.symm q)
                have nn2 : ¬ b1 = b4 := fun q => hc738 (Eq.symm q)
                have nn3 : ¬ b0 = b4 := fun q => hc752 (Eq.symm q)
                have nn4 : ¬ b0 = b5 := fun q => hc775 (Eq.symm q)
                have et0 : own_b1 b0 = (0 : Int32) := by simp [own_b1, own_i, hc542, nn0, hc696, nn1, hc738, nn2, hc752, nn3, hc775, nn4]
                have et1 : own_b2 b0 b1 = (0 : Int32) := by simp [own_b2, own_i, hc542, nn0, hc696, nn1, hc738, nn2, hc752, nn3, hc775, nn4]
                have et2 : own_b3 b0 b1 b0 = (1 : Int32) := by simp [own_b3, own_i, hc542, nn0, hc696, nn1, hc738, nn2, hc752, nn3, hc775, nn4]
                have et3 : own_b4 b0 b1 b0 b0 = (1 : Int32) := by simp [own_b4, own_i, hc542, nn0, hc696, nn1, hc738, nn2, hc752, nn3, hc775, nn4]
                have et4 : own_b5 b0 b1 b0 b0 b4 = (0 : Int32) := by simp [own_b5, own_i, hc542, nn0, hc696, nn1, hc738, nn2, hc752, nn3, hc775, nn4]
                have et5 : own_b6 b0 b1 b0 b0 b4 b5 = (0 : Int32) := by simp [own_b6, own_i, hc542, nn0, hc696, nn1, hc738, nn2, hc752, nn3, hc775, nn4]
                exact o_retA cx X781 d2_60 rfl rfl rfl ⟨b534, rfl, KK, sz_b534, ge541, by rw [et0, et1, et2, et3, et4, et5]; exact A539⟩ (by decide) (by decide)
        · refine o_icmpYes cx X693 49 d2_43 (feq hc733).2 (by decide) (by decide) ?_
          refine o_aloadN cx X693 d2_49 rfl rfl ?_
          refine o_iloadN cx X693 d2_50 rfl ?_
          refine o_iloadN cx X693 d2_51 rfl ?_
          refine o_stI cx X693 d2_52 A539 3 (by decide) rfl (Nat.le_of_ble_eq_true rfl) ge541 fun T784 h786 X785 W787 A539 => ?_
          have A0 := A0.other W787 ne_aa_b534
          have KK := KK.wr W787 (Or.inr sz_b534)
          have A539 : own_Ar Z h786 b534 .int [(.int (0 : Int32)), (.int (0 : Int32)), (.int (1 : Int32)), (.int (0 : Int32)), (.int (0 : Int32)), (.int (0 : Int32))] := A539
          refine o_iinc cx X785 (z := (4 : Int32)) (Ls' := #[.val (.ref aa), .val (.ref b534), .val (.int (0 : Int32)), .val (.int (4 : Int32))]) d2_53 rfl rfl rfl ?_
          refine o_goto cx X785 9 d2_56 (by decide) (by decide) ?_
          refine o_iloadN cx X785 d2_9 rfl ?_
          refine o_aloadN cx X785 d2_10 rfl rfl ?_
          refine o_len cx X785 (z := (6 : Int32)) d2_11 A0 rfl ?_
          refine o_icmpNo cx X785 d2_12 (by decide) ?_
          refine o_iloadN cx X785 d2_15 rfl ?_
          refine o_ifYes cx X785 37 d2_16 (by decide) (by decide) (by decide) ?_
          refine o_aloadN cx X785 d2_37 rfl rfl ?_
          refine o_iloadN cx X785 d2_38 rfl ?_
          refine o_ldB cx X785 (v := (.int b4)) d2_39 A0 4 (by decide) rfl rfl ?_
          refine o_aloadN cx X785 d2_40 rfl rfl ?_
          refine o_iloadN cx X785 d2_41 rfl ?_
          refine o_ldB cx X785 (v := (.int b0)) d2_42 A0 0 (by decide) rfl rfl ?_
          by_cases hc788 : b4 = b0
          · refine o_icmpNo cx X785 d2_43 (teq hc788).2 ?_
            obtain rfl : b0 = b4 := hc788.symm
            refine o_iinc cx X785 (z := (1 : Int32)) (Ls' := #[.val (.ref aa), .val (.ref b534), .val (.int (1 : Int32)), .val (.int (4 : Int32))]) d2_46 rfl rfl rfl ?_
            refine o_aloadN cx X785 d2_49 rfl rfl ?_
            refine o_iloadN cx X785 d2_50 rfl ?_
            refine o_iloadN cx X785 d2_51 rfl ?_
            refine o_stI cx X785 d2_52 A539 4 (by decide) rfl (Nat.le_of_ble_eq_true rfl) ge541 fun T789 h791 X790 W792 A539 => ?_
            have A0 := A0.other W792 ne_aa_b534
            have KK := KK.wr W792 (Or.inr sz_b534)
            have A539 : own_Ar Z h791 b534 .int [(.int (0 : Int32)), (.int (0 : Int32)), (.int (1 : Int32)), (.int (0 : Int32)), (.int (1 : Int32)), (.int (0 : Int32))] := A539
            refine o_iinc cx X790 (z := (5 : Int32)) (Ls' := #[.val (.ref aa), .val (.ref b534), .val (.int (1 : Int32)), .val (.int (5 : Int32))]) d2_53 rfl rfl rfl ?_
            refine o_goto cx X790 9 d2_56 (by decide) (by decide) ?_
            refine o_iloadN cx X790 d2_9 rfl ?_
            refine o_aloadN cx X790 d2_10 rfl rfl ?_
            refine o_len cx X790 (z := (6 : Int32)) d2_11 A0 rfl ?_
            refine o_icmpNo cx X790 d2_12 (by decide) ?_
            refine o_iloadN cx X790 d2_15 rfl ?_
            refine o_ifNo cx X790 d2_16 (by decide) ?_
            refine o_aloadN cx X790 d2_19 rfl rfl ?_
            refine o_iloadN cx X790 d2_20 rfl ?_
            refine o_ldB cx X790 (v := (.int b5)) d2_21 A0 5 (by decide) rfl rfl ?_
            refine o_aloadN cx X790 d2_22 rfl rfl ?_
            refine o_iloadN cx X790 d2_23 rfl ?_
            refine o_ldB cx X790 (v := (.int b1)) d2_24 A0 1 (by decide) rfl rfl ?_
            by_cases hc793 : b5 = b1
            · refine o_icmpYes cx X790 37 d2_25 (teq hc793).1 (by decide) (by decide) ?_
              obtain rfl : b1 = b5 := hc793.symm
              refine o_aloadN cx X790 d2_37 rfl rfl ?_
              refine o_iloadN cx X790 d2_38 rfl ?_
              refine o_ldB cx X790 (v := (.int b1)) d2_39 A0 5 (by decide) rfl rfl ?_
              refine o_aloadN cx X790 d2_40 rfl rfl ?_
              refine o_iloadN cx X790 d2_41 rfl ?_
              refine o_ldB cx X790 (v := (.int b1)) d2_42 A0 1 (by decide) rfl rfl ?_
              refine o_icmpNo cx X790 d2_43 (teq rfl).2 ?_
              refine o_iinc cx X790 (z := (2 : Int32)) (Ls' := #[.val (.ref aa), .val (.ref b534), .val (.int (2 : Int32)), .val (.int (5 : Int32))]) d2_46 rfl rfl rfl ?_
              refine o_aloadN cx X790 d2_49 rfl rfl ?_
              refine o_iloadN cx X790 d2_50 rfl ?_
              refine o_iloadN cx X790 d2_51 rfl ?_
              refine o_stI cx X790 d2_52 A539 5 (by decide) rfl (Nat.le_of_ble_eq_true rfl) ge541 fun T794 h796 X795 W797 A539 => ?_
              have A0 := A0.other W797 ne_aa_b534
              have KK := KK.wr W797 (Or.inr sz_b534)
              have A539 : own_Ar Z h796 b534 .int [(.int (0 : Int32)), (.int (0 : Int32)), (.int (1 : Int32)), (.int (0 : Int32)), (.int (1 : Int32)), (.int (2 : Int32))] := A539
              refine o_iinc cx X795 (z := (6 : Int32)) (Ls' := #[.val (.ref aa), .val (.ref b534), .val (.int (2 : Int32)), .val (.int (6 : Int32))]) d2_53 rfl rfl rfl ?_
              refine o_goto cx X795 9 d2_56 (by decide) (by decide) ?_
              refine o_iloadN cx X795 d2_9 rfl ?_
              refine o_aloadN cx X795 d2_10 rfl rfl ?_
              refine o_len cx X795 (z := (6 : Int32)) d2_11 A0 rfl ?_
              refine o_icmpYes cx X795 59 d2_12 (by decide) (by decide) (by decide) ?_
              refine o_aloadN cx X795 d2_59 rfl rfl ?_
              have nn0 : ¬ b0 = b1 := fun q => hc542 (Eq.symm q)
              have nn1 : ¬ b1 = b3 := fun q => hc696 (Eq.symm q)
              have nn2 : ¬ b0 = b3 := fun q => hc733 (Eq.symm q)
              have et0 : own_b1 b0 = (0 : Int32) := by simp [own_b1, own_i, hc542, nn0, hc696, nn1, hc733, nn2]
              have et1 : own_b2 b0 b1 = (0 : Int32) := by simp [own_b2, own_i, hc542, nn0, hc696, nn1, hc733, nn2]
              have et2 : own_b3 b0 b1 b0 = (1 : Int32) := by simp [own_b3, own_i, hc542, nn0, hc696, nn1, hc733, nn2]
              have et3 : own_b4 b0 b1 b0 b3 = (0 : Int32) := by simp [own_b4, own_i, hc542, nn0, hc696, nn1, hc733, nn2]
              have et4 : own_b5 b0 b1 b0 b3 b0 = (1 : Int32) := by simp [own_b5, own_i, hc542, nn0, hc696, nn1, hc733, nn2]
              have et5 : own_b6 b0 b1 b0 b3 b0 b1 = (2 : Int32) := by simp [own_b6, own_i, hc542, nn0, hc696, nn1, hc733, nn2]
              exact o_retA cx X795 d2_60 rfl rfl rfl ⟨b534, rfl, KK, sz_b534, ge541, by rw [et0, et1, et2, et3, et4, et5]; exact A539⟩ (by decide) (by decide)
            · refine o_icmpNo cx X790 d2_25 (feq hc793).1 ?_
              refine o_aloadN cx X790 d2_28 rfl rfl ?_
              refine o_iloadN cx X790 d2_29 rfl ?_
              refine o_iconst cx X790 (z := (1 : Int32)) d2_30 rfl ?_
              refine o_isub cx X790 (z := (0 : Int32)) d2_31 rfl ?_
              refine o_ldI cx X790 (v := (.int (0 : Int32))) d2_32 A539 0 (by decide) rfl rfl ?_
              refine o_istoreN cx X790 (Ls' := #[.val (.ref aa), .val (.ref b534), .val (.int (0 : Int32)), .val (.int (5 : Int32))]) d2_33 rfl ?_
              refine o_goto cx X790 15 d2_34 (by decide) (by decide) ?_
              refine o_iloadN cx X790 d2_15 rfl ?_
              refine o_ifYes cx X790 37 d2_16 (by decide) (by decide) (by decide) ?_
              refine o_aloadN cx X790 d2_37 rfl rfl ?_
              refine o_iloadN cx X790 d2_38 rfl ?_
              refine o_ldB cx X790 (v := (.int b5)) d2_39 A0 5 (by decide) rfl rfl ?_
              refine o_aloadN cx X790 d2_40 rfl rfl ?_
              refine o_iloadN cx X790 d2_41 rfl ?_
              refine o_ldB cx X790 (v := (.int b0)) d2_42 A0 0 (by decide) rfl rfl ?_
              by_cases hc798 : b5 = b0
              · refine o_icmpNo cx X790 d2_43 (teq hc798).2 ?_
                obtain rfl : b0 = b5 := hc798.symm
                refine o_iinc cx X790 (z := (1 : Int32)) (Ls' := #[.val (.ref aa), .val (.ref b534), .val (.int (1 : Int32)), .val (.int (5 : Int32))]) d2_46 rfl rfl rfl ?_
                refine o_aloadN cx X790 d2_49 rfl rfl ?_
                refine o_iloadN cx X790 d2_50 rfl ?_
                refine o_iloadN cx X790 d2_51 rfl ?_
                refine o_stI cx X790 d2_52 A539 5 (by decide) rfl (Nat.le_of_ble_eq_true rfl) ge541 fun T799 h801 X800 W802 A539 => ?_
                have A0 := A0.other W802 ne_aa_b534
                have KK := KK.wr W802 (Or.inr sz_b534)
                have A539 : own_Ar Z h801 b534 .int [(.int (0 : Int32)), (.int (0 : Int32)), (.int (1 : Int32)), (.int (0 : Int32)), (.int (1 : Int32)), (.int (1 : Int32))] := A539
                refine o_iinc cx X800 (z := (6 : Int32)) (Ls' := #[.val (.ref aa), .val (.ref b534), .val (.int (1 : Int32)), .val (.int (6 : Int32))]) d2_53 rfl rfl rfl ?_
                refine o_goto cx X800 9 d2_56 (by decide) (by decide) ?_
                refine o_iloadN cx X800 d2_9 rfl ?_
                refine o_aloadN cx X800 d2_10 rfl rfl ?_
                refine o_len cx X800 (z := (6 : Int32)) d2_11 A0 rfl ?_
                refine o_icmpYes cx X800 59 d2_12 (by decide) (by decide) (by decide) ?_
                refine o_aloadN cx X800 d2_59 rfl rfl ?_
                have nn0 : ¬ b0 = b1 := fun q => hc542 (Eq.symm q)
                have nn1 : ¬ b1 = b3 := fun q => hc696 (Eq.symm q)
                have nn2 : ¬ b0 = b3 := fun q => hc733 (Eq.symm q)
                have nn3 : ¬ b1 = b0 := fun q => hc793 (Eq.symm q)
                have et0 : own_b1 b0 = (0 : Int32) := by simp [own_b1, own_i, hc542, nn0, hc696, nn1, hc733, nn2, hc793, nn3]
                have et1 : own_b2 b0 b1 = (0 : Int32) := by simp [own_b2, own_i, hc542, nn0, hc696, nn1, hc733, nn2, hc793, nn3]
                have et2 : own_b3 b0 b1 b0 = (1 : Int32) := by simp [own_b3, own_i, hc542, nn0, hc696, nn1, hc733, nn2, hc793, nn3]
                have et3 : own_b4 b0 b1 b0 b3 = (0 : Int32) := by simp [own_b4, own_i, hc542, nn0, hc696, nn1, hc733, nn2, hc793, nn3]
                have et4 : own_b5 b0 b1 b0 b3 b0 = (1 : Int32) := by simp [own_b5, own_i, hc542, nn0, hc696, nn1, hc733, nn2, hc793, nn3]
                have et5 : own_b6 b0 b1 b0 b3 b0 b0 = (1 : Int32) := by simp [own_b6, own_i, hc542, nn0, hc696, nn1, hc733, nn2, hc793, nn3]
                exact o_retA cx X800 d2_60 rfl rfl rfl ⟨b534, rfl, KK, sz_b534, ge541, by rw [et0, et1, et2, et3, et4, et5]; exact A539⟩ (by decide) (by decide)
              · refine o_icmpYes cx X790 49 d2_43 (feq hc798).2 (by decide) (by decide) ?_
                refine o_aloadN cx X790 d2_49 rfl rfl ?_
                refine o_iloadN cx X790 d2_50 rfl ?_
                refine o_iloadN cx X790 d2_51 rfl ?_
                refine o_stI cx X790 d2_52 A539 5 (by decide) rfl (Nat.le_of_ble_eq_true rfl) ge541 fun T803 h805 X804 W806 A539 => ?_
                have A0 := A0.other W806 ne_aa_b534
                have KK := KK.wr W806 (Or.inr sz_b534)
                have A539 : own_Ar Z h805 b534 .int [(.int (0 : Int32)), (.int (0 : Int32)), (.int (1 : Int32)), (.int (0 : Int32)), (.int (1 : Int32)), (.int (0 : Int32))] := A539
                refine o_iinc cx X804 (z := (6 : Int32)) (Ls' := #[.val (.ref aa), .val (.ref b534), .val (.int (0 : Int32)), .val (.int (6 : Int32))]) d2_53 rfl rfl rfl ?_
                refine o_goto cx X804 9 d2_56 (by decide) (by decide) ?_
                refine o_iloadN cx X804 d2_9 rfl ?_
                refine o_aloadN cx X804 d2_10 rfl rfl ?_
                refine o_len cx X804 (z := (6 : Int32)) d2_11 A0 rfl ?_
                refine o_icmpYes cx X804 59 d2_12 (by decide) (by decide) (by decide) ?_
                refine o_aloadN cx X804 d2_59 rfl rfl ?_
                have nn0 : ¬ b0 = b1 := fun q => hc542 (Eq.symm q)
                have nn1 : ¬ b1 = b3 := fun q => hc696 (Eq.symm q)
                have nn2 : ¬ b0 = b3 := fun q => hc733 (Eq.symm q)
                have nn3 : ¬ b1 = b5 := fun q => hc793 (Eq.symm q)
                have nn4 : ¬ b0 = b5 := fun q => hc798 (Eq.symm q)
                have et0 : own_b1 b0 = (0 : Int32) := by simp [own_b1, own_i, hc542, nn0, hc696, nn1, hc733, nn2, hc793, nn3, hc798, nn4]
                have et1 : own_b2 b0 b1 = (0 : Int32) := by simp [own_b2, own_i, hc542, nn0, hc696, nn1, hc733, nn2, hc793, nn3, hc798, nn4]
                have et2 : own_b3 b0 b1 b0 = (1 : Int32) := by simp [own_b3, own_i, hc542, nn0, hc696, nn1, hc733, nn2, hc793, nn3, hc798, nn4]
                have et3 : own_b4 b0 b1 b0 b3 = (0 : Int32) := by simp [own_b4, own_i, hc542, nn0, hc696, nn1, hc733, nn2, hc793, nn3, hc798, nn4]
                have et4 : own_b5 b0 b1 b0 b3 b0 = (1 : Int32) := by simp [own_b5, own_i, hc542, nn0, hc696, nn1, hc733, nn2, hc793, nn3, hc798, nn4]
                have et5 : own_b6 b0 b1 b0 b3 b0 b5 = (0 : Int32) := by simp [own_b6, own_i, hc542, nn0, hc696, nn1, hc733, nn2, hc793, nn3, hc798, nn4]
                exact o_retA cx X804 d2_60 rfl rfl rfl ⟨b534, rfl, KK, sz_b534, ge541, by rw [et0, et1, et2, et3, et4, et5]; exact A539⟩ (by decide) (by decide)
          · refine o_icmpYes cx X785 49 d2_43 (feq hc788).2 (by decide) (by decide) ?_
            refine o_aloadN cx X785 d2_49 rfl rfl ?_
            refine o_iloadN cx X785 d2_50 rfl ?_
            refine o_iloadN cx X785 d2_51 rfl ?_
            refine o_stI cx X785 d2_52 A539 4 (by decide) rfl (Nat.le_of_ble_eq_true rfl) ge541 fun T807 h809 X808 W810 A539 => ?_
            have A0 := A0.other W810 ne_aa_b534
            have KK := KK.wr W810 (Or.inr sz_b534)
            have A539 : own_Ar Z h809 b534 .int [(.int (0 : Int32)), (.int (0 : Int32)), (.int (1 : Int32)), (.int (0 : Int32)), (.int (0 : Int32)), (.int (0 : Int32))] := A539
            refine o_iinc cx X808 (z := (5 : Int32)) (Ls' := #[.val (.ref aa), .val (.ref b534), .val (.int (0 : Int32)), .val (.int (5 : Int32))]) d2_53 rfl rfl rfl ?_
            refine o_goto cx X808 9 d2_56 (by decide) (by decide) ?_
            refine o_iloadN cx X808 d2_9 rfl ?_
            refine o_aloadN cx X808 d2_10 rfl rfl ?_
            refine o_len cx X808 (z := (6 : Int32)) d2_11 A0 rfl ?_
            refine o_icmpNo cx X808 d2_12 (by decide) ?_
            refine o_iloadN cx X808 d2_15 rfl ?_
            refine o_ifYes cx X808 37 d2_16 (by decide) (by decide) (by decide) ?_
            refine o_aloadN cx X808 d2_37 rfl rfl ?_
            refine o_iloadN cx X808 d2_38 rfl ?_
            refine o_ldB cx X808 (v := (.int b5)) d2_39 A0 5 (by decide) rfl rfl ?_
            refine o_aloadN cx X808 d2_40 rfl rfl ?_
            refine o_iloadN cx X808 d2_41 rfl ?_
            refine o_ldB cx X808 (v := (.int b0)) d2_42 A0 0 (by decide) rfl rfl ?_
            by_cases hc811 : b5 = b0
            · refine o_icmpNo cx X808 d2_43 (teq hc811).2 ?_
              obtain rfl : b0 = b5 := hc811.symm
              refine o_iinc cx X808 (z := (1 : Int32)) (Ls' := #[.val (.ref aa), .val (.ref b534), .val (.int (1 : Int32)), .val (.int (5 : Int32))]) d2_46 rfl rfl rfl ?_
              refine o_aloadN cx X808 d2_49 rfl rfl ?_
              refine o_iloadN cx X808 d2_50 rfl ?_
              refine o_iloadN cx X808 d2_51 rfl ?_
              refine o_stI cx X808 d2_52 A539 5 (by decide) rfl (Nat.le_of_ble_eq_true rfl) ge541 fun T812 h814 X813 W815 A539 => ?_
              have A0 := A0.other W815 ne_aa_b534
              have KK := KK.wr W815 (Or.inr sz_b534)
              have A539 : own_Ar Z h814 b534 .int [(.int (0 : Int32)), (.int (0 : Int32)), (.int (1 : Int32)), (.int (0 : Int32)), (.int (0 : Int32)), (.int (1 : Int32))] := A539
              refine o_iinc cx X813 (z := (6 : Int32)) (Ls' := #[.val (.ref aa), .val (.ref b534), .val (.int (1 : Int32)), .val (.int (6 : Int32))]) d2_53 rfl rfl rfl ?_
              refine o_goto cx X813 9 d2_56 (by decide) (by decide) ?_
              refine o_iloadN cx X813 d2_9 rfl ?_
              refine o_aloadN cx X813 d2_10 rfl rfl ?_
              refine o_len cx X813 (z := (6 : Int32)) d2_11 A0 rfl ?_
              refine o_icmpYes cx X813 59 d2_12 (by decide) (by decide) (by decide) ?_
              refine o_aloadN cx X813 d2_59 rfl rfl ?_
              have nn0 : ¬ b0 = b1 := fun q => hc542 (Eq.symm q)
              have nn1 : ¬ b1 = b3 := fun q => hc696 (Eq.symm q)
              have nn2 : ¬ b0 = b3 := fun q => hc733 (Eq.symm q)
              have nn3 : ¬ b0 = b4 := fun q => hc788 (Eq.symm q)
              have et0 : own_b1 b0 = (0 : Int32) := by simp [own_b1, own_i, hc542, nn0, hc696, nn1, hc733, nn2, hc788, nn3]
              have et1 : own_b2 b0 b1 = (0 : Int32) := by simp [own_b2, own_i, hc542, nn0, hc696, nn1, hc733, nn2, hc788, nn3]
              have et2 : own_b3 b0 b1 b0 = (1 : Int32) := by simp [own_b3, own_i, hc542, nn0, hc696, nn1, hc733, nn2, hc788, nn3]
              have et3 : own_b4 b0 b1 b0 b3 = (0 : Int32) := by simp [own_b4, own_i, hc542, nn0, hc696, nn1, hc733, nn2, hc788, nn3]
              have et4 : own_b5 b0 b1 b0 b3 b4 = (0 : Int32) := by simp [own_b5, own_i, hc542, nn0, hc696, nn1, hc733, nn2, hc788, nn3]
              have et5 : own_b6 b0 b1 b0 b3 b4 b0 = (1 : Int32) := by simp [own_b6, own_i, hc542, nn0, hc696, nn1, hc733, nn2, hc788, nn3]
              exact o_retA cx X813 d2_60 rfl rfl rfl ⟨b534, rfl, KK, sz_b534, ge541, by rw [et0, et1, et2, et3, et4, et5]; exact A539⟩ (by decide) (by decide)
            · refine o_icmpYes cx X808 49 d2_43 (feq hc811).2 (by decide) (by decide) ?_
              refine o_aloadN cx X808 d2_49 rfl rfl ?_
              refine o_iloadN cx X808 d2_50 rfl ?_
              refine o_iloadN cx X808 d2_51 rfl ?_
              refine o_stI cx X808 d2_52 A539 5 (by decide) rfl (Nat.le_of_ble_eq_true rfl) ge541 fun T816 h818 X817 W819 A539 => ?_
              have A0 := A0.other W819 ne_aa_b534
              have KK := KK.wr W819 (Or.inr sz_b534)
              have A539 : own_Ar Z h818 b534 .int [(.int (0 : Int32)), (.int (0 : Int32)), (.int (1 : Int32)), (.int (0 : Int32)), (.int (0 : Int32)), (.int (0 : Int32))] := A539
              refine o_iinc cx X817 (z := (6 : Int32)) (Ls' := #[.val (.ref aa), .val (.ref b534), .val (.int (0 : Int32)), .val (.int (6 : Int32))]) d2_53 rfl rfl rfl ?_
              refine o_goto cx X817 9 d2_56 (by decide) (by decide) ?_
              refine o_iloadN cx X817 d2_9 rfl ?_
              refine o_aloadN cx X817 d2_10 rfl rfl ?_
              refine o_len cx X817 (z := (6 : Int32)) d2_11 A0 rfl ?_
              refine o_icmpYes cx X817 59 d2_12 (by decide) (by decide) (by decide) ?_
              refine o_aloadN cx X817 d2_59 rfl rfl ?_
              have nn0 : ¬ b0 = b1 := fun q => hc542 (Eq.symm q)
              have nn1 : ¬ b1 = b3 := fun q => hc696 (Eq.symm q)
              have nn2 : ¬ b0 = b3 := fun q => hc733 (Eq.symm q)
              have nn3 : ¬ b0 = b4 := fun q => hc788 (Eq.symm q)
              have nn4 : ¬ b0 = b5 := fun q => hc811 (Eq.symm q)
              have et0 : own_b1 b0 = (0 : Int32) := by simp [own_b1, own_i, hc542, nn0, hc696, nn1, hc733, nn2, hc788, nn3, hc811, nn4]
              have et1 : own_b2 b0 b1 = (0 : Int32) := by simp [own_b2, own_i, hc542, nn0, hc696, nn1, hc733, nn2, hc788, nn3, hc811, nn4]
              have et2 : own_b3 b0 b1 b0 = (1 : Int32) := by simp [own_b3, own_i, hc542, nn0, hc696, nn1, hc733, nn2, hc788, nn3, hc811, nn4]
              have et3 : own_b4 b0 b1 b0 b3 = (0 : Int32) := by simp [own_b4, own_i, hc542, nn0, hc696, nn1, hc733, nn2, hc788, nn3, hc811, nn4]
              have et4 : own_b5 b0 b1 b0 b3 b4 = (0 : Int32) := by simp [own_b5, own_i, hc542, nn0, hc696, nn1, hc733, nn2, hc788, nn3, hc811, nn4]
              have et5 : own_b6 b0 b1 b0 b3 b4 b5 = (0 : Int32) := by simp [own_b6, own_i, hc542, nn0, hc696, nn1, hc733, nn2, hc788, nn3, hc811, nn4]
              exact o_retA cx X817 d2_60 rfl rfl rfl ⟨b534, rfl, KK, sz_b534, ge541, by rw [et0, et1, et2, et3, et4, et5]; exact A539⟩ (by decide) (by decide)
    · refine o_icmpYes cx X688 49 d2_43 (feq hc691).2 (by decide) (by decide) ?_
      refine o_aloadN cx X688 d2_49 rfl rfl ?_
      refine o_iloadN cx X688 d2_50 rfl ?_
      refine o_iloadN cx X688 d2_51 rfl ?_
      refine o_stI cx X688 d2_52 A539 2 (by decide) rfl (Nat.le_of_ble_eq_true rfl) ge541 fun T820 h822 X821 W823 A539 => ?_
      have A0 := A0.other W823 ne_aa_b534
      have KK := KK.wr W823 (Or.inr sz_b534)
      have A539 : own_Ar Z h822 b534 .int [(.int (0 : Int32)), (.int (0 : Int32)), (.int (0 : Int32)), (.int (0 : Int32)), (.int (0 : Int32)), (.int (0 : Int32))] := A539
      refine o_iinc cx X821 (z := (3 : Int32)) (Ls' := #[.val (.ref aa), .val (.ref b534), .val (.int (0 : Int32)), .val (.int (3 : Int32))]) d2_53 rfl rfl rfl ?_
      refine o_goto cx X821 9 d2_56 (by decide) (by decide) ?_
      refine o_iloadN cx X821 d2_9 rfl ?_
      refine o_aloadN cx X821 d2_10 rfl rfl ?_
      refine o_len cx X821 (z := (6 : Int32)) d2_11 A0 rfl ?_
      refine o_icmpNo cx X821 d2_12 (by decide) ?_
      refine o_iloadN cx X821 d2_15 rfl ?_
      refine o_ifYes cx X821 37 d2_16 (by decide) (by decide) (by decide) ?_
      refine o_aloadN cx X821 d2_37 rfl rfl ?_
      refine o_iloadN cx X821 d2_38 rfl ?_
      refine o_ldB cx X821 (v := (.int b3)) d2_39 A0 3 (by decide) rfl rfl ?_
      refine o_aloadN cx X821 d2_40 rfl rfl ?_
      refine o_iloadN cx X821 d2_41 rfl ?_
      refine o_ldB cx X821 (v := (.int b0)) d2_42 A0 0 (by decide) rfl rfl ?_
      by_cases hc824 : b3 = b0
      · refine o_icmpNo cx X821 d2_43 (teq hc824).2 ?_
        obtain rfl : b0 = b3 := hc824.symm
        refine o_iinc cx X821 (z := (1 : Int32)) (Ls' := #[.val (.ref aa), .val (.ref b534), .val (.int (1 : Int32)), .val (.int (3 : Int32))]) d2_46 rfl rfl rfl ?_
        refine o_aloadN cx X821 d2_49 rfl rfl ?_
        refine o_iloadN cx X821 d2_50 rfl ?_
        refine o_iloadN cx X821 d2_51 rfl ?_
        refine o_stI cx X821 d2_52 A539 3 (by decide) rfl (Nat.le_of_ble_eq_true rfl) ge541 fun T825 h827 X826 W828 A539 => ?_
        have A0 := A0.other W828 ne_aa_b534
        have KK := KK.wr W828 (Or.inr sz_b534)
        have A539 : own_Ar Z h827 b534 .int [(.int (0 : Int32)), (.int (0 : Int32)), (.int (0 : Int32)), (.int (1 : Int32)), (.int (0 : Int32)), (.int (0 : Int32))] := A539
        refine o_iinc cx X826 (z := (4 : Int32)) (Ls' := #[.val (.ref aa), .val (.ref b534), .val (.int (1 : Int32)), .val (.int (4 : Int32))]) d2_53 rfl rfl rfl ?_
        refine o_goto cx X826 9 d2_56 (by decide) (by decide) ?_
        refine o_iloadN cx X826 d2_9 rfl ?_
        refine o_aloadN cx X826 d2_10 rfl rfl ?_
        refine o_len cx X826 (z := (6 : Int32)) d2_11 A0 rfl ?_
        refine o_icmpNo cx X826 d2_12 (by decide) ?_
        refine o_iloadN cx X826 d2_15 rfl ?_
        refine o_ifNo cx X826 d2_16 (by decide) ?_
        refine o_aloadN cx X826 d2_19 rfl rfl ?_
        refine o_iloadN cx X826 d2_20 rfl ?_
        refine o_ldB cx X826 (v := (.int b4)) d2_21 A0 4 (by decide) rfl rfl ?_
        refine o_aloadN cx X826 d2_22 rfl rfl ?_
        refine o_iloadN cx X826 d2_23 rfl ?_
        refine o_ldB cx X826 (v := (.int b1)) d2_24 A0 1 (by decide) rfl rfl ?_
        by_cases hc829 : b4 = b1
        · refine o_icmpYes cx X826 37 d2_25 (teq hc829).1 (by decide) (by decide) ?_
          obtain rfl : b1 = b4 := hc829.symm
          refine o_aloadN cx X826 d2_37 rfl rfl ?_
          refine o_iloadN cx X826 d2_38 rfl ?_
          refine o_ldB cx X826 (v := (.int b1)) d2_39 A0 4 (by decide) rfl rfl ?_
          refine o_aloadN cx X826 d2_40 rfl rfl ?_
          refine o_iloadN cx X826 d2_41 rfl ?_
          refine o_ldB cx X826 (v := (.int b1)) d2_42 A0 1 (by decide) rfl rfl ?_
          refine o_icmpNo cx X826 d2_43 (teq rfl).2 ?_
          refine o_iinc cx X826 (z := (2 : Int32)) (Ls' := #[.val (.ref aa), .val (.ref b534), .val (.int (2 : Int32)), .val (.int (4 : Int32))]) d2_46 rfl rfl rfl ?_
          refine o_aloadN cx X826 d2_49 rfl rfl ?_
          refine o_iloadN cx X826 d2_50 rfl ?_
          refine o_iloadN cx X826 d2_51 rfl ?_
          refine o_stI cx X826 d2_52 A539 4 (by decide) rfl (Nat.le_of_ble_eq_true rfl) ge541 fun T830 h832 X831 W833 A539 => ?_
          have A0 := A0.other W833 ne_aa_b534
          have KK := KK.wr W833 (Or.inr sz_b534)
          have A539 : own_Ar Z h832 b534 .int [(.int (0 : Int32)), (.int (0 : Int32)), (.int (0 : Int32)), (.int (1 : Int32)), (.int (2 : Int32)), (.int (0 : Int32))] := A539
          refine o_iinc cx X831 (z := (5 : Int32)) (Ls' := #[.val (.ref aa), .val (.ref b534), .val (.int (2 : Int32)), .val (.int (5 : Int32))]) d2_53 rfl rfl rfl ?_
          refine o_goto cx X831 9 d2_56 (by decide) (by decide) ?_
          refine o_iloadN cx X831 d2_9 rfl ?_
          refine o_aloadN cx X831 d2_10 rfl rfl ?_
          refine o_len cx X831 (z := (6 : Int32)) d2_11 A0 rfl ?_
          refine o_icmpNo cx X831 d2_12 (by decide) ?_
          refine o_iloadN cx X831 d2_15 rfl ?_
          refine o_ifNo cx X831 d2_16 (by decide) ?_
          refine o_aloadN cx X831 d2_19 rfl rfl ?_
          refine o_iloadN cx X831 d2_20 rfl ?_
          refine o_ldB cx X831 (v := (.int b5)) d2_21 A0 5 (by decide) rfl rfl ?_
          refine o_aloadN cx X831 d2_22 rfl rfl ?_
          refine o_iloadN cx X831 d2_23 rfl ?_
          refine o_ldB cx X831 (v := (.int b2)) d2_24 A0 2 (by decide) rfl rfl ?_
          by_cases hc834 : b5 = b2
          · refine o_icmpYes cx X831 37 d2_25 (teq hc834).1 (by decide) (by decide) ?_
            obtain rfl : b2 = b5 := hc834.symm
            refine o_aloadN cx X831 d2_37 rfl rfl ?_
            refine o_iloadN cx X831 d2_38 rfl ?_
            refine o_ldB cx X831 (v := (.int b2)) d2_39 A0 5 (by decide) rfl rfl ?_
            refine o_aloadN cx X831 d2_40 rfl rfl ?_
            refine o_iloadN cx X831 d2_41 rfl ?_
            refine o_ldB cx X831 (v := (.int b2)) d2_42 A0 2 (by decide) rfl rfl ?_
            refine o_icmpNo cx X831 d2_43 (teq rfl).2 ?_
            refine o_iinc cx X831 (z := (3 : Int32)) (Ls' := #[.val (.ref aa), .val (.ref b534), .val (.int (3 : Int32)), .val (.int (5 : Int32))]) d2_46 rfl rfl rfl ?_
            refine o_aloadN cx X831 d2_49 rfl rfl ?_
            refine o_iloadN cx X831 d2_50 rfl ?_
            refine o_iloadN cx X831 d2_51 rfl ?_
            refine o_stI cx X831 d2_52 A539 5 (by decide) rfl (Nat.le_of_ble_eq_true rfl) ge541 fun T835 h837 X836 W838 A539 => ?_
            have A0 := A0.other W838 ne_aa_b534
            have KK := KK.wr W838 (Or.inr sz_b534)
            have A539 : own_Ar Z h837 b534 .int [(.int (0 : Int32)), (.int (0 : Int32)), (.int (0 : Int32)), (.int (1 : Int32)), (.int (2 : Int32)), (.int (3 : Int32))] := A539
            refine o_iinc cx X836 (z := (6 : Int32)) (Ls' := #[.val (.ref aa), .val (.ref b534), .val (.int (3 : Int32)), .val (.int (6 : Int32))]) d2_53 rfl rfl rfl ?_
            refine o_goto cx X836 9 d2_56 (by decide) (by decide) ?_
            refine o_iloadN cx X836 d2_9 rfl ?_
            refine o_aloadN cx X836 d2_10 rfl rfl ?_
            refine o_len cx X836 (z := (6 : Int32)) d2_11 A0 rfl ?_
            refine o_icmpYes cx X836 59 d2_12 (by decide) (by decide) (by decide) ?_
            refine o_aloadN cx X836 d2_59 rfl rfl ?_
            have nn0 : ¬ b0 = b1 := fun q => hc542 (Eq.symm q)
            have nn1 : ¬ b0 = b2 := fun q => hc691 (Eq.symm q)
            have et0 : own_b1 b0 = (0 : Int32) := by simp [own_b1, own_i, hc542, nn0, hc691, nn1]
            have et1 : own_b2 b0 b1 = (0 : Int32) := by simp [own_b2, own_i, hc542, nn0, hc691, nn1]
            have et2 : own_b3 b0 b1 b2 = (0 : Int32) := by simp [own_b3, own_i, hc542, nn0, hc691, nn1]
            have et3 : own_b4 b0 b1 b2 b0 = (1 : Int32) := by simp [own_b4, own_i, hc542, nn0, hc691, nn1]
            have et4 : own_b5 b0 b1 b2 b0 b1 = (2 : Int32) := by simp [own_b5, own_i, hc542, nn0, hc691, nn1]
            have et5 : own_b6 b0 b1 b2 b0 b1 b2 = (3 : Int32) := by simp [own_b6, own_i, hc542, nn0, hc691, nn1]
            exact o_retA cx X836 d2_60 rfl rfl rfl ⟨b534, rfl, KK, sz_b534, ge541, by rw [et0, et1, et2, et3, et4, et5]; exact A539⟩ (by decide) (by decide)
          · refine o_icmpNo cx X831 d2_25 (feq hc834).1 ?_
            refine o_aloadN cx X831 d2_28 rfl rfl ?_
            refine o_iloadN cx X831 d2_29 rfl ?_
            refine o_iconst cx X831 (z := (1 : Int32)) d2_30 rfl ?_
            refine o_isub cx X831 (z := (1 : Int32)) d2_31 rfl ?_
            refine o_ldI cx X831 (v := (.int (0 : Int32))) d2_32 A539 1 (by decide) rfl rfl ?_
            refine o_istoreN cx X831 (Ls' := #[.val (.ref aa), .val (.ref b534), .val (.int (0 : Int32)), .val (.int (5 : Int32))]) d2_33 rfl ?_
            refine o_goto cx X831 15 d2_34 (by decide) (by decide) ?_
            refine o_iloadN cx X831 d2_15 rfl ?_
            refine o_ifYes cx X831 37 d2_16 (by decide) (by decide) (by decide) ?_
            refine o_aloadN cx X831 d2_37 rfl rfl ?_
            refine o_iloadN cx X831 d2_38 rfl ?_
            refine o_ldB cx X831 (v := (.int b5)) d2_39 A0 5 (by decide) rfl rfl ?_
            refine o_aloadN cx X831 d2_40 rfl rfl ?_
            refine o_iloadN cx X831 d2_41 rfl ?_
            refine o_ldB cx X831 (v := (.int b0)) d2_42 A0 0 (by decide) rfl rfl ?_
            by_cases hc839 : b5 = b0
            · refine o_icmpNo cx X831 d2_43 (teq hc839).2 ?_
              obtain rfl : b0 = b5 := hc839.symm
              refine o_iinc cx X831 (z := (1 : Int32)) (Ls' := #[.val (.ref aa), .val (.ref b534), .val (.int (1 : Int32)), .val (.int (5 : Int32))]) d2_46 rfl rfl rfl ?_
              refine o_aloadN cx X831 d2_49 rfl rfl ?_
              refine o_iloadN cx X831 d2_50 rfl ?_
              refine o_iloadN cx X831 d2_51 rfl ?_
              refine o_stI cx X831 d2_52 A539 5 (by decide) rfl (Nat.le_of_ble_eq_true rfl) ge541 fun T840 h842 X841 W843 A539 => ?_
              have A0 := A0.other W843 ne_aa_b534
              have KK := KK.wr W843 (Or.inr sz_b534)
              have A539 : own_Ar Z h842 b534 .int [(.int (0 : Int32)), (.int (0 : Int32)), (.int (0 : Int32)), (.int (1 : Int32)), (.int (2 : Int32)), (.int (1 : Int32))] := A539
              refine o_iinc cx X841 (z := (6 : Int32)) (Ls' := #[.val (.ref aa), .val (.ref b534), .val (.int (1 : Int32)), .val (.int (6 : Int32))]) d2_53 rfl rfl rfl ?_
              refine o_goto cx X841 9 d2_56 (by decide) (by decide) ?_
              refine o_iloadN cx X841 d2_9 rfl ?_
              refine o_aloadN cx X841 d2_10 rfl rfl ?_
              refine o_len cx X841 (z := (6 : Int32)) d2_11 A0 rfl ?_
              refine o_icmpYes cx X841 59 d2_12 (by decide) (by decide) (by decide) ?_
              refine o_aloadN cx X841 d2_59 rfl rfl ?_
              have nn0 : ¬ b0 = b1 := fun q => hc542 (Eq.symm q)
              have nn1 : ¬ b0 = b2 := fun q => hc691 (Eq.symm q)
              have nn2 : ¬ b2 = b0 := fun q => hc834 (Eq.symm q)
              have et0 : own_b1 b0 = (0 : Int32) := by simp [own_b1, own_i, hc542, nn0, hc691, nn1, hc834, nn2]
              have et1 : own_b2 b0 b1 = (0 : Int32) := by simp [own_b2, own_i, hc542, nn0, hc691, nn1, hc834, nn2]
              have et2 : own_b3 b0 b1 b2 = (0 : Int32) := by simp [own_b3, own_i, hc542, nn0, hc691, nn1, hc834, nn2]
              have et3 : own_b4 b0 b1 b2 b0 = (1 : Int32) := by simp [own_b4, own_i, hc542, nn0, hc691, nn1, hc834, nn2]
              have et4 : own_b5 b0 b1 b2 b0 b1 = (2 : Int32) := by simp [own_b5, own_i, hc542, nn0, hc691, nn1, hc834, nn2]
              have et5 : own_b6 b0 b1 b2 b0 b1 b0 = (1 : Int32) := by simp [own_b6, own_i, hc542, nn0, hc691, nn1, hc834, nn2]
              exact o_retA cx X841 d2_60 rfl rfl rfl ⟨b534, rfl, KK, sz_b534, ge541, by rw [et0, et1, et2, et3, et4, et5]; exact A539⟩ (by decide) (by decide)
            · refine o_icmpYes cx X831 49 d2_43 (feq hc839).2 (by decide) (by decide) ?_
              refine o_aloadN cx X831 d2_49 rfl rfl ?_
              refine o_iloadN cx X831 d2_50 rfl ?_
              refine o_iloadN cx X831 d2_51 rfl ?_
              refine o_stI cx X831 d2_52 A539 5 (by decide) rfl (Nat.le_of_ble_eq_true rfl) ge541 fun T844 h846 X845 W847 A539 => ?_
              have A0 := A0.other W847 ne_aa_b534
              have KK := KK.wr W847 (Or.inr sz_b534)
              have A539 : own_Ar Z h846 b534 .int [(.int (0 : Int32)), (.int (0 : Int32)), (.int (0 : Int32)), (.int (1 : Int32)), (.int (2 : Int32)), (.int (0 : Int32))] := A539
              refine o_iinc cx X845 (z := (6 : Int32)) (Ls' := #[.val (.ref aa), .val (.ref b534), .val (.int (0 : Int32)), .val (.int (6 : Int32))]) d2_53 rfl rfl rfl ?_
              refine o_goto cx X845 9 d2_56 (by decide) (by decide) ?_
              refine o_iloadN cx X845 d2_9 rfl ?_
              refine o_aloadN cx X845 d2_10 rfl rfl ?_
              refine o_len cx X845 (z := (6 : Int32)) d2_11 A0 rfl ?_
              refine o_icmpYes cx X845 59 d2_12 (by decide) (by decide) (by decide) ?_
              refine o_aloadN cx X845 d2_59 rfl rfl ?_
              have nn0 : ¬ b0 = b1 := fun q => hc542 (Eq.symm q)
              have nn1 : ¬ b0 = b2 := fun q => hc691 (Eq.symm q)
              have nn2 : ¬ b2 = b5 := fun q => hc834 (Eq.symm q)
              have nn3 : ¬ b0 = b5 := fun q => hc839 (Eq.symm q)
              have et0 : own_b1 b0 = (0 : Int32) := by simp [own_b1, own_i, hc542, nn0, hc691, nn1, hc834, nn2, hc839, nn3]
              have et1 : own_b2 b0 b1 = (0 : Int32) := by simp [own_b2, own_i, hc542, nn0, hc691, nn1, hc834, nn2, hc839, nn3]
              have et2 : own_b3 b0 b1 b2 = (0 : Int32) := by simp [own_b3, own_i, hc542, nn0, hc691, nn1, hc834, nn2, hc839, nn3]
              have et3 : own_b4 b0 b1 b2 b0 = (1 : Int32) := by simp [own_b4, own_i, hc542, nn0, hc691, nn1, hc834, nn2, hc839, nn3]
              have et4 : own_b5 b0 b1 b2 b0 b1 = (2 : Int32) := by simp [own_b5, own_i, hc542, nn0, hc691, nn1, hc834, nn2, hc839, nn3]
              have et5 : own_b6 b0 b1 b2 b0 b1 b5 = (0 : Int32) := by simp [own_b6, own_i, hc542, nn0, hc691, nn1, hc834, nn2, hc839, nn3]
              exact o_retA cx X845 d2_60 rfl rfl rfl ⟨b534, rfl, KK, sz_b534, ge541, by rw [et0, et1, et2, et3, et4, et5]; exact A539⟩ (by decide) (by decide)
        · refine o_icmpNo cx X826 d2_25 (feq hc829).1 ?_
          refine o_aloadN cx X826 d2_28 rfl rfl ?_
          refine o_iloadN cx X826 d2_29 rfl ?_
          refine o_iconst cx X826 (z := (1 : Int32)) d2_30 rfl ?_
          refine o_isub cx X826 (z := (0 : Int32)) d2_31 rfl ?_
          refine o_ldI cx X826 (v := (.int (0 : Int32))) d2_32 A539 0 (by decide) rfl rfl ?_
          refine o_istoreN cx X826 (Ls' := #[.val (.ref aa), .val (.ref b534), .val (.int (0 : Int32)), .val (.int (4 : Int32))]) d2_33 rfl ?_
          refine o_goto cx X826 15 d2_34 (by decide) (by decide) ?_
          refine o_iloadN cx X826 d2_15 rfl ?_
          refine o_ifYes cx X826 37 d2_16 (by decide) (by decide) (by decide) ?_
          refine o_aloadN cx X826 d2_37 rfl rfl ?_
          refine o_iloadN cx X826 d2_38 rfl ?_
          refine o_ldB cx X826 (v := (.int b4)) d2_39 A0 4 (by decide) rfl rfl ?_
          refine o_aloadN cx X826 d2_40 rfl rfl ?_
          refine o_iloadN cx X826 d2_41 rfl ?_
          refine o_ldB cx X826 (v := (.int b0)) d2_42 A0 0 (by decide) rfl rfl ?_
          by_cases hc848 : b4 = b0
          · refine o_icmpNo cx X826 d2_43 (teq hc848).2 ?_
            obtain rfl : b0 = b4 := hc848.symm
            refine o_iinc cx X826 (z := (1 : Int32)) (Ls' := #[.val (.ref aa), .val (.ref b534), .val (.int (1 : Int32)), .val (.int (4 : Int32))]) d2_46 rfl rfl rfl ?_
            refine o_aloadN cx X826 d2_49 rfl rfl ?_
            refine o_iloadN cx X826 d2_50 rfl ?_
            refine o_iloadN cx X826 d2_51 rfl ?_
            refine o_stI cx X826 d2_52 A539 4 (by decide) rfl (Nat.le_of_ble_eq_true rfl) ge541 fun T849 h851 X850 W852 A539 => ?_
            have A0 := A0.other W852 ne_aa_b534
            have KK := KK.wr W852 (Or.inr sz_b534)
            have A539 : own_Ar Z h851 b534 .int [(.int (0 : Int32)), (.int (0 : Int32)), (.int (0 : Int32)), (.int (1 : Int32)), (.int (1 : Int32)), (.int (0 : Int32))] := A539
            refine o_iinc cx X850 (z := (5 : Int32)) (Ls' := #[.val (.ref aa), .val (.ref b534), .val (.int (1 : Int32)), .val (.int (5 : Int32))]) d2_53 rfl rfl rfl ?_
            refine o_goto cx X850 9 d2_56 (by decide) (by decide) ?_
            refine o_iloadN cx X850 d2_9 rfl ?_
            refine o_aloadN cx X850 d2_10 rfl rfl ?_
            refine o_len cx X850 (z := (6 : Int32)) d2_11 A0 rfl ?_
            refine o_icmpNo cx X850 d2_12 (by decide) ?_
            refine o_iloadN cx X850 d2_15 rfl ?_
            refine o_ifNo cx X850 d2_16 (by decide) ?_
            refine o_aloadN cx X850 d2_19 rfl rfl ?_
            refine o_iloadN cx X850 d2_20 rfl ?_
            refine o_ldB cx X850 (v := (.int b5)) d2_21 A0 5 (by decide) rfl rfl ?_
            refine o_aloadN cx X850 d2_22 rfl rfl ?_
            refine o_iloadN cx X850 d2_23 rfl ?_
            refine o_ldB cx X850 (v := (.int b1)) d2_24 A0 1 (by decide) rfl rfl ?_
            by_cases hc853 : b5 = b1
            · refine o_icmpYes cx X850 37 d2_25 (teq hc853).1 (by decide) (by decide) ?_
              obtain rfl : b1 = b5 := hc853.symm
              refine o_aloadN cx X850 d2_37 rfl rfl ?_
              refine o_iloadN cx X850 d2_38 rfl ?_
              refine o_ldB cx X850 (v := (.int b1)) d2_39 A0 5 (by decide) rfl rfl ?_
              refine o_aloadN cx X850 d2_40 rfl rfl ?_
              refine o_iloadN cx X850 d2_41 rfl ?_
              refine o_ldB cx X850 (v := (.int b1)) d2_42 A0 1 (by decide) rfl rfl ?_
              refine o_icmpNo cx X850 d2_43 (teq rfl).2 ?_
              refine o_iinc cx X850 (z := (2 : Int32)) (Ls' := #[.val (.ref aa), .val (.ref b534), .val (.int (2 : Int32)), .val (.int (5 : Int32))]) d2_46 rfl rfl rfl ?_
              refine o_aloadN cx X850 d2_49 rfl rfl ?_
              refine o_iloadN cx X850 d2_50 rfl ?_
              refine o_iloadN cx X850 d2_51 rfl ?_
              refine o_stI cx X850 d2_52 A539 5 (by decide) rfl (Nat.le_of_ble_eq_true rfl) ge541 fun T854 h856 X855 W857 A539 => ?_
              have A0 := A0.other W857 ne_aa_b534
              have KK := KK.wr W857 (Or.inr sz_b534)
              have A539 : own_Ar Z h856 b534 .int [(.int (0 : Int32)), (.int (0 : Int32)), (.int (0 : Int32)), (.int (1 : Int32)), (.int (1 : Int32)), (.int (2 : Int32))] := A539
              refine o_iinc cx X855 (z := (6 : Int32)) (Ls' := #[.val (.ref aa), .val (.ref b534), .val (.int (2 : Int32)), .val (.int (6 : Int32))]) d2_53 rfl rfl rfl ?_
              refine o_goto cx X855 9 d2_56 (by decide) (by decide) ?_
              refine o_iloadN cx X855 d2_9 rfl ?_
              refine o_aloadN cx X855 d2_10 rfl rfl ?_
              refine o_len cx X855 (z := (6 : Int32)) d2_11 A0 rfl ?_
              refine o_icmpYes cx X855 59 d2_12 (by decide) (by decide) (by decide) ?_
              refine o_aloadN cx X855 d2_59 rfl rfl ?_
              have nn0 : ¬ b0 = b1 := fun q => hc542 (Eq.symm q)
              have nn1 : ¬ b0 = b2 := fun q => hc691 (Eq.symm q)
              have nn2 : ¬ b1 = b0 := fun q => hc829 (Eq.symm q)
              have et0 : own_b1 b0 = (0 : Int32) := by simp [own_b1, own_i, hc542, nn0, hc691, nn1, hc829, nn2]
              have et1 : own_b2 b0 b1 = (0 : Int32) := by simp [own_b2, own_i, hc542, nn0, hc691, nn1, hc829, nn2]
              have et2 : own_b3 b0 b1 b2 = (0 : Int32) := by simp [own_b3, own_i, hc542, nn0, hc691, nn1, hc829, nn2]
              have et3 : own_b4 b0 b1 b2 b0 = (1 : Int32) := by simp [own_b4, own_i, hc542, nn0, hc691, nn1, hc829, nn2]
              have et4 : own_b5 b0 b1 b2 b0 b0 = (1 : Int32) := by simp [own_b5, own_i, hc542, nn0, hc691, nn1, hc829, nn2]
              have et5 : own_b6 b0 b1 b2 b0 b0 b1 = (2 : Int32) := by simp [own_b6, own_i, hc542, nn0, hc691, nn1, hc829, nn2]
              exact o_retA cx X855 d2_60 rfl rfl rfl ⟨b534, rfl, KK, sz_b534, ge541, by rw [et0, et1, et2, et3, et4, et5]; exact A539⟩ (by decide) (by decide)
            · refine o_icmpNo cx X850 d2_25 (feq hc853).1 ?_
              refine o_aloadN cx X850 d2_28 rfl rfl ?_
              refine o_iloadN cx X850 d2_29 rfl ?_
              refine o_iconst cx X850 (z := (1 : Int32)) d2_30 rfl ?_
              refine o_isub cx X850 (z := (0 : Int32)) d2_31 rfl ?_
              refine o_ldI cx X850 (v := (.int (0 : Int32))) d2_32 A539 0 (by decide) rfl rfl ?_
              refine o_istoreN cx X850 (Ls' := #[.val (.ref aa), .val (.ref b534), .val (.int (0 : Int32)), .val (.int (5 : Int32))]) d2_33 rfl ?_
              refine o_goto cx X850 15 d2_34 (by decide) (by decide) ?_
              refine o_iloadN cx X850 d2_15 rfl ?_
              refine o_ifYes cx X850 37 d2_16 (by decide) (by decide) (by decide) ?_
              refine o_aloadN cx X850 d2_37 rfl rfl ?_
              refine o_iloadN cx X850 d2_38 rfl ?_
              refine o_ldB cx X850 (v := (.int b5)) d2_39 A0 5 (by decide) rfl rfl ?_
              refine o_aloadN cx X850 d2_40 rfl rfl ?_
              refine o_iloadN cx X850 d2_41 rfl ?_
              refine o_ldB cx X850 (v := (.int b0)) d2_42 A0 0 (by decide) rfl rfl ?_
              by_cases hc858 : b5 = b0
              · refine o_icmpNo cx X850 d2_43 (teq hc858).2 ?_
                obtain rfl : b0 = b5 := hc858.symm
                refine o_iinc cx X850 (z := (1 : Int32)) (Ls' := #[.val (.ref aa), .val (.ref b534), .val (.int (1 : Int32)), .val (.int (5 : Int32))]) d2_46 rfl rfl rfl ?_
                refine o_aloadN cx X850 d2_49 rfl rfl ?_
                refine o_iloadN cx X850 d2_50 rfl ?_
                refine o_iloadN cx X850 d2_51 rfl ?_
                refine o_stI cx X850 d2_52 A539 5 (by decide) rfl (Nat.le_of_ble_eq_true rfl) ge541 fun T859 h861 X860 W862 A539 => ?_
                have A0 := A0.other W862 ne_aa_b534
                have KK := KK.wr W862 (Or.inr sz_b534)
                have A539 : own_Ar Z h861 b534 .int [(.int (0 : Int32)), (.int (0 : Int32)), (.int (0 : Int32)), (.int (1 : Int32)), (.int (1 : Int32)), (.int (1 : Int32))] := A539
                refine o_iinc cx X860 (z := (6 : Int32)) (Ls' := #[.val (.ref aa), .val (.ref b534), .val (.int (1 : Int32)), .val (.int (6 : Int32))]) d2_53 rfl rfl rfl ?_
                refine o_goto cx X860 9 d2_56 (by decide) (by decide) ?_
                refine o_iloadN cx X860 d2_9 rfl ?_
                refine o_aloadN cx X860 d2_10 rfl rfl ?_
                refine o_len cx X860 (z := (6 : Int32)) d2_11 A0 rfl ?_
                refine o_icmpYes cx X860 59 d2_12 (by decide) (by decide) (by decide) ?_
                refine o_aloadN cx X860 d2_59 rfl rfl ?_
                have nn0 : ¬ b0 = b1 := fun q => hc542 (Eq.symm q)
                have nn1 : ¬ b0 = b2 := fun q => hc691 (Eq.symm q)
                have nn2 : ¬ b1 = b0 := fun q => hc829 (Eq.symm q)
                have nn3 : ¬ b1 = b0 := fun q => hc853 (Eq.symm q)
                have et0 : own_b1 b0 = (0 : Int32) := by simp [own_b1, own_i, hc542, nn0, hc691, nn1, hc829, nn2, hc853, nn3]
                have et1 : own_b2 b0 b1 = (0 : Int32) := by simp [own_b2, own_i, hc542, nn0, hc691, nn1, hc829, nn2, hc853, nn3]
                have et2 : own_b3 b0 b1 b2 = (0 : Int32) := by simp [own_b3, own_i, hc542, nn0, hc691, nn1, hc829, nn2, hc853, nn3]
                have et3 : own_b4 b0 b1 b2 b0 = (1 : Int32) := by simp [own_b4, own_i, hc542, nn0, hc691, nn1, hc829, nn2, hc853, nn3]
                have et4 : own_b5 b0 b1 b2 b0 b0 = (1 : Int32) := by simp [own_b5, own_i, hc542, nn0, hc691, nn1, hc829, nn2, hc853, nn3]
                have et5 : own_b6 b0 b1 b2 b0 b0 b0 = (1 : Int32) := by simp [own_b6, own_i, hc542, nn0, hc691, nn1, hc829, nn2, hc853, nn3]
                exact o_retA cx X860 d2_60 rfl rfl rfl ⟨b534, rfl, KK, sz_b534, ge541, by rw [et0, et1, et2, et3, et4, et5]; exact A539⟩ (by decide) (by decide)
              · refine o_icmpYes cx X850 49 d2_43 (feq hc858).2 (by decide) (by decide) ?_
                refine o_aloadN cx X850 d2_49 rfl rfl ?_
                refine o_iloadN cx X850 d2_50 rfl ?_
                refine o_iloadN cx X850 d2_51 rfl ?_
                refine o_stI cx X850 d2_52 A539 5 (by decide) rfl (Nat.le_of_ble_eq_true rfl) ge541 fun T863 h865 X864 W866 A539 => ?_
                have A0 := A0.other W866 ne_aa_b534
                have KK := KK.wr W866 (Or.inr sz_b534)
                have A539 : own_Ar Z h865 b534 .int [(.int (0 : Int32)), (.int (0 : Int32)), (.int (0 : Int32)), (.int (1 : Int32)), (.int (1 : Int32)), (.int (0 : Int32))] := A539
                refine o_iinc cx X864 (z := (6 : Int32)) (Ls' := #[.val (.ref aa), .val (.ref b534), .val (.int (0 : Int32)), .val (.int (6 : Int32))]) d2_53 rfl rfl rfl ?_
                refine o_goto cx X864 9 d2_56 (by decide) (by decide) ?_
                refine o_iloadN cx X864 d2_9 rfl ?_
                refine o_aloadN cx X864 d2_10 rfl rfl ?_
                refine o_len cx X864 (z := (6 : Int32)) d2_11 A0 rfl ?_
                refine o_icmpYes cx X864 59 d2_12 (by decide) (by decide) (by decide) ?_
                refine o_aloadN cx X864 d2_59 rfl rfl ?_
                have nn0 : ¬ b0 = b1 := fun q => hc542 (Eq.symm q)
                have nn1 : ¬ b0 = b2 := fun q => hc691 (Eq.symm q)
                have nn2 : ¬ b1 = b0 := fun q => hc829 (Eq.symm q)
                have nn3 : ¬ b1 = b5 := fun q => hc853 (Eq.symm q)
                have nn4 : ¬ b0 = b5 := fun q => hc858 (Eq.symm q)
                have et0 : own_b1 b0 = (0 : Int32) := by simp [own_b1, own_i, hc542, nn0, hc691, nn1, hc829, nn2, hc853, nn3, hc858, nn4]
                have et1 : own_b2 b0 b1 = (0 : Int32) := by simp [own_b2, own_i, hc542, nn0, hc691, nn1, hc829, nn2, hc853, nn3, hc858, nn4]
                have et2 : own_b3 b0 b1 b2 = (0 : Int32) := by simp [own_b3, own_i, hc542, nn0, hc691, nn1, hc829, nn2, hc853, nn3, hc858, nn4]
                have et3 : own_b4 b0 b1 b2 b0 = (1 : Int32) := by simp [own_b4, own_i, hc542, nn0, hc691, nn1, hc829, nn2, hc853, nn3, hc858, nn4]
                have et4 : own_b5 b0 b1 b2 b0 b0 = (1 : Int32) := by simp [own_b5, own_i, hc542, nn0, hc691, nn1, hc829, nn2, hc853, nn3, hc858, nn4]
                have et5 : own_b6 b0 b1 b2 b0 b0 b5 = (0 : Int32) := by simp [own_b6, own_i, hc542, nn0, hc691, nn1, hc829, nn2, hc853, nn3, hc858, nn4]
                exact o_retA cx X864 d2_60 rfl rfl rfl ⟨b534, rfl, KK, sz_b534, ge541, by rw [et0, et1, et2, et3, et4, et5]; exact A539⟩ (by decide) (by decide)
          · refine o_icmpYes cx X826 49 d2_43 (feq hc848).2 (by decide) (by decide) ?_
            refine o_aloadN cx X826 d2_49 rfl rfl ?_
            refine o_iloadN cx X826 d2_50 rfl ?_
            refine o_iloadN cx X826 d2_51 rfl ?_
            refine o_stI cx X826 d2_52 A539 4 (by decide) rfl (Nat.le_of_ble_eq_true rfl) ge541 fun T867 h869 X868 W870 A539 => ?_
            have A0 := A0.other W870 ne_aa_b534
            have KK := KK.wr W870 (Or.inr sz_b534)
            have A539 : own_Ar Z h869 b534 .int [(.int (0 : Int32)), (.int (0 : Int32)), (.int (0 : Int32)), (.int (1 : Int32)), (.int (0 : Int32)), (.int (0 : Int32))] := A539
            refine o_iinc cx X868 (z := (5 : Int32)) (Ls' := #[.val (.ref aa), .val (.ref b534), .val (.int (0 : Int32)), .val (.int (5 : Int32))]) d2_53 rfl rfl rfl ?_
            refine o_goto cx X868 9 d2_56 (by decide) (by decide) ?_
            refine o_iloadN cx X868 d2_9 rfl ?_
            refine o_aloadN cx X868 d2_10 rfl rfl ?_
            refine o_len cx X868 (z := (6 : Int32)) d2_11 A0 rfl ?_
            refine o_icmpNo cx X868 d2_12 (by decide) ?_
            refine o_iloadN cx X868 d2_15 rfl ?_
            refine o_ifYes cx X868 37 d2_16 (by decide) (by decide) (by decide) ?_
            refine o_aloadN cx X868 d2_37 rfl rfl ?_
            refine o_iloadN cx X868 d2_38 rfl ?_
            refine o_ldB cx X868 (v := (.int b5)) d2_39 A0 5 (by decide) rfl rfl ?_
            refine o_aloadN cx X868 d2_40 rfl rfl ?_
            refine o_iloadN cx X868 d2_41 rfl ?_
            refine o_ldB cx X868 (v := (.int b0)) d2_42 A0 0 (by decide) rfl rfl ?_
            by_cases hc871 : b5 = b0
            · refine o_icmpNo cx X868 d2_43 (teq hc871).2 ?_
              obtain rfl : b0 = b5 := hc871.symm
              refine o_iinc cx X868 (z := (1 : Int32)) (Ls' := #[.val (.ref aa), .val (.ref b534), .val (.int (1 : Int32)), .val (.int (5 : Int32))]) d2_46 rfl rfl rfl ?_
              refine o_aloadN cx X868 d2_49 rfl rfl ?_
              refine o_iloadN cx X868 d2_50 rfl ?_
              refine o_iloadN cx X868 d2_51 rfl ?_
              refine o_stI cx X868 d2_52 A539 5 (by decide) rfl (Nat.le_of_ble_eq_true rfl) ge541 fun T872 h874 X873 W875 A539 => ?_
              have A0 := A0.other W875 ne_aa_b534
              have KK := KK.wr W875 (Or.inr sz_b534)
              have A539 : own_Ar Z h874 b534 .int [(.int (0 : Int32)), (.int (0 : Int32)), (.int (0 : Int32)), (.int (1 : Int32)), (.int (0 : Int32)), (.int (1 : Int32))] := A539
              refine o_iinc cx X873 (z := (6 : Int32)) (Ls' := #[.val (.ref aa), .val (.ref b534), .val (.int (1 : Int32)), .val (.int (6 : Int32))]) d2_53 rfl rfl rfl ?_
              refine o_goto cx X873 9 d2_56 (by decide) (by decide) ?_
              refine o_iloadN cx X873 d2_9 rfl ?_
              refine o_aloadN cx X873 d2_10 rfl rfl ?_
              refine o_len cx X873 (z := (6 : Int32)) d2_11 A0 rfl ?_
              refine o_icmpYes cx X873 59 d2_12 (by decide) (by decide) (by decide) ?_
              refine o_aloadN cx X873 d2_59 rfl rfl ?_
              have nn0 : ¬ b0 = b1 := fun q => hc542 (Eq.symm q)
              have nn1 : ¬ b0 = b2 := fun q => hc691 (Eq.symm q)
              have nn2 : ¬ b1 = b4 := fun q => hc829 (Eq.symm q)
              have nn3 : ¬ b0 = b4 := fun q => hc848 (Eq.symm q)
              have et0 : own_b1 b0 = (0 : Int32) := by simp [own_b1, own_i, hc542, nn0, hc691, nn1, hc829, nn2, hc848, nn3]
              have et1 : own_b2 b0 b1 = (0 : Int32) := by simp [own_b2, own_i, hc542, nn0, hc691, nn1, hc829, nn2, hc848, nn3]
              have et2 : own_b3 b0 b1 b2 = (0 : Int32) := by simp [own_b3, own_i, hc542, nn0, hc691, nn1, hc829, nn2, hc848, nn3]
              have et3 : own_b4 b0 b1 b2 b0 = (1 : Int32) := by simp [own_b4, own_i, hc542, nn0, hc691, nn1, hc829, nn2, hc848, nn3]
              have et4 : own_b5 b0 b1 b2 b0 b4 = (0 : Int32) := by simp [own_b5, own_i, hc542, nn0, hc691, nn1, hc829, nn2, hc848, nn3]
              have et5 : own_b6 b0 b1 b2 b0 b4 b0 = (1 : Int32) := by simp [own_b6, own_i, hc542, nn0, hc691, nn1, hc829, nn2, hc848, nn3]
              exact o_retA cx X873 d2_60 rfl rfl rfl ⟨b534, rfl, KK, sz_b534, ge541, by rw [et0, et1, et2, et3, et4, et5]; exact A539⟩ (by decide) (by decide)
            · refine o_icmpYes cx X868 49 d2_43 (feq hc871).2 (by decide) (by decide) ?_
              refine o_aloadN cx X868 d2_49 rfl rfl ?_
              refine o_iloadN cx X868 d2_50 rfl ?_
              refine o_iloadN cx X868 d2_51 rfl ?_
              refine o_stI cx X868 d2_52 A539 5 (by decide) rfl (Nat.le_of_ble_eq_true rfl) ge541 fun T876 h878 X877 W879 A539 => ?_
              have A0 := A0.other W879 ne_aa_b534
              have KK := KK.wr W879 (Or.inr sz_b534)
              have A539 : own_Ar Z h878 b534 .int [(.int (0 : Int32)), (.int (0 : Int32)), (.int (0 : Int32)), (.int (1 : Int32)), (.int (0 : Int32)), (.int (0 : Int32))] := A539
              refine o_iinc cx X877 (z := (6 : Int32)) (Ls' := #[.val (.ref aa), .val (.ref b534), .val (.int (0 : Int32)), .val (.int (6 : Int32))]) d2_53 rfl rfl rfl ?_
              refine o_goto cx X877 9 d2_56 (by decide) (by decide) ?_
              refine o_iloadN cx X877 d2_9 rfl ?_
              refine o_aloadN cx X877 d2_10 rfl rfl ?_
              refine o_len cx X877 (z := (6 : Int32)) d2_11 A0 rfl ?_
              refine o_icmpYes cx X877 59 d2_12 (by decide) (by decide) (by decide) ?_
              refine o_aloadN cx X877 d2_59 rfl rfl ?_
              have nn0 : ¬ b0 = b1 := fun q => hc542 (Eq.symm q)
              have nn1 : ¬ b0 = b2 := fun q => hc691 (Eq.symm q)
              have nn2 : ¬ b1 = b4 := fun q => hc829 (Eq.symm q)
              have nn3 : ¬ b0 = b4 := fun q => hc848 (Eq.symm q)
              have nn4 : ¬ b0 = b5 := fun q => hc871 (Eq.symm q)
              have et0 : own_b1 b0 = (0 : Int32) := by simp [own_b1, own_i, hc542, nn0, hc691, nn1, hc829, nn2, hc848, nn3, hc871, nn4]
              have et1 : own_b2 b0 b1 = (0 : Int32) := by simp [own_b2, own_i, hc542, nn0, hc691, nn1, hc829, nn2, hc848, nn3, hc871, nn4]
              have et2 : own_b3 b0 b1 b2 = (0 : Int32) := by simp [own_b3, own_i, hc542, nn0, hc691, nn1, hc829, nn2, hc848, nn3, hc871, nn4]
              have et3 : own_b4 b0 b1 b2 b0 = (1 : Int32) := by simp [own_b4, own_i, hc542, nn0, hc691, nn1, hc829, nn2, hc848, nn3, hc871, nn4]
              have et4 : own_b5 b0 b1 b2 b0 b4 = (0 : Int32) := by simp [own_b5, own_i, hc542, nn0, hc691, nn1, hc829, nn2, hc848, nn3, hc871, nn4]
              have et5 : own_b6 b0 b1 b2 b0 b4 b5 = (0 : Int32) := by simp [own_b6, own_i, hc542, nn0, hc691, nn1, hc829, nn2, hc848, nn3, hc871, nn4]
              exact o_retA cx X877 d2_60 rfl rfl rfl ⟨b534, rfl, KK, sz_b534, ge541, by rw [et0, et1, et2, et3, et4, et5]; exact A539⟩ (by decide) (by decide)
      · refine o_icmpYes cx X821 49 d2_43 (feq hc824).2 (by decide) (by decide) ?_
        refine o_aloadN cx X821 d2_49 rfl rfl ?_
        refine o_iloadN cx X821 d2_50 rfl ?_
        refine o_iloadN cx X821 d2_51 rfl ?_
        refine o_stI cx X821 d2_52 A539 3 (by decide) rfl (Nat.le_of_ble_eq_true rfl) ge541 fun T880 h882 X881 W883 A539 => ?_
        have A0 := A0.other W883 ne_aa_b534
        have KK := KK.wr W883 (Or.inr sz_b534)
        have A539 : own_Ar Z h882 b534 .int [(.int (0 : Int32)), (.int (0 : Int32)), (.int (0 : Int32)), (.int (0 : Int32)), (.int (0 : Int32)), (.int (0 : Int32))] := A539
        refine o_iinc cx X881 (z := (4 : Int32)) (Ls' := #[.val (.ref aa), .val (.ref b534), .val (.int (0 : Int32)), .val (.int (4 : Int32))]) d2_53 rfl rfl rfl ?_
        refine o_goto cx X881 9 d2_56 (by decide) (by decide) ?_
        refine o_iloadN cx X881 d2_9 rfl ?_
        refine o_aloadN cx X881 d2_10 rfl rfl ?_
        refine o_len cx X881 (z := (6 : Int32)) d2_11 A0 rfl ?_
        refine o_icmpNo cx X881 d2_12 (by decide) ?_
        refine o_iloadN cx X881 d2_15 rfl ?_
        refine o_ifYes cx X881 37 d2_16 (by decide) (by decide) (by decide) ?_
        refine o_aloadN cx X881 d2_37 rfl rfl ?_
        refine o_iloadN cx X881 d2_38 rfl ?_
        refine o_ldB cx X881 (v := (.int b4)) d2_39 A0 4 (by decide) rfl rfl ?_
        refine o_aloadN cx X881 d2_40 rfl rfl ?_
        refine o_iloadN cx X881 d2_41 rfl ?_
        refine o_ldB cx X881 (v := (.int b0)) d2_42 A0 0 (by decide) rfl rfl ?_
        by_cases hc884 : b4 = b0
        · refine o_icmpNo cx X881 d2_43 (teq hc884).2 ?_
          obtain rfl : b0 = b4 := hc884.symm
          refine o_iinc cx X881 (z := (1 : Int32)) (Ls' := #[.val (.ref aa), .val (.ref b534), .val (.int (1 : Int32)), .val (.int (4 : Int32))]) d2_46 rfl rfl rfl ?_
          refine o_aloadN cx X881 d2_49 rfl rfl ?_
          refine o_iloadN cx X881 d2_50 rfl ?_
          refine o_iloadN cx X881 d2_51 rfl ?_
          refine o_stI cx X881 d2_52 A539 4 (by decide) rfl (Nat.le_of_ble_eq_true rfl) ge541 fun T885 h887 X886 W888 A539 => ?_
          have A0 := A0.other W888 ne_aa_b534
          have KK := KK.wr W888 (Or.inr sz_b534)
          have A539 : own_Ar Z h887 b534 .int [(.int (0 : Int32)), (.int (0 : Int32)), (.int (0 : Int32)), (.int (0 : Int32)), (.int (1 : Int32)), (.int (0 : Int32))] := A539
          refine o_iinc cx X886 (z := (5 : Int32)) (Ls' := #[.val (.ref aa), .val (.ref b534), .val (.int (1 : Int32)), .val (.int (5 : Int32))]) d2_53 rfl rfl rfl ?_
          refine o_goto cx X886 9 d2_56 (by decide) (by decide) ?_
          refine o_iloadN cx X886 d2_9 rfl ?_
          refine o_aloadN cx X886 d2_10 rfl rfl ?_
          refine o_len cx X886 (z := (6 : Int32)) d2_11 A0 rfl ?_
          refine o_icmpNo cx X886 d2_12 (by decide) ?_
          refine o_iloadN cx X886 d2_15 rfl ?_
          refine o_ifNo cx X886 d2_16 (by decide) ?_
          refine o_aloadN cx X886 d2_19 rfl rfl ?_
          refine o_iloadN cx X886 d2_20 rfl ?_
          refine o_ldB cx X886 (v := (.int b5)) d2_21 A0 5 (by decide) rfl rfl ?_
          refine o_aloadN cx X886 d2_22 rfl rfl ?_
          refine o_iloadN cx X886 d2_23 rfl ?_
          refine o_ldB cx X886 (v := (.int b1)) d2_24 A0 1 (by decide) rfl rfl ?_
          by_cases hc889 : b5 = b1
          · refine o_icmpYes cx X886 37 d2_25 (teq hc889).1 (by decide) (by decide) ?_
            obtain rfl : b1 = b5 := hc889.symm
            refine o_aloadN cx X886 d2_37 rfl rfl ?_
            refine o_iloadN cx X886 d2_38 rfl ?_
            refine o_ldB cx X886 (v := (.int b1)) d2_39 A0 5 (by decide) rfl rfl ?_
            refine o_aloadN cx X886 d2_40 rfl rfl ?_
            refine o_iloadN cx X886 d2_41 rfl ?_
            refine o_ldB cx X886 (v := (.int b1)) d2_42 A0 1 (by decide) rfl rfl ?_
            refine o_icmpNo cx X886 d2_43 (teq rfl).2 ?_
            refine o_iinc cx X886 (z := (2 : Int32)) (Ls' := #[.val (.ref aa), .val (.ref b534), .val (.int (2 : Int32)), .val (.int (5 : Int32))]) d2_46 rfl rfl rfl ?_
            refine o_aloadN cx X886 d2_49 rfl rfl ?_
            refine o_iloadN cx X886 d2_50 rfl ?_
            refine o_iloadN cx X886 d2_51 rfl ?_
            refine o_stI cx X886 d2_52 A539 5 (by decide) rfl (Nat.le_of_ble_eq_true rfl) ge541 fun T890 h892 X891 W893 A539 => ?_
            have A0 := A0.other W893 ne_aa_b534
            have KK := KK.wr W893 (Or.inr sz_b534)
            have A539 : own_Ar Z h892 b534 .int [(.int (0 : Int32)), (.int (0 : Int32)), (.int (0 : Int32)), (.int (0 : Int32)), (.int (1 : Int32)), (.int (2 : Int32))] := A539
            refine o_iinc cx X891 (z := (6 : Int32)) (Ls' := #[.val (.ref aa), .val (.ref b534), .val (.int (2 : Int32)), .val (.int (6 : Int32))]) d2_53 rfl rfl rfl ?_
            refine o_goto cx X891 9 d2_56 (by decide) (by decide) ?_
            refine o_iloadN cx X891 d2_9 rfl ?_
            refine o_aloadN cx X891 d2_10 rfl rfl ?_
            refine o_len cx X891 (z := (6 : Int32)) d2_11 A0 rfl ?_
            refine o_icmpYes cx X891 59 d2_12 (by decide) (by decide) (by decide) ?_
            refine o_aloadN cx X891 d2_59 rfl rfl ?_
            have nn0 : ¬ b0 = b1 := fun q => hc542 (Eq.symm q)
            have nn1 : ¬ b0 = b2 := fun q => hc691 (Eq.symm q)
            have nn2 : ¬ b0 = b3 := fun q => hc824 (Eq.symm q)
            have et0 : own_b1 b0 = (0 : Int32) := by simp [own_b1, own_i, hc542, nn0, hc691, nn1, hc824, nn2]
            have et1 : own_b2 b0 b1 = (0 : Int32) := by simp [own_b2, own_i, hc542, nn0, hc691, nn1, hc824, nn2]
            have et2 : own_b3 b0 b1 b2 = (0 : Int32) := by simp [own_b3, own_i, hc542, nn0, hc691, nn1, hc824, nn2]
            have et3 : own_b4 b0 b1 b2 b3 = (0 : Int32) := by simp [own_b4, own_i, hc542, nn0, hc691, nn1, hc824, nn2]
            have et4 : own_b5 b0 b1 b2 b3 b0 = (1 : Int32) := by simp [own_b5, own_i, hc542, nn0, hc691, nn1, hc824, nn2]
            have et5 : own_b6 b0 b1 b2 b3 b0 b1 = (2 : Int32) := by simp [own_b6, own_i, hc542, nn0, hc691, nn1, hc824, nn2]
            exact o_retA cx X891 d2_60 rfl rfl rfl ⟨b534, rfl, KK, sz_b534, ge541, by rw [et0, et1, et2, et3, et4, et5]; exact A539⟩ (by decide) (by decide)
          · refine o_icmpNo cx X886 d2_25 (feq hc889).1 ?_
            refine o_aloadN cx X886 d2_28 rfl rfl ?_
            refine o_iloadN cx X886 d2_29 rfl ?_
            refine o_iconst cx X886 (z := (1 : Int32)) d2_30 rfl ?_
            refine o_isub cx X886 (z := (0 : Int32)) d2_31 rfl ?_
            refine o_ldI cx X886 (v := (.int (0 : Int32))) d2_32 A539 0 (by decide) rfl rfl ?_
            refine o_istoreN cx X886 (Ls' := #[.val (.ref aa), .val (.ref b534), .val (.int (0 : Int32)), .val (.int (5 : Int32))]) d2_33 rfl ?_
            refine o_goto cx X886 15 d2_34 (by decide) (by decide) ?_
            refine o_iloadN cx X886 d2_15 rfl ?_
            refine o_ifYes cx X886 37 d2_16 (by decide) (by decide) (by decide) ?_
            refine o_aloadN cx X886 d2_37 rfl rfl ?_
            refine o_iloadN cx X886 d2_38 rfl ?_
            refine o_ldB cx X886 (v := (.int b5)) d2_39 A0 5 (by decide) rfl rfl ?_
            refine o_aloadN cx X886 d2_40 rfl rfl ?_
            refine o_iloadN cx X886 d2_41 rfl ?_
            refine o_ldB cx X886 (v := (.int b0)) d2_42 A0 0 (by decide) rfl rfl ?_
            by_cases hc894 : b5 = b0
            · refine o_icmpNo cx X886 d2_43 (teq hc894).2 ?_
              obtain rfl : b0 = b5 := hc894.symm
              refine o_iinc cx X886 (z := (1 : Int32)) (Ls' := #[.val (.ref aa), .val (.ref b534), .val (.int (1 : Int32)), .val (.int (5 : Int32))]) d2_46 rfl rfl rfl ?_
              refine o_aloadN cx X886 d2_49 rfl rfl ?_
              refine o_iloadN cx X886 d2_50 rfl ?_
              refine o_iloadN cx X886 d2_51 rfl ?_
              refine o_stI cx X886 d2_52 A539 5 (by decide) rfl (Nat.le_of_ble_eq_true rfl) ge541 fun T895 h897 X896 W898 A539 => ?_
              have A0 := A0.other W898 ne_aa_b534
              have KK := KK.wr W898 (Or.inr sz_b534)
              have A539 : own_Ar Z h897 b534 .int [(.int (0 : Int32)), (.int (0 : Int32)), (.int (0 : Int32)), (.int (0 : Int32)), (.int (1 : Int32)), (.int (1 : Int32))] := A539
              refine o_iinc cx X896 (z := (6 : Int32)) (Ls' := #[.val (.ref aa), .val (.ref b534), .val (.int (1 : Int32)), .val (.int (6 : Int32))]) d2_53 rfl rfl rfl ?_
              refine o_goto cx X896 9 d2_56 (by decide) (by decide) ?_
              refine o_iloadN cx X896 d2_9 rfl ?_
              refine o_aloadN cx X896 d2_10 rfl rfl ?_
              refine o_len cx X896 (z := (6 : Int32)) d2_11 A0 rfl ?_
              refine o_icmpYes cx X896 59 d2_12 (by decide) (by decide) (by decide) ?_
              refine o_aloadN cx X896 d2_59 rfl rfl ?_
              have nn0 : ¬ b0 = b1 := fun q => hc542 (Eq.symm q)
              have nn1 : ¬ b0 = b2 := fun q => hc691 (Eq.symm q)
              have nn2 : ¬ b0 = b3 := fun q => hc824 (Eq.symm q)
              have nn3 : ¬ b1 = b0 := fun q => hc889 (Eq.symm q)
              have et0 : own_b1 b0 = (0 : Int32) := by simp [own_b1, own_i, hc542, nn0, hc691, nn1, hc824, nn2, hc889, nn3]
              have et1 : own_b2 b0 b1 = (0 : Int32) := by simp [own_b2, own_i, hc542, nn0, hc691, nn1, hc824, nn2, hc889, nn3]
              have et2 : own_b3 b0 b1 b2 = (0 : Int32) := by simp [own_b3, own_i, hc542, nn0, hc691, nn1, hc824, nn2, hc889, nn3]
              have et3 : own_b4 b0 b1 b2 b3 = (0 : Int32) := by simp [own_b4, own_i, hc542, nn0, hc691, nn1, hc824, nn2, hc889, nn3]
              have et4 : own_b5 b0 b1 b2 b3 b0 = (1 : Int32) := by simp [own_b5, own_i, hc542, nn0, hc691, nn1, hc824, nn2, hc889, nn3]
              have et5 : own_b6 b0 b1 b2 b3 b0 b0 = (1 : Int32) := by simp [own_b6, own_i, hc542, nn0, hc691, nn1, hc824, nn2, hc889, nn3]
              exact o_retA cx X896 d2_60 rfl rfl rfl ⟨b534, rfl, KK, sz_b534, ge541, by rw [et0, et1, et2, et3, et4, et5]; exact A539⟩ (by decide) (by decide)
            · refine o_icmpYes cx X886 49 d2_43 (feq hc894).2 (by decide) (by decide) ?_
              refine o_aloadN cx X886 d2_49 rfl rfl ?_
              refine o_iloadN cx X886 d2_50 rfl ?_
              refine o_iloadN cx X886 d2_51 rfl ?_
              refine o_stI cx X886 d2_52 A539 5 (by decide) rfl (Nat.le_of_ble_eq_true rfl) ge541 fun T899 h901 X900 W902 A539 => ?_
              have A0 := A0.other W902 ne_aa_b534
              have KK := KK.wr W902 (Or.inr sz_b534)
              have A539 : own_Ar Z h901 b534 .int [(.int (0 : Int32)), (.int (0 : Int32)), (.int (0 : Int32)), (.int (0 : Int32)), (.int (1 : Int32)), (.int (0 : Int32))] := A539
              refine o_iinc cx X900 (z := (6 : Int32)) (Ls' := #[.val (.ref aa), .val (.ref b534), .val (.int (0 : Int32)), .val (.int (6 : Int32))]) d2_53 rfl rfl rfl ?_
              refine o_goto cx X900 9 d2_56 (by decide) (by decide) ?_
              refine o_iloadN cx X900 d2_9 rfl ?_
              refine o_aloadN cx X900 d2_10 rfl rfl ?_
              refine o_len cx X900 (z := (6 : Int32)) d2_11 A0 rfl ?_
              refine o_icmpYes cx X900 59 d2_12 (by decide) (by decide) (by decide) ?_
              refine o_aloadN cx X900 d2_59 rfl rfl ?_
              have nn0 : ¬ b0 = b1 := fun q => hc542 (Eq.symm q)
              have nn1 : ¬ b0 = b2 := fun q => hc691 (Eq.symm q)
              have nn2 : ¬ b0 = b3 := fun q => hc824 (Eq.symm q)
              have nn3 : ¬ b1 = b5 := fun q => hc889 (Eq.symm q)
              have nn4 : ¬ b0 = b5 := fun q => hc894 (Eq.symm q)
              have et0 : own_b1 b0 = (0 : Int32) := by simp [own_b1, own_i, hc542, nn0, hc691, nn1, hc824, nn2, hc889, nn3, hc894, nn4]
              have et1 : own_b2 b0 b1 = (0 : Int32) := by simp [own_b2, own_i, hc542, nn0, hc691, nn1, hc824, nn2, hc889, nn3, hc894, nn4]
              have et2 : own_b3 b0 b1 b2 = (0 : Int32) := by simp [own_b3, own_i, hc542, nn0, hc691, nn1, hc824, nn2, hc889, nn3, hc894, nn4]
              have et3 : own_b4 b0 b1 b2 b3 = (0 : Int32) := by simp [own_b4, own_i, hc542, nn0, hc691, nn1, hc824, nn2, hc889, nn3, hc894, nn4]
              have et4 : own_b5 b0 b1 b2 b3 b0 = (1 : Int32) := by simp [own_b5, own_i, hc542, nn0, hc691, nn1, hc824, nn2, hc889, nn3, hc894, nn4]
              have et5 : own_b6 b0 b1 b2 b3 b0 b5 = (0 : Int32) := by simp [own_b6, own_i, hc542, nn0, hc691, nn1, hc824, nn2, hc889, nn3, hc894, nn4]
              exact o_retA cx X900 d2_60 rfl rfl rfl ⟨b534, rfl, KK, sz_b534, ge541, by rw [et0, et1, et2, et3, et4, et5]; exact A539⟩ (by decide) (by decide)
        · refine o_icmpYes cx X881 49 d2_43 (feq hc884).2 (by decide) (by decide) ?_
          refine o_aloadN cx X881 d2_49 rfl rfl ?_
          refine o_iloadN cx X881 d2_50 rfl ?_
          refine o_iloadN cx X881 d2_51 rfl ?_
          refine o_stI cx X881 d2_52 A539 4 (by decide) rfl (Nat.le_of_ble_eq_true rfl) ge541 fun T903 h905 X904 W906 A539 => ?_
          have A0 := A0.other W906 ne_aa_b534
          have KK := KK.wr W906 (Or.inr sz_b534)
          have A539 : own_Ar Z h905 b534 .int [(.int (0 : Int32)), (.int (0 : Int32)), (.int (0 : Int32)), (.int (0 : Int32)), (.int (0 : Int32)), (.int (0 : Int32))] := A539
          refine o_iinc cx X904 (z := (5 : Int32)) (Ls' := #[.val (.ref aa), .val (.ref b534), .val (.int (0 : Int32)), .val (.int (5 : Int32))]) d2_53 rfl rfl rfl ?_
          refine o_goto cx X904 9 d2_56 (by decide) (by decide) ?_
          refine o_iloadN cx X904 d2_9 rfl ?_
          refine o_aloadN cx X904 d2_10 rfl rfl ?_
          refine o_len cx X904 (z := (6 : Int32)) d2_11 A0 rfl ?_
          refine o_icmpNo cx X904 d2_12 (by decide) ?_
          refine o_iloadN cx X904 d2_15 rfl ?_
          refine o_ifYes cx X904 37 d2_16 (by decide) (by decide) (by decide) ?_
          refine o_aloadN cx X904 d2_37 rfl rfl ?_
          refine o_iloadN cx X904 d2_38 rfl ?_
          refine o_ldB cx X904 (v := (.int b5)) d2_39 A0 5 (by decide) rfl rfl ?_
          refine o_aloadN cx X904 d2_40 rfl rfl ?_
          refine o_iloadN cx X904 d2_41 rfl ?_
          refine o_ldB cx X904 (v := (.int b0)) d2_42 A0 0 (by decide) rfl rfl ?_
          by_cases hc907 : b5 = b0
          · refine o_icmpNo cx X904 d2_43 (teq hc907).2 ?_
            obtain rfl : b0 = b5 := hc907.symm
            refine o_iinc cx X904 (z := (1 : Int32)) (Ls' := #[.val (.ref aa), .val (.ref b534), .val (.int (1 : Int32)), .val (.int (5 : Int32))]) d2_46 rfl rfl rfl ?_
            refine o_aloadN cx X904 d2_49 rfl rfl ?_
            refine o_iloadN cx X904 d2_50 rfl ?_
            refine o_iloadN cx X904 d2_51 rfl ?_
            refine o_stI cx X904 d2_52 A539 5 (by decide) rfl (Nat.le_of_ble_eq_true rfl) ge541 fun T908 h910 X909 W911 A539 => ?_
            have A0 := A0.other W911 ne_aa_b534
            have KK := KK.wr W911 (Or.inr sz_b534)
            have A539 : own_Ar Z h910 b534 .int [(.int (0 : Int32)), (.int (0 : Int32)), (.int (0 : Int32)), (.int (0 : Int32)), (.int (0 : Int32)), (.int (1 : Int32))] := A539
            refine o_iinc cx X909 (z := (6 : Int32)) (Ls' := #[.val (.ref aa), .val (.ref b534), .val (.int (1 : Int32)), .val (.int (6 : Int32))]) d2_53 rfl rfl rfl ?_
            refine o_goto cx X909 9 d2_56 (by decide) (by decide) ?_
            refine o_iloadN cx X909 d2_9 rfl ?_
            refine o_aloadN cx X909 d2_10 rfl rfl ?_
            refine o_len cx X909 (z := (6 : Int32)) d2_11 A0 rfl ?_
            refine o_icmpYes cx X909 59 d2_12 (by decide) (by decide) (by decide) ?_
            refine o_aloadN cx X909 d2_59 rfl rfl ?_
            have nn0 : ¬ b0 = b1 := fun q => hc542 (Eq.symm q)
            have nn1 : ¬ b0 = b2 := fun q => hc691 (Eq.symm q)
            have nn2 : ¬ b0 = b3 := fun q => hc824 (Eq.symm q)
            have nn3 : ¬ b0 = b4 := fun q => hc884 (Eq.symm q)
            have et0 : own_b1 b0 = (0 : Int32) := by simp [own_b1, own_i, hc542, nn0, hc691, nn1, hc824, nn2, hc884, nn3]
            have et1 : own_b2 b0 b1 = (0 : Int32) := by simp [own_b2, own_i, hc542, nn0, hc691, nn1, hc824, nn2, hc884, nn3]
            have et2 : own_b3 b0 b1 b2 = (0 : Int32) := by simp [own_b3, own_i, hc542, nn0, hc691, nn1, hc824, nn2, hc884, nn3]
            have et3 : own_b4 b0 b1 b2 b3 = (0 : Int32) := by simp [own_b4, own_i, hc542, nn0, hc691, nn1, hc824, nn2, hc884, nn3]
            have et4 : own_b5 b0 b1 b2 b3 b4 = (0 : Int32) := by simp [own_b5, own_i, hc542, nn0, hc691, nn1, hc824, nn2, hc884, nn3]
            have et5 : own_b6 b0 b1 b2 b3 b4 b0 = (1 : Int32) := by simp [own_b6, own_i, hc542, nn0, hc691, nn1, hc824, nn2, hc884, nn3]
            exact o_retA cx X909 d2_60 rfl rfl rfl ⟨b534, rfl, KK, sz_b534, ge541, by rw [et0, et1, et2, et3, et4, et5]; exact A539⟩ (by decide) (by decide)
          · refine o_icmpYes cx X904 49 d2_43 (feq hc907).2 (by decide) (by decide) ?_
            refine o_aloadN cx X904 d2_49 rfl rfl ?_
            refine o_iloadN cx X904 d2_50 rfl ?_
            refine o_iloadN cx X904 d2_51 rfl ?_
            refine o_stI cx X904 d2_52 A539 5 (by decide) rfl (Nat.le_of_ble_eq_true rfl) ge541 fun T912 h914 X913 W915 A539 => ?_
            have A0 := A0.other W915 ne_aa_b534
            have KK := KK.wr W915 (Or.inr sz_b534)
            have A539 : own_Ar Z h914 b534 .int [(.int (0 : Int32)), (.int (0 : Int32)), (.int (0 : Int32)), (.int (0 : Int32)), (.int (0 : Int32)), (.int (0 : Int32))] := A539
            refine o_iinc cx X913 (z := (6 : Int32)) (Ls' := #[.val (.ref aa), .val (.ref b534), .val (.int (0 : Int32)), .val (.int (6 : Int32))]) d2_53 rfl rfl rfl ?_
            refine o_goto cx X913 9 d2_56 (by decide) (by decide) ?_
            refine o_iloadN cx X913 d2_9 rfl ?_
            refine o_aloadN cx X913 d2_10 rfl rfl ?_
            refine o_len cx X913 (z := (6 : Int32)) d2_11 A0 rfl ?_
            refine o_icmpYes cx X913 59 d2_12 (by decide) (by decide) (by decide) ?_
            refine o_aloadN cx X913 d2_59 rfl rfl ?_
            have nn0 : ¬ b0 = b1 := fun q => hc542 (Eq.symm q)
            have nn1 : ¬ b0 = b2 := fun q => hc691 (Eq.symm q)
            have nn2 : ¬ b0 = b3 := fun q => hc824 (Eq.symm q)
            have nn3 : ¬ b0 = b4 := fun q => hc884 (Eq.symm q)
            have nn4 : ¬ b0 = b5 := fun q => hc907 (Eq.symm q)
            have et0 : own_b1 b0 = (0 : Int32) := by simp [own_b1, own_i, hc542, nn0, hc691, nn1, hc824, nn2, hc884, nn3, hc907, nn4]
            have et1 : own_b2 b0 b1 = (0 : Int32) := by simp [own_b2, own_i, hc542, nn0, hc691, nn1, hc824, nn2, hc884, nn3, hc907, nn4]
            have et2 : own_b3 b0 b1 b2 = (0 : Int32) := by simp [own_b3, own_i, hc542, nn0, hc691, nn1, hc824, nn2, hc884, nn3, hc907, nn4]
            have et3 : own_b4 b0 b1 b2 b3 = (0 : Int32) := by simp [own_b4, own_i, hc542, nn0, hc691, nn1, hc824, nn2, hc884, nn3, hc907, nn4]
            have et4 : own_b5 b0 b1 b2 b3 b4 = (0 : Int32) := by simp [own_b5, own_i, hc542, nn0, hc691, nn1, hc824, nn2, hc884, nn3, hc907, nn4]
            have et5 : own_b6 b0 b1 b2 b3 b4 b5 = (0 : Int32) := by simp [own_b6, own_i, hc542, nn0, hc691, nn1, hc824, nn2, hc884, nn3, hc907, nn4]
            exact o_retA cx X913 d2_60 rfl rfl rfl ⟨b534, rfl, KK, sz_b534, ge541, by rw [et0, et1, et2, et3, et4, et5]; exact A539⟩ (by decide) (by decide)
theorem d1_0 : decode method_3_code 0 = .ok (.iload_n 0, 1) := by decide +kernel
theorem d1_1 : decode method_3_code 1 = .ok (.iconst 1, 1) := by decide +kernel
theorem d1_2 : decode method_3_code 2 = .ok (.if_icmp .ne 7, 3) := by decide +kernel
theorem d1_5 : decode method_3_code 5 = .ok (.iconst 1, 1) := by decide +kernel
theorem d1_6 : decode method_3_code 6 = .ok (.newarray .byte, 2) := by decide +kernel
theorem d1_8 : decode method_3_code 8 = .ok (.areturn, 1) := by decide +kernel
theorem ef_ra1_1 (m : MethodId)  : entryFrame m #[(.int (1 : Int32))] 1 = mkF m 0 #[.val (.int (1 : Int32))] [] := by first | (simp [entryFrame, mkF, argsToLocals, Value.category]; done) | rfl
set_option maxRecDepth 65536 in
set_option maxHeartbeats 40000000 in
theorem ra1_1 (l : Launch) (Z : State) (a0 : Array Value) (hw : ∀ d ∈ tables_1, d.before a0 Z = true)  (h0 : Heap) (n0 : Nat) (Z0 : n0 ≤ h0.size) :
    own_Met l Z (⟨"com/example/needlewise/needlewise/KmpPartialMatchPinLaw", "make", "(I)[B"⟩ : MethodName) method_3_code 1 (some (.array .byte)) ({ frames := 0, cells := 1, slots := 1, locals := 0 } : Room) #[(.int (1 : Int32))] h0 n0 (fun v' h' => ∃ b0 : Addr, v' = some (.ref b0) ∧ Keep h0 h' [] ∧ h0.size ≤ b0 ∧ n0 ≤ b0 ∧ own_Ar Z h' b0 .byte [(.int (0 : Int32))]) := by
  refine own_body (plainFor_of_name pn_5) (fun m => ef_ra1_1 m ) Z0 ?_
  intro p e s m below meth c T0 cx X0
  have KK := Keep.refl h0 []
  show own_Go p e below _ (T0.setTop (mkF m 0 #[.val (.int (1 : Int32))] []))
  refine o_iloadN cx X0 d1_0 rfl ?_
  refine o_iconst cx X0 (z := (1 : Int32)) d1_1 rfl ?_
  refine o_icmpNo cx X0 d1_2 (by decide) ?_
  refine o_iconst cx X0 (z := (1 : Int32)) d1_5 rfl ?_
  refine o_newP cx X0 d1_6 (o_w hw 5 rfl) (by decide) 1 1 rfl (Nat.le_refl _) (by decide) (by decide) (by decide) fun T925 h927 b924 gb930 ge931 X926 E928 A929 => ?_
  have sz_b924 : h0.size ≤ b924 := by rw [gb930]; exact KK.1
  have KK := KK.ext E928
  have A929 : own_Ar Z h927 b924 .byte [(.int (0 : Int32))] := A929
  exact o_retA cx X926 d1_8 rfl rfl rfl ⟨b924, rfl, KK, sz_b924, ge931, A929⟩ (by decide) (by decide)
theorem pd_1 : parseMethodDescriptor "(I)[B" = some ⟨[.int], some (.array .byte)⟩ := by decide +kernel
theorem pd_2 : parseMethodDescriptor "([B)[I" = some ⟨[(.array .byte)], some (.array .int)⟩ := by decide +kernel
theorem pd_3 : parseMethodDescriptor "([I[BII)Z" = some ⟨[(.array .int), (.array .byte), .int, .int], some .boolean⟩ := by decide +kernel
theorem d1_9 : decode method_3_code 9 = .ok (.iload_n 0, 1) := by decide +kernel
theorem d1_10 : decode method_3_code 10 = .ok (.iconst 2, 1) := by decide +kernel
theorem d1_11 : decode method_3_code 11 = .ok (.if_icmp .ne 7, 3) := by decide +kernel
theorem d1_14 : decode method_3_code 14 = .ok (.iconst 2, 1) := by decide +kernel
theorem d1_15 : decode method_3_code 15 = .ok (.newarray .byte, 2) := by decide +kernel
theorem d1_17 : decode method_3_code 17 = .ok (.areturn, 1) := by decide +kernel
theorem ef_ra1_2 (m : MethodId)  : entryFrame m #[(.int (2 : Int32))] 1 = mkF m 0 #[.val (.int (2 : Int32))] [] := by first | (simp [entryFrame, mkF, argsToLocals, Value.category]; done) | rfl
set_option maxRecDepth 65536 in
set_option maxHeartbeats 40000000 in
theorem ra1_2 (l : Launch) (Z : State) (a0 : Array Value) (hw : ∀ d ∈ tables_1, d.before a0 Z = true)  (h0 : Heap) (n0 : Nat) (Z0 : n0 ≤ h0.size) :
    own_Met l Z (⟨"com/example/needlewise/needlewise/KmpPartialMatchPinLaw", "make", "(I)[B"⟩ : MethodName) method_3_code 1 (some (.array .byte)) ({ frames := 0, cells := 1, slots := 2, locals := 0 } : Room) #[(.int (2 : Int32))] h0 n0 (fun v' h' => ∃ b0 : Addr, v' = some (.ref b0) ∧ Keep h0 h' [] ∧ h0.size ≤ b0 ∧ n0 ≤ b0 ∧ own_Ar Z h' b0 .byte [(.int (0 : Int32)), (.int (0 : Int32))]) := by
  refine own_body (plainFor_of_name pn_5) (fun m => ef_ra1_2 m ) Z0 ?_
  intro p e s m below meth c T0 cx X0
  have KK := Keep.refl h0 []
  show own_Go p e below _ (T0.setTop (mkF m 0 #[.val (.int (2 : Int32))] []))
  refine o_iloadN cx X0 d1_0 rfl ?_
  refine o_iconst cx X0 (z := (1 : Int32)) d1_1 rfl ?_
  refine o_icmpYes cx X0 9 d1_2 (by decide) (by decide) (by decide) ?_
  refine o_iloadN cx X0 d1_9 rfl ?_
  refine o_iconst cx X0 (z := (2 : Int32)) d1_10 rfl ?_
  refine o_icmpNo cx X0 d1_11 (by decide) ?_
  refine o_iconst cx X0 (z := (2 : Int32)) d1_14 rfl ?_
  refine o_newP cx X0 d1_15 (o_w hw 5 rfl) (by decide) 2 2 rfl (Nat.le_refl _) (by decide) (by decide) (by decide) fun T991 h993 b990 gb996 ge997 X992 E994 A995 => ?_
  have sz_b990 : h0.size ≤ b990 := by rw [gb996]; exact KK.1
  have KK := KK.ext E994
  have A995 : own_Ar Z h993 b990 .byte [(.int (0 : Int32)), (.int (0 : Int32))] := A995
  exact o_retA cx X992 d1_17 rfl rfl rfl ⟨b990, rfl, KK, sz_b990, ge997, A995⟩ (by decide) (by decide)
theorem d1_18 : decode method_3_code 18 = .ok (.iload_n 0, 1) := by decide +kernel
theorem d1_19 : decode method_3_code 19 = .ok (.iconst 3, 1) := by decide +kernel
theorem d1_20 : decode method_3_code 20 = .ok (.if_icmp .ne 7, 3) := by decide +kernel
theorem d1_23 : decode method_3_code 23 = .ok (.iconst 3, 1) := by decide +kernel
theorem d1_24 : decode method_3_code 24 = .ok (.newarray .byte, 2) := by decide +kernel
theorem d1_26 : decode method_3_code 26 = .ok (.areturn, 1) := by decide +kernel
theorem ef_ra1_3 (m : MethodId)  : entryFrame m #[(.int (3 : Int32))] 1 = mkF m 0 #[.val (.int (3 : Int32))] [] := by first | (simp [entryFrame, mkF, argsToLocals, Value.category]; done) | rfl
set_option maxRecDepth 65536 in
set_option maxHeartbeats 40000000 in
theorem ra1_3 (l : Launch) (Z : State) (a0 : Array Value) (hw : ∀ d ∈ tables_1, d.before a0 Z = true)  (h0 : Heap) (n0 : Nat) (Z0 : n0 ≤ h0.size) :
    own_Met l Z (⟨"com/example/needlewise/needlewise/KmpPartialMatchPinLaw", "make", "(I)[B"⟩ : MethodName) method_3_code 1 (some (.array .byte)) ({ frames := 0, cells := 1, slots := 3, locals := 0 } : Room) #[(.int (3 : Int32))] h0 n0 (fun v' h' => ∃ b0 : Addr, v' = some (.ref b0) ∧ Keep h0 h' [] ∧ h0.size ≤ b0 ∧ n0 ≤ b0 ∧ own_Ar Z h' b0 .byte [(.int (0 : Int32)), (.int (0 : Int32)), (.int (0 : Int32))]) := by
  refine own_body (plainFor_of_name pn_5) (fun m => ef_ra1_3 m ) Z0 ?_
  intro p e s m below meth c T0 cx X0
  have KK := Keep.refl h0 []
  show own_Go p e below _ (T0.setTop (mkF m 0 #[.val (.int (3 : Int32))] []))
  refine o_iloadN cx X0 d1_0 rfl ?_
  refine o_iconst cx X0 (z := (1 : Int32)) d1_1 rfl ?_
  refine o_icmpYes cx X0 9 d1_2 (by decide) (by decide) (by decide) ?_
  refine o_iloadN cx X0 d1_9 rfl ?_
  refine o_iconst cx X0 (z := (2 : Int32)) d1_10 rfl ?_
  refine o_icmpYes cx X0 18 d1_11 (by decide) (by decide) (by decide) ?_
  refine o_iloadN cx X0 d1_18 rfl ?_
  refine o_iconst cx X0 (z := (3 : Int32)) d1_19 rfl ?_
  refine o_icmpNo cx X0 d1_20 (by decide) ?_
  refine o_iconst cx X0 (z := (3 : Int32)) d1_23 rfl ?_
  refine o_newP cx X0 d1_24 (o_w hw 5 rfl) (by decide) 3 3 rfl (Nat.le_refl _) (by decide) (by decide) (by decide) fun T1061 h1063 b1060 gb1066 ge1067 X1062 E1064 A1065 => ?_
  have sz_b1060 : h0.size ≤ b1060 := by rw [gb1066]; exact KK.1
  have KK := KK.ext E1064
  have A1065 : own_Ar Z h1063 b1060 .byte [(.int (0 : Int32)), (.int (0 : Int32)), (.int (0 : Int32))] := A1065
  exact o_retA cx X1062 d1_26 rfl rfl rfl ⟨b1060, rfl, KK, sz_b1060, ge1067, A1065⟩ (by decide) (by decide)
theorem d1_27 : decode method_3_code 27 = .ok (.iload_n 0, 1) := by decide +kernel
theorem d1_28 : decode method_3_code 28 = .ok (.iconst 4, 1) := by decide +kernel
theorem d1_29 : decode method_3_code 29 = .ok (.if_icmp .ne 7, 3) := by decide +kernel
theorem d1_32 : decode method_3_code 32 = .ok (.iconst 4, 1) := by decide +kernel
theorem d1_33 : decode method_3_code 33 = .ok (.newarray .byte, 2) := by decide +kernel
theorem d1_35 : decode method_3_code 35 = .ok (.areturn, 1) := by decide +kernel
theorem ef_ra1_4 (m : MethodId)  : entryFrame m #[(.int (4 : Int32))] 1 = mkF m 0 #[.val (.int (4 : Int32))] [] := by first | (simp [entryFrame, mkF, argsToLocals, Value.category]; done) | rfl
set_option maxRecDepth 65536 in
set_option maxHeartbeats 40000000 in
theorem ra1_4 (l : Launch) (Z : State) (a0 : Array Value) (hw : ∀ d ∈ tables_1, d.before a0 Z = true)  (h0 : Heap) (n0 : Nat) (Z0 : n0 ≤ h0.size) :
    own_Met l Z (⟨"com/example/needlewise/needlewise/KmpPartialMatchPinLaw", "make", "(I)[B"⟩ : MethodName) method_3_code 1 (some (.array .byte)) ({ frames := 0, cells := 1, slots := 4, locals := 0 } : Room) #[(.int (4 : Int32))] h0 n0 (fun v' h' => ∃ b0 : Addr, v' = some (.ref b0) ∧ Keep h0 h' [] ∧ h0.size ≤ b0 ∧ n0 ≤ b0 ∧ own_Ar Z h' b0 .byte [(.int (0 : Int32)), (.int (0 : Int32)), (.int (0 : Int32)), (.int (0 : Int32))]) := by
  refine own_body (plainFor_of_name pn_5) (fun m => ef_ra1_4 m ) Z0 ?_
  intro p e s m below meth c T0 cx X0
  have KK := Keep.refl h0 []
  show own_Go p e below _ (T0.setTop (mkF m 0 #[.val (.int (4 : Int32))] []))
  refine o_iloadN cx X0 d1_0 rfl ?_
  refine o_iconst cx X0 (z := (1 : Int32)) d1_1 rfl ?_
  refine o_icmpYes cx X0 9 d1_2 (by decide) (by decide) (by decide) ?_
  refine o_iloadN cx X0 d1_9 rfl ?_
  refine o_iconst cx X0 (z := (2 : Int32)) d1_10 rfl ?_
  refine o_icmpYes cx X0 18 d1_11 (by decide) (by decide) (by decide) ?_
  refine o_iloadN cx X0 d1_18 rfl ?_
  refine o_iconst cx X0 (z := (3 : Int32)) d1_19 rfl ?_
  refine o_icmpYes cx X0 27 d1_20 (by decide) (by decide) (by decide) ?_
  refine o_iloadN cx X0 d1_27 rfl ?_
  refine o_iconst cx X0 (z := (4 : Int32)) d1_28 rfl ?_
  refine o_icmpNo cx X0 d1_29 (by decide) ?_
  refine o_iconst cx X0 (z := (4 : Int32)) d1_32 rfl ?_
  refine o_newP cx X0 d1_33 (o_w hw 5 rfl) (by decide) 4 4 rfl (Nat.le_refl _) (by decide) (by decide) (by decide) fun T1135 h1137 b1134 gb1140 ge1141 X1136 E1138 A1139 => ?_
  have sz_b1134 : h0.size ≤ b1134 := by rw [gb1140]; exact KK.1
  have KK := KK.ext E1138
  have A1139 : own_Ar Z h1137 b1134 .byte [(.int (0 : Int32)), (.int (0 : Int32)), (.int (0 : Int32)), (.int (0 : Int32))] := A1139
  exact o_retA cx X1136 d1_35 rfl rfl rfl ⟨b1134, rfl, KK, sz_b1134, ge1141, A1139⟩ (by decide) (by decide)
theorem d1_36 : decode method_3_code 36 = .ok (.iload_n 0, 1) := by decide +kernel
theorem d1_37 : decode method_3_code 37 = .ok (.iconst 5, 1) := by decide +kernel
theorem d1_38 : decode method_3_code 38 = .ok (.if_icmp .ne 7, 3) := by decide +kernel
theorem d1_41 : decode method_3_code 41 = .ok (.iconst 5, 1) := by decide +kernel
theorem d1_42 : decode method_3_code 42 = .ok (.newarray .byte, 2) := by decide +kernel
theorem d1_44 : decode method_3_code 44 = .ok (.areturn, 1) := by decide +kernel
theorem ef_ra1_5 (m : MethodId)  : entryFrame m #[(.int (5 : Int32))] 1 = mkF m 0 #[.val (.int (5 : Int32))] [] := by first | (simp [entryFrame, mkF, argsToLocals, Value.category]; done) | rfl
set_option maxRecDepth 65536 in
set_option maxHeartbeats 40000000 in
theorem ra1_5 (l : Launch) (Z : State) (a0 : Array Value) (hw : ∀ d ∈ tables_1, d.before a0 Z = true)  (h0 : Heap) (n0 : Nat) (Z0 : n0 ≤ h0.size) :
    own_Met l Z (⟨"com/example/needlewise/needlewise/KmpPartialMatchPinLaw", "make", "(I)[B"⟩ : MethodName) method_3_code 1 (some (.array .byte)) ({ frames := 0, cells := 1, slots := 5, locals := 0 } : Room) #[(.int (5 : Int32))] h0 n0 (fun v' h' => ∃ b0 : Addr, v' = some (.ref b0) ∧ Keep h0 h' [] ∧ h0.size ≤ b0 ∧ n0 ≤ b0 ∧ own_Ar Z h' b0 .byte [(.int (0 : Int32)), (.int (0 : Int32)), (.int (0 : Int32)), (.int (0 : Int32)), (.int (0 : Int32))]) := by
  refine own_body (plainFor_of_name pn_5) (fun m => ef_ra1_5 m ) Z0 ?_
  intro p e s m below meth c T0 cx X0
  have KK := Keep.refl h0 []
  show own_Go p e below _ (T0.setTop (mkF m 0 #[.val (.int (5 : Int32))] []))
  refine o_iloadN cx X0 d1_0 rfl ?_
  refine o_iconst cx X0 (z := (1 : Int32)) d1_1 rfl ?_
  refine o_icmpYes cx X0 9 d1_2 (by decide) (by decide) (by decide) ?_
  refine o_iloadN cx X0 d1_9 rfl ?_
  refine o_iconst cx X0 (z := (2 : Int32)) d1_10 rfl ?_
  refine o_icmpYes cx X0 18 d1_11 (by decide) (by decide) (by decide) ?_
  refine o_iloadN cx X0 d1_18 rfl ?_
  refine o_iconst cx X0 (z := (3 : Int32)) d1_19 rfl ?_
  refine o_icmpYes cx X0 27 d1_20 (by decide) (by decide) (by decide) ?_
  refine o_iloadN cx X0 d1_27 rfl ?_
  refine o_iconst cx X0 (z := (4 : Int32)) d1_28 rfl ?_
  refine o_icmpYes cx X0 36 d1_29 (by decide) (by decide) (by decide) ?_
  refine o_iloadN cx X0 d1_36 rfl ?_
  refine o_iconst cx X0 (z := (5 : Int32)) d1_37 rfl ?_
  refine o_icmpNo cx X0 d1_38 (by decide) ?_
  refine o_iconst cx X0 (z := (5 : Int32)) d1_41 rfl ?_
  refine o_newP cx X0 d1_42 (o_w hw 5 rfl) (by decide) 5 5 rfl (Nat.le_refl _) (by decide) (by decide) (by decide) fun T1213 h1215 b1212 gb1218 ge1219 X1214 E1216 A1217 => ?_
  have sz_b1212 : h0.size ≤ b1212 := by rw [gb1218]; exact KK.1
  have KK := KK.ext E1216
  have A1217 : own_Ar Z h1215 b1212 .byte [(.int (0 : Int32)), (.int (0 : Int32)), (.int (0 : Int32)), (.int (0 : Int32)), (.int (0 : Int32))] := A1217
  exact o_retA cx X1214 d1_44 rfl rfl rfl ⟨b1212, rfl, KK, sz_b1212, ge1219, A1217⟩ (by decide) (by decide)
theorem d1_45 : decode method_3_code 45 = .ok (.bipush 6, 2) := by decide +kernel
theorem d1_47 : decode method_3_code 47 = .ok (.newarray .byte, 2) := by decide +kernel
theorem d1_49 : decode method_3_code 49 = .ok (.areturn, 1) := by decide +kernel
theorem ef_ra1_6 (m : MethodId)  : entryFrame m #[(.int (6 : Int32))] 1 = mkF m 0 #[.val (.int (6 : Int32))] [] := by first | (simp [entryFrame, mkF, argsToLocals, Value.category]; done) | rfl
set_option maxRecDepth 65536 in
set_option maxHeartbeats 40000000 in
theorem ra1_6 (l : Launch) (Z : State) (a0 : Array Value) (hw : ∀ d ∈ tables_1, d.before a0 Z = true)  (h0 : Heap) (n0 : Nat) (Z0 : n0 ≤ h0.size) :
    own_Met l Z (⟨"com/example/needlewise/needlewise/KmpPartialMatchPinLaw", "make", "(I)[B"⟩ : MethodName) method_3_code 1 (some (.array .byte)) ({ frames := 0, cells := 1, slots := 6, locals := 0 } : Room) #[(.int (6 : Int32))] h0 n0 (fun v' h' => ∃ b0 : Addr, v' = some (.ref b0) ∧ Keep h0 h' [] ∧ h0.size ≤ b0 ∧ n0 ≤ b0 ∧ own_Ar Z h' b0 .byte [(.int (0 : Int32)), (.int (0 : Int32)), (.int (0 : Int32)), (.int (0 : Int32)), (.int (0 : Int32)), (.int (0 : Int32))]) := by
  refine own_body (plainFor_of_name pn_5) (fun m => ef_ra1_6 m ) Z0 ?_
  intro p e s m below meth c T0 cx X0
  have KK := Keep.refl h0 []
  show own_Go p e below _ (T0.setTop (mkF m 0 #[.val (.int (6 : Int32))] []))
  refine o_iloadN cx X0 d1_0 rfl ?_
  refine o_iconst cx X0 (z := (1 : Int32)) d1_1 rfl ?_
  refine o_icmpYes cx X0 9 d1_2 (by decide) (by decide) (by decide) ?_
  refine o_iloadN cx X0 d1_9 rfl ?_
  refine o_iconst cx X0 (z := (2 : Int32)) d1_10 rfl ?_
  refine o_icmpYes cx X0 18 d1_11 (by decide) (by decide) (by decide) ?_
  refine o_iloadN cx X0 d1_18 rfl ?_
  refine o_iconst cx X0 (z := (3 : Int32)) d1_19 rfl ?_
  refine o_icmpYes cx X0 27 d1_20 (by decide) (by decide) (by decide) ?_
  refine o_iloadN cx X0 d1_27 rfl ?_
  refine o_iconst cx X0 (z := (4 : Int32)) d1_28 rfl ?_
  refine o_icmpYes cx X0 36 d1_29 (by decide) (by decide) (by decide) ?_
  refine o_iloadN cx X0 d1_36 rfl ?_
  refine o_iconst cx X0 (z := (5 : Int32)) d1_37 rfl ?_
  refine o_icmpYes cx X0 45 d1_38 (by decide) (by decide) (by decide) ?_
  refine o_bipush cx X0 (z := (6 : Int32)) d1_45 rfl ?_
  refine o_newP cx X0 d1_47 (o_w hw 5 rfl) (by decide) 6 6 rfl (Nat.le_refl _) (by decide) (by decide) (by decide) fun T1295 h1297 b1294 gb1300 ge1301 X1296 E1298 A1299 => ?_
  have sz_b1294 : h0.size ≤ b1294 := by rw [gb1300]; exact KK.1
  have KK := KK.ext E1298
  have A1299 : own_Ar Z h1297 b1294 .byte [(.int (0 : Int32)), (.int (0 : Int32)), (.int (0 : Int32)), (.int (0 : Int32)), (.int (0 : Int32)), (.int (0 : Int32))] := A1299
  exact o_retA cx X1296 d1_49 rfl rfl rfl ⟨b1294, rfl, KK, sz_b1294, ge1301, A1299⟩ (by decide) (by decide)
theorem ef_rm0 (m : MethodId) (p0 : Int64) (p1 : Int32) (p2 : Int32) : entryFrame m #[(.long p0), (.int p1), (.int p2)] maxLocals = mkF m 0 #[.val (.long p0), .second, .val (.int p1), .val (.int p2), .unset, .unset, .unset, .unset, .unset] [] := by first | (simp [entryFrame, mkF, argsToLocals, Value.category, maxLocals]; done) | rfl
set_option maxRecDepth 65536 in
set_option maxHeartbeats 40000000 in
theorem rm0 (l : Launch) (Z : State) (a0 : Array Value) (hw : ∀ d ∈ tables_1, d.before a0 Z = true) (p0 : Int64) (p1 : Int32) (p2 : Int32) (h0 : Heap) (n0 : Nat) (Z0 : n0 ≤ h0.size) :
    own_Met l Z x code maxLocals ret room_1 #[(.long p0), (.int p1), (.int p2)] h0 n0 (fun v' _ => v' = some (.int 1)) := by
  refine own_body (plainFor_of_name pn_5) (fun m => ef_rm0 m p0 p1 p2) Z0 ?_
  intro p e s m below meth c T0 cx X0
  show own_Go p e below _ (T0.setTop (mkF m 0 #[.val (.long p0), .second, .val (.int p1), .val (.int p2), .unset, .unset, .unset, .unset, .unset] []))
  refine o_iloadN cx X0 at_0 rfl ?_
  refine o_ldc cx X0 (z := (2147483647 : Int32)) at_1 (o_w hw 0 rfl) ?_
  refine o_iand cx X0 at_3 rfl ?_
  refine o_bipush cx X0 (z := (6 : Int32)) at_4 rfl ?_
  refine o_irem cx X0 at_6 (by decide) rfl ?_
  refine o_iconst cx X0 (z := (1 : Int32)) at_7 rfl ?_
  refine o_iadd cx X0 at_8 rfl ?_
  refine o_istore cx X0 (Ls' := #[.val (.long p0), .second, .val (.int p1), .val (.int p2), .val (.int (((p1 &&& (2147483647 : Int32)) % (6 : Int32)) + (1 : Int32))), .unset, .unset, .unset, .unset]) at_9 rfl ?_
  rcases own_n6 p1 with hn | hn | hn | hn | hn | hn
  · rw [hn]
    show own_Go p e below _ (T0.setTop (mkF m 11 #[.val (.long p0), .second, .val (.int p1), .val (.int p2), .val (.int (1 : Int32)), .unset, .unset, .unset, .unset] []))
    have J51 : ∀ (mo mk : Int32), own_Go p e below (own_End below s room_1 n0 (fun v' _ => v' = some (.int 1))) (T0.setTop (mkF m 51 #[.val (.long p0), .second, .val (.int p1), .val (.int p2), .val (.int (1 : Int32)), .val (.int mo), .val (.int mk), .unset, .unset] [])) := by
      intro mo mk
      refine o_iload cx X0 at_51 rfl ?_
      refine o_callS cx X0 (y' := (⟨"com/example/needlewise/needlewise/KmpPartialMatchPinLaw", "make", "(I)[B"⟩ : MethodName)) (argsL := [(.int (1 : Int32))]) (st := []) at_53 (o_w hw 1 rfl) (o_w hw 2 rfl) (o_w hw 3 rfl) (o_w hw 4 rfl) (by decide) (ra1_1 l Z a0 hw  h0 n0 X0.ge0 ) (by decide) 0 rfl (by decide) rfl (lenOf pd_1 rfl) rfl rfl (by decide) (by decide) fun v919 T916 h918 X917 Q920 => ?_
      obtain ⟨b921, rfl, K922, sz_b921, ge_b921, A923⟩ := Q920
      show own_Go p e below _ (T916.setTop (mkF m 56 #[.val (.long p0), .second, .val (.int p1), .val (.int p2), .val (.int (1 : Int32)), .val (.int mo), .val (.int mk), .unset, .unset] [(.ref b921)]))
      refine o_astore cx X917 (Ls' := #[.val (.long p0), .second, .val (.int p1), .val (.int p2), .val (.int (1 : Int32)), .val (.int mo), .val (.int mk), .val (.ref b921), .unset]) at_56 rfl rfl ?_
      refine o_iload cx X917 at_58 rfl ?_
      refine o_ifNo cx X917 at_60 (by decide) ?_
      refine o_aload cx X917 at_63 rfl rfl ?_
      refine o_iconst cx X917 (z := (0 : Int32)) at_65 rfl ?_
      refine o_lloadN cx X917 at_66 rfl ?_
      refine o_iload cx X917 at_67 rfl ?_
      refine o_i2l cx X917 at_69 rfl ?_
      refine o_land cx X917 at_70 rfl ?_
      refine o_l2i cx X917 at_71 rfl ?_
      refine o_i2b cx X917 at_72 rfl ?_
      refine o_stB cx X917 (x' := (((p0 &&& (mk.toInt64)).toInt32).toInt8.toInt32)) at_73 A923 0 (by decide) rfl (Nat.le_of_ble_eq_true rfl) (own_i8 _) ge_b921 fun T924 h926 X925 W927 A923 => ?_
      have A923 : own_Ar Z h926 b921 .byte [(.int (((p0 &&& (mk.toInt64)).toInt32).toInt8.toInt32))] := A923
      refine o_iload cx X925 at_74 rfl ?_
      refine o_iconst cx X925 (z := (1 : Int32)) at_76 rfl ?_
      refine o_icmpYes cx X925 94 at_77 (by decide) (by decide) (by decide) ?_
      refine o_iload cx X925 at_94 rfl ?_
      refine o_iconst cx X925 (z := (2 : Int32)) at_96 rfl ?_
      refine o_icmpYes cx X925 114 at_97 (by decide) (by decide) (by decide) ?_
      refine o_iload cx X925 at_114 rfl ?_
      refine o_iconst cx X925 (z := (3 : Int32)) at_116 rfl ?_
      refine o_icmpYes cx X925 134 at_117 (by decide) (by decide) (by decide) ?_
      refine o_iload cx X925 at_134 rfl ?_
      refine o_iconst cx X925 (z := (4 : Int32)) at_136 rfl ?_
      refine o_icmpYes cx X925 154 at_137 (by decide) (by decide) (by decide) ?_
      refine o_iload cx X925 at_154 rfl ?_
      refine o_iconst cx X925 (z := (5 : Int32)) at_156 rfl ?_
      refine o_icmpYes cx X925 174 at_157 (by decide) (by decide) (by decide) ?_
      obtain ⟨b0, eb0⟩ : ∃ z : Int32, z = (((p0 &&& (mk.toInt64)).toInt32).toInt8.toInt32) := ⟨_, rfl⟩
      rw [← eb0] at A923
      refine o_aload cx X925 at_174 rfl rfl ?_
      refine o_callS cx X925 (y' := (⟨"com/example/needlewise/needlewise/Kmp", "partialMatch", "([B)[I"⟩ : MethodName)) (argsL := [(.ref b921)]) (st := []) at_176 (o_w hw 6 rfl) (o_w hw 7 rfl) (o_w hw 8 rfl) (o_w hw 9 rfl) (by decide) (rpm_1 l Z a0 hw b921 b0 h926 n0 X925.ge0 A923) (by decide) 0 rfl (by decide) rfl (lenOf pd_2 rfl) rfl rfl (by decide) (by decide) fun v931 T928 h930 X929 Q932 => ?_
      obtain ⟨bt, rfl, Kt, szt, get, At⟩ := Q932
      have A923 := A923.keep Kt nin0
      show own_Go p e below _ (T928.setTop (mkF m 179 #[.val (.long p0), .second, .val (.int p1), .val (.int p2), .val (.int (1 : Int32)), .val (.int mo), .val (.int mk), .val (.ref b921), .unset] [(.ref bt)]))
      refine o_astore cx X929 (Ls' := #[.val (.long p0), .second, .val (.int p1), .val (.int p2), .val (.int (1 : Int32)), .val (.int mo), .val (.int mk), .val (.ref b921), .val (.ref bt)]) at_179 rfl rfl ?_
      refine o_aload cx X929 at_181 rfl rfl ?_
      refine o_ifnullNo cx X929 at_183 ?_
      refine o_aload cx X929 at_186 rfl rfl ?_
      refine o_len cx X929 (z := (1 : Int32)) at_188 At rfl ?_
      refine o_iload cx X929 at_189 rfl ?_
      refine o_icmpNo cx X929 at_191 (by decide) ?_
      refine o_aload cx X929 at_194 rfl rfl ?_
      refine o_aload cx X929 at_196 rfl rfl ?_
      refine o_iload cx X929 at_198 rfl ?_
      refine o_iconst cx X929 (z := (0 : Int32)) at_200 rfl ?_
      refine o_callSp cx X929 (y' := (⟨"com/example/needlewise/needlewise/KmpPartialMatchPinLaw", "ok", "([I[BII)Z"⟩ : MethodName)) (argsL := [(.ref bt), (.ref b921), (.int (1 : Int32)), (.int (0 : Int32))]) (st := []) at_201 (o_w hw 11 rfl) (o_w hw 12 rfl) (o_w hw 3 rfl) (o_w hw 13 rfl) (by decide) (rok_1_0 l Z a0 hw bt b921 [(.int (own_b1 b0))] [(.int b0)] b0 h930 n0 X929.ge0 A923 rfl At rfl) (by decide) 0 rfl (by decide) rfl (lenOf pd_3 rfl) rfl rfl (by decide) (by decide) fun T933 X934 => ?_
      show own_Go p e below _ (T933.setTop (mkF m 204 #[.val (.long p0), .second, .val (.int p1), .val (.int p2), .val (.int (1 : Int32)), .val (.int mo), .val (.int mk), .val (.ref b921), .val (.ref bt)] [(.int (1 : Int32))]))
      refine o_ifNo cx X934 at_204 (by decide) ?_
      refine o_aload cx X934 at_207 rfl rfl ?_
      refine o_aload cx X934 at_209 rfl rfl ?_
      refine o_iload cx X934 at_211 rfl ?_
      refine o_iconst cx X934 (z := (1 : Int32)) at_213 rfl ?_
      refine o_callSp cx X934 (y' := (⟨"com/example/needlewise/needlewise/KmpPartialMatchPinLaw", "ok", "([I[BII)Z"⟩ : MethodName)) (argsL := [(.ref bt), (.ref b921), (.int (1 : Int32)), (.int (1 : Int32))]) (st := []) at_214 (o_w hw 11 rfl) (o_w hw 12 rfl) (o_w hw 3 rfl) (o_w hw 13 rfl) (by decide) (rok_1_1 l Z a0 hw bt b921 h930 n0 X934.ge0) (by decide) 0 rfl (by decide) rfl (lenOf pd_3 rfl) rfl rfl (by decide) (by decide) fun T938 X939 => ?_
      show own_Go p e below _ (T938.setTop (mkF m 217 #[.val (.long p0), .second, .val (.int p1), .val (.int p2), .val (.int (1 : Int32)), .val (.int mo), .val (.int mk), .val (.ref b921), .val (.ref bt)] [(.int (1 : Int32))]))
      refine o_ifNo cx X939 at_217 (by decide) ?_
      refine o_aload cx X939 at_220 rfl rfl ?_
      refine o_aload cx X939 at_222 rfl rfl ?_
      refine o_iload cx X939 at_224 rfl ?_
      refine o_iconst cx X939 (z := (2 : Int32)) at_226 rfl ?_
      refine o_callSp cx X939 (y' := (⟨"com/example/needlewise/needlewise/KmpPartialMatchPinLaw", "ok", "([I[BII)Z"⟩ : MethodName)) (argsL := [(.ref bt), (.ref b921), (.int (1 : Int32)), (.int (2 : Int32))]) (st := []) at_227 (o_w hw 11 rfl) (o_w hw 12 rfl) (o_w hw 3 rfl) (o_w hw 13 rfl) (by decide) (rok_1_2 l Z a0 hw bt b921 h930 n0 X939.ge0) (by decide) 0 rfl (by decide) rfl (lenOf pd_3 rfl) rfl rfl (by decide) (by decide) fun T943 X944 => ?_
      show own_Go p e below _ (T943.setTop (mkF m 230 #[.val (.long p0), .second, .val (.int p1), .val (.int p2), .val (.int (1 : Int32)), .val (.int mo), .val (.int mk), .val (.ref b921), .val (.ref bt)] [(.int (1 : Int32))]))
      refine o_ifNo cx X944 at_230 (by decide) ?_
      refine o_aload cx X944 at_233 rfl rfl ?_
      refine o_aload cx X944 at_235 rfl rfl ?_
      refine o_iload cx X944 at_237 rfl ?_
      refine o_iconst cx X944 (z := (3 : Int32)) at_239 rfl ?_
      refine o_callSp cx X944 (y' := (⟨"com/example/needlewise/needlewise/KmpPartialMatchPinLaw", "ok", "([I[BII)Z"⟩ : MethodName)) (argsL := [(.ref bt), (.ref b921), (.int (1 : Int32)), (.int (3 : Int32))]) (st := []) at_240 (o_w hw 11 rfl) (o_w hw 12 rfl) (o_w hw 3 rfl) (o_w hw 13 rfl) (by decide) (rok_1_3 l Z a0 hw bt b921 h930 n0 X944.ge0) (by decide) 0 rfl (by decide) rfl (lenOf pd_3 rfl) rfl rfl (by decide) (by decide) fun T948 X949 => ?_
      show own_Go p e below _ (T948.setTop (mkF m 243 #[.val (.long p0), .second, .val (.int p1), .val (.int p2), .val (.int (1 : Int32)), .val (.int mo), .val (.int mk), .val (.ref b921), .val (.ref bt)] [(.int (1 : Int32))]))
      refine o_ifNo cx X949 at_243 (by decide) ?_
      refine o_aload cx X949 at_246 rfl rfl ?_
      refine o_aload cx X949 at_248 rfl rfl ?_
      refine o_iload cx X949 at_250 rfl ?_
      refine o_iconst cx X949 (z := (4 : Int32)) at_252 rfl ?_
      refine o_callSp cx X949 (y' := (⟨"com/example/needlewise/needlewise/KmpPartialMatchPinLaw", "ok", "([I[BII)Z"⟩ : MethodName)) (argsL := [(.ref bt), (.ref b921), (.int (1 : Int32)), (.int (4 : Int32))]) (st := []) at_253 (o_w hw 11 rfl) (o_w hw 12 rfl) (o_w hw 3 rfl) (o_w hw 13 rfl) (by decide) (rok_1_4 l Z a0 hw bt b921 h930 n0 X949.ge0) (by decide) 0 rfl (by decide) rfl (lenOf pd_3 rfl) rfl rfl (by decide) (by decide) fun T953 X954 => ?_
      show own_Go p e below _ (T953.setTop (mkF m 256 #[.val (.long p0), .second, .val (.int p1), .val (.int p2), .val (.int (1 : Int32)), .val (.int mo), .val (.int mk), .val (.ref b921), .val (.ref bt)] [(.int (1 : Int32))]))
      refine o_ifNo cx X954 at_256 (by decide) ?_
      refine o_aload cx X954 at_259 rfl rfl ?_
      refine o_aload cx X954 at_261 rfl rfl ?_
      refine o_iload cx X954 at_263 rfl ?_
      refine o_iconst cx X954 (z := (5 : Int32)) at_265 rfl ?_
      refine o_callSp cx X954 (y' := (⟨"com/example/needlewise/needlewise/KmpPartialMatchPinLaw", "ok", "([I[BII)Z"⟩ : MethodName)) (argsL := [(.ref bt), (.ref b921), (.int (1 : Int32)), (.int (5 : Int32))]) (st := []) at_266 (o_w hw 11 rfl) (o_w hw 12 rfl) (o_w hw 3 rfl) (o_w hw 13 rfl) (by decide) (rok_1_5 l Z a0 hw bt b921 h930 n0 X954.ge0) (by decide) 0 rfl (by decide) rfl (lenOf pd_3 rfl) rfl rfl (by decide) (by decide) fun T958 X959 => ?_
      show own_Go p e below _ (T958.setTop (mkF m 269 #[.val (.long p0), .second, .val (.int p1), .val (.int p2), .val (.int (1 : Int32)), .val (.int mo), .val (.int mk), .val (.ref b921), .val (.ref bt)] [(.int (1 : Int32))]))
      refine o_ifNo cx X959 at_269 (by decide) ?_
      refine o_iconst cx X959 (z := (1 : Int32)) at_272 rfl ?_
      refine o_goto cx X959 277 at_273 (by decide) (by decide) ?_
      exact o_retN cx X959 (z' := (1 : Int32)) at_277 (by simp) rfl rfl (by decide) (by decide)
    refine o_iloadN cx X0 at_11 rfl ?_
    refine o_iconst cx X0 (z := (3 : Int32)) at_12 rfl ?_
    refine o_iand cx X0 at_13 rfl ?_
    refine o_istore cx X0 (Ls' := #[.val (.long p0), .second, .val (.int p1), .val (.int p2), .val (.int (1 : Int32)), .val (.int (p2 &&& (3 : Int32))), .unset, .unset, .unset]) at_14 rfl ?_
    refine o_iload cx X0 at_16 rfl ?_
    by_cases hc963 : (p2 &&& (3 : Int32)) = (0 : Int32)
    · refine o_ifNo cx X0 at_18 ((if0 _ _).trans (teq hc963).2) ?_
      refine o_iconst cx X0 (z := (1 : Int32)) at_21 rfl ?_
      refine o_goto cx X0 49 at_22 (by decide) (by decide) ?_
      refine o_istore cx X0 (Ls' := #[.val (.long p0), .second, .val (.int p1), .val (.int p2), .val (.int (1 : Int32)), .val (.int (p2 &&& (3 : Int32))), .val (.int (1 : Int32)), .unset, .unset]) at_49 rfl ?_
      exact J51 _ _
    · refine o_ifYes cx X0 25 at_18 ((if0 _ _).trans (feq hc963).2) (by decide) (by decide) ?_
      refine o_iload cx X0 at_25 rfl ?_
      refine o_iconst cx X0 (z := (1 : Int32)) at_27 rfl ?_
      by_cases hc964 : (p2 &&& (3 : Int32)) = (1 : Int32)
      · refine o_icmpNo cx X0 at_28 (teq hc964).2 ?_
        refine o_iconst cx X0 (z := (3 : Int32)) at_31 rfl ?_
        refine o_goto cx X0 49 at_32 (by decide) (by decide) ?_
        refine o_istore cx X0 (Ls' := #[.val (.long p0), .second, .val (.int p1), .val (.int p2), .val (.int (1 : Int32)), .val (.int (p2 &&& (3 : Int32))), .val (.int (3 : Int32)), .unset, .unset]) at_49 rfl ?_
        exact J51 _ _
      · refine o_icmpYes cx X0 35 at_28 (feq hc964).2 (by decide) (by decide) ?_
        refine o_iload cx X0 at_35 rfl ?_
        refine o_iconst cx X0 (z := (2 : Int32)) at_37 rfl ?_
        by_cases hc965 : (p2 &&& (3 : Int32)) = (2 : Int32)
        · refine o_icmpNo cx X0 at_38 (teq hc965).2 ?_
          refine o_bipush cx X0 (z := (7 : Int32)) at_41 rfl ?_
          refine o_goto cx X0 49 at_43 (by decide) (by decide) ?_
          refine o_istore cx X0 (Ls' := #[.val (.long p0), .second, .val (.int p1), .val (.int p2), .val (.int (1 : Int32)), .val (.int (p2 &&& (3 : Int32))), .val (.int (7 : Int32)), .unset, .unset]) at_49 rfl ?_
          exact J51 _ _
        · refine o_icmpYes cx X0 46 at_38 (feq hc965).2 (by decide) (by decide) ?_
          refine o_sipush cx X0 (z := (255 : Int32)) at_46 rfl ?_
          refine o_istore cx X0 (Ls' := #[.val (.long p0), .second, .val (.int p1), .val (.int p2), .val (.int (1 : Int32)), .val (.int (p2 &&& (3 : Int32))), .val (.int (255 : Int32)), .unset, .unset]) at_49 rfl ?_
          exact J51 _ _
  · rw [hn]
    show own_Go p e below _ (T0.setTop (mkF m 11 #[.val (.long p0), .second, .val (.int p1), .val (.int p2), .val (.int (2 : Int32)), .unset, .unset, .unset, .unset] []))
    have J51 : ∀ (mo mk : Int32), own_Go p e below (own_End below s room_1 n0 (fun v' _ => v' = some (.int 1))) (T0.setTop (mkF m 51 #[.val (.long p0), .second, .val (.int p1), .val (.int p2), .val (.int (2 : Int32)), .val (.int mo), .val (.int mk), .unset, .unset] [])) := by
      intro mo mk
      refine o_iload cx X0 at_51 rfl ?_
      refine o_callS cx X0 (y' := (⟨"com/example/needlewise/needlewise/KmpPartialMatchPinLaw", "make", "(I)[B"⟩ : MethodName)) (argsL := [(.int (2 : Int32))]) (st := []) at_53 (o_w hw 1 rfl) (o_w hw 2 rfl) (o_w hw 3 rfl) (o_w hw 4 rfl) (by decide) (ra1_2 l Z a0 hw  h0 n0 X0.ge0 ) (by decide) 0 rfl (by decide) rfl (lenOf pd_1 rfl) rfl rfl (by decide) (by decide) fun v969 T966 h968 X967 Q970 => ?_
      obtain ⟨b971, rfl, K972, sz_b971, ge_b971, A973⟩ := Q970
      show own_Go p e below _ (T966.setTop (mkF m 56 #[.val (.long p0), .second, .val (.int p1), .val (.int p2), .val (.int (2 : Int32)), .val (.int mo), .val (.int mk), .unset, .unset] [(.ref b971)]))
      refine o_astore cx X967 (Ls' := #[.val (.long p0), .second, .val (.int p1), .val (.int p2), .val (.int (2 : Int32)), .val (.int mo), .val (.int mk), .val (.ref b971), .unset]) at_56 rfl rfl ?_
      refine o_iload cx X967 at_58 rfl ?_
      refine o_ifNo cx X967 at_60 (by decide) ?_
      refine o_aload cx X967 at_63 rfl rfl ?_
      refine o_iconst cx X967 (z := (0 : Int32)) at_65 rfl ?_
      refine o_lloadN cx X967 at_66 rfl ?_
      refine o_iload cx X967 at_67 rfl ?_
      refine o_i2l cx X967 at_69 rfl ?_
      refine o_land cx X967 at_70 rfl ?_
      refine o_l2i cx X967 at_71 rfl ?_
      refine o_i2b cx X967 at_72 rfl ?_
      refine o_stB cx X967 (x' := (((p0 &&& (mk.toInt64)).toInt32).toInt8.toInt32)) at_73 A973 0 (by decide) rfl (Nat.le_of_ble_eq_true rfl) (own_i8 _) ge_b971 fun T974 h976 X975 W977 A973 => ?_
      have A973 : own_Ar Z h976 b971 .byte [(.int (((p0 &&& (mk.toInt64)).toInt32).toInt8.toInt32)), (.int (0 : Int32))] := A973
      refine o_iload cx X975 at_74 rfl ?_
      refine o_iconst cx X975 (z := (1 : Int32)) at_76 rfl ?_
      refine o_icmpNo cx X975 at_77 (by decide) ?_
      refine o_aload cx X975 at_80 rfl rfl ?_
      refine o_iconst cx X975 (z := (1 : Int32)) at_82 rfl ?_
      refine o_lloadN cx X975 at_83 rfl ?_
      refine o_bipush cx X975 (z := (8 : Int32)) at_84 rfl ?_
      refine o_lushr cx X975 at_86 rfl ?_
      refine o_iload cx X975 at_87 rfl ?_
      refine o_i2l cx X975 at_89 rfl ?_
      refine o_land cx X975 at_90 rfl ?_
      refine o_l2i cx X975 at_91 rfl ?_
      refine o_i2b cx X975 at_92 rfl ?_
      refine o_stB cx X975 (x' := (((((p0.toUInt64 >>> ((8 : Int32) &&& 0x3f).toInt64.toUInt64).toInt64) &&& (mk.toInt64)).toInt32).toInt8.toInt32)) at_93 A973 1 (by decide) rfl (Nat.le_of_ble_eq_true rfl) (own_i8 _) ge_b971 fun T978 h980 X979 W981 A973 => ?_
      have A973 : own_Ar Z h980 b971 .byte [(.int (((p0 &&& (mk.toInt64)).toInt32).toInt8.toInt32)), (.int (((((p0.toUInt64 >>> ((8 : Int32) &&& 0x3f).toInt64.toUInt64).toInt64) &&& (mk.toInt64)).toInt32).toInt8.toInt32))] := A973
      refine o_iload cx X979 at_94 rfl ?_
      refine o_iconst cx X979 (z := (2 : Int32)) at_96 rfl ?_
      refine o_icmpYes cx X979 114 at_97 (by decide) (by decide) (by decide) ?_
      refine o_iload cx X979 at_114 rfl ?_
      refine o_iconst cx X979 (z := (3 : Int32)) at_116 rfl ?_
      refine o_icmpYes cx X979 134 at_117 (by decide) (by decide) (by decide) ?_
      refine o_iload cx X979 at_134 rfl ?_
      refine o_iconst cx X979 (z := (4 : Int32)) at_136 rfl ?_
      refine o_icmpYes cx X979 154 at_137 (by decide) (by decide) (by decide) ?_
      refine o_iload cx X979 at_154 rfl ?_
      refine o_iconst cx X979 (z := (5 : Int32)) at_156 rfl ?_
      refine o_icmpYes cx X979 174 at_157 (by decide) (by decide) (by decide) ?_
      obtain ⟨b0, eb0⟩ : ∃ z : Int32, z = (((p0 &&& (mk.toInt64)).toInt32).toInt8.toInt32) := ⟨_, rfl⟩
      rw [← eb0] at A973
      obtain ⟨b1, eb1⟩ : ∃ z : Int32, z = (((((p0.toUInt64 >>> ((8 : Int32) &&& 0x3f).toInt64.toUInt64).toInt64) &&& (mk.toInt64)).toInt32).toInt8.toInt32) := ⟨_, rfl⟩
      rw [← eb1] at A973
      refine o_aload cx X979 at_174 rfl rfl ?_
      refine o_callS cx X979 (y' := (⟨"com/example/needlewise/needlewise/Kmp", "partialMatch", "([B)[I"⟩ : MethodName)) (argsL := [(.ref b971)]) (st := []) at_176 (o_w hw 6 rfl) (o_w hw 7 rfl) (o_w hw 8 rfl) (o_w hw 9 rfl) (by decide) (rpm_2 l Z a0 hw b971 b0 b1 h980 n0 X979.ge0 A973) (by decide) 0 rfl (by decide) rfl (lenOf pd_2 rfl) rfl rfl (by decide) (by decide) fun v985 T982 h984 X983 Q986 => ?_
      obtain ⟨bt, rfl, Kt, szt, get, At⟩ := Q986
      have A973 := A973.keep Kt nin0
      show own_Go p e below _ (T982.setTop (mkF m 179 #[.val (.long p0), .second, .val (.int p1), .val (.int p2), .val (.int (2 : Int32)), .val (.int mo), .val (.int mk), .val (.ref b971), .unset] [(.ref bt)]))
      refine o_astore cx X983 (Ls' := #[.val (.long p0), .second, .val (.int p1), .val (.int p2), .val (.int (2 : Int32)), .val (.int mo), .val (.int mk), .val (.ref b971), .val (.ref bt)]) at_179 rfl rfl ?_
      refine o_aload cx X983 at_181 rfl rfl ?_
      refine o_ifnullNo cx X983 at_183 ?_
      refine o_aload cx X983 at_186 rfl rfl ?_
      refine o_len cx X983 (z := (2 : Int32)) at_188 At rfl ?_
      refine o_iload cx X983 at_189 rfl ?_
      refine o_icmpNo cx X983 at_191 (by decide) ?_
      refine o_aload cx X983 at_194 rfl rfl ?_
      refine o_aload cx X983 at_196 rfl rfl ?_
      refine o_iload cx X983 at_198 rfl ?_
      refine o_iconst cx X983 (z := (0 : Int32)) at_200 rfl ?_
      refine o_callSp cx X983 (y' := (⟨"com/example/needlewise/needlewise/KmpPartialMatchPinLaw", "ok", "([I[BII)Z"⟩ : MethodName)) (argsL := [(.ref bt), (.ref b971), (.int (2 : Int32)), (.int (0 : Int32))]) (st := []) at_201 (o_w hw 11 rfl) (o_w hw 12 rfl) (o_w hw 3 rfl) (o_w hw 13 rfl) (by decide) (rok_2_0 l Z a0 hw bt b971 [(.int (own_b1 b0)), (.int (own_b2 b0 b1))] [(.int b0), (.int b1)] b0 h984 n0 X983.ge0 A973 rfl At rfl) (by decide) 0 rfl (by decide) rfl (lenOf pd_3 rfl) rfl rfl (by decide) (by decide) fun T987 X988 => ?_
      show own_Go p e below _ (T987.setTop (mkF m 204 #[.val (.long p0), .second, .val (.int p1), .val (.int p2), .val (.int (2 : Int32)), .val (.int mo), .val (.int mk), .val (.ref b971), .val (.ref bt)] [(.int (1 : Int32))]))
      refine o_ifNo cx X988 at_204 (by decide) ?_
      refine o_aload cx X988 at_207 rfl rfl ?_
      refine o_aload cx X988 at_209 rfl rfl ?_
      refine o_iload cx X988 at_211 rfl ?_
      refine o_iconst cx X988 (z := (1 : Int32)) at_213 rfl ?_
      refine o_callSp cx X988 (y' := (⟨"com/example/needlewise/needlewise/KmpPartialMatchPinLaw", "ok", "([I[BII)Z"⟩ : MethodName)) (argsL := [(.ref bt), (.ref b971), (.int (2 : Int32)), (.int (1 : Int32))]) (st := []) at_214 (o_w hw 11 rfl) (o_w hw 12 rfl) (o_w hw 3 rfl) (o_w hw 13 rfl) (by decide) (rok_2_1 l Z a0 hw bt b971 [(.int (own_b1 b0)), (.int (own_b2 b0 b1))] [(.int b0), (.int b1)] b0 b1 h984 n0 X988.ge0 A973 rfl rfl At rfl) (by decide) 0 rfl (by decide) rfl (lenOf pd_3 rfl) rfl rfl (by decide) (by decide) fun T992 X993 => ?_
      show own_Go p e below _ (T992.setTop (mkF m 217 #[.val (.long p0), .second, .val (.int p1), .val (.int p2), .val (.int (2 : Int32)), .val (.int mo), .val (.int mk), .val (.ref b971), .val (.ref bt)] [(.int (1 : Int32))]))
      refine o_ifNo cx X993 at_217 (by decide) ?_
      refine o_aload cx X993 at_220 rfl rfl ?_
      refine o_aload cx X993 at_222 rfl rfl ?_
      refine o_iload cx X993 at_224 rfl ?_
      refine o_iconst cx X993 (z := (2 : Int32)) at_226 rfl ?_
      refine o_callSp cx X993 (y' := (⟨"com/example/needlewise/needlewise/KmpPartialMatchPinLaw", "ok", "([I[BII)Z"⟩ : MethodName)) (argsL := [(.ref bt), (.ref b971), (.int (2 : Int32)), (.int (2 : Int32))]) (st := []) at_227 (o_w hw 11 rfl) (o_w hw 12 rfl) (o_w hw 3 rfl) (o_w hw 13 rfl) (by decide) (rok_2_2 l Z a0 hw bt b971 h984 n0 X993.ge0) (by decide) 0 rfl (by decide) rfl (lenOf pd_3 rfl) rfl rfl (by decide) (by decide) fun T997 X998 => ?_
      show own_Go p e below _ (T997.setTop (mkF m 230 #[.val (.long p0), .second, .val (.int p1), .val (.int p2), .val (.int (2 : Int32)), .val (.int mo), .val (.int mk), .val (.ref b971), .val (.ref bt)] [(.int (1 : Int32))]))
      refine o_ifNo cx X998 at_230 (by decide) ?_
      refine o_aload cx X998 at_233 rfl rfl ?_
      refine o_aload cx X998 at_235 rfl rfl ?_
      refine o_iload cx X998 at_237 rfl ?_
      refine o_iconst cx X998 (z := (3 : Int32)) at_239 rfl ?_
      refine o_callSp cx X998 (y' := (⟨"com/example/needlewise/needlewise/KmpPartialMatchPinLaw", "ok", "([I[BII)Z"⟩ : MethodName)) (argsL := [(.ref bt), (.ref b971), (.int (2 : Int32)), (.int (3 : Int32))]) (st := []) at_240 (o_w hw 11 rfl) (o_w hw 12 rfl) (o_w hw 3 rfl) (o_w hw 13 rfl) (by decide) (rok_2_3 l Z a0 hw bt b971 h984 n0 X998.ge0) (by decide) 0 rfl (by decide) rfl (lenOf pd_3 rfl) rfl rfl (by decide) (by decide) fun T1002 X1003 => ?_
      show own_Go p e below _ (T1002.setTop (mkF m 243 #[.val (.long p0), .second, .val (.int p1), .val (.int p2), .val (.int (2 : Int32)), .val (.int mo), .val (.int mk), .val (.ref b971), .val (.ref bt)] [(.int (1 : Int32))]))
      refine o_ifNo cx X1003 at_243 (by decide) ?_
      refine o_aload cx X1003 at_246 rfl rfl ?_
      refine o_aload cx X1003 at_248 rfl rfl ?_
      refine o_iload cx X1003 at_250 rfl ?_
      refine o_iconst cx X1003 (z := (4 : Int32)) at_252 rfl ?_
      refine o_callSp cx X1003 (y' := (⟨"com/example/needlewise/needlewise/KmpPartialMatchPinLaw", "ok", "([I[BII)Z"⟩ : MethodName)) (argsL := [(.ref bt), (.ref b971), (.int (2 : Int32)), (.int (4 : Int32))]) (st := []) at_253 (o_w hw 11 rfl) (o_w hw 12 rfl) (o_w hw 3 rfl) (o_w hw 13 rfl) (by decide) (rok_2_4 l Z a0 hw bt b971 h984 n0 X1003.ge0) (by decide) 0 rfl (by decide) rfl (lenOf pd_3 rfl) rfl rfl (by decide) (by decide) fun T1007 X1008 => ?_
      show own_Go p e below _ (T1007.setTop (mkF m 256 #[.val (.long p0), .second, .val (.int p1), .val (.int p2), .val (.int (2 : Int32)), .val (.int mo), .val (.int mk), .val (.ref b971), .val (.ref bt)] [(.int (1 : Int32))]))
      refine o_ifNo cx X1008 at_256 (by decide) ?_
      refine o_aload cx X1008 at_259 rfl rfl ?_
      refine o_aload cx X1008 at_261 rfl rfl ?_
      refine o_iload cx X1008 at_263 rfl ?_
      refine o_iconst cx X1008 (z := (5 : Int32)) at_265 rfl ?_
      refine o_callSp cx X1008 (y' := (⟨"com/example/needlewise/needlewise/KmpPartialMatchPinLaw", "ok", "([I[BII)Z"⟩ : MethodName)) (argsL := [(.ref bt), (.ref b971), (.int (2 : Int32)), (.int (5 : Int32))]) (st := []) at_266 (o_w hw 11 rfl) (o_w hw 12 rfl) (o_w hw 3 rfl) (o_w hw 13 rfl) (by decide) (rok_2_5 l Z a0 hw bt b971 h984 n0 X1008.ge0) (by decide) 0 rfl (by decide) rfl (lenOf pd_3 rfl) rfl rfl (by decide) (by decide) fun T1012 X1013 => ?_
      show own_Go p e below _ (T1012.setTop (mkF m 269 #[.val (.long p0), .second, .val (.int p1), .val (.int p2), .val (.int (2 : Int32)), .val (.int mo), .val (.int mk), .val (.ref b971), .val (.ref bt)] [(.int (1 : Int32))]))
      refine o_ifNo cx X1013 at_269 (by decide) ?_
      refine o_iconst cx X1013 (z := (1 : Int32)) at_272 rfl ?_
      refine o_goto cx X1013 277 at_273 (by decide) (by decide) ?_
      exact o_retN cx X1013 (z' := (1 : Int32)) at_277 (by simp) rfl rfl (by decide) (by decide)
    refine o_iloadN cx X0 at_11 rfl ?_
    refine o_iconst cx X0 (z := (3 : Int32)) at_12 rfl ?_
    refine o_iand cx X0 at_13 rfl ?_
    refine o_istore cx X0 (Ls' := #[.val (.long p0), .second, .val (.int p1), .val (.int p2), .val (.int (2 : Int32)), .val (.int (p2 &&& (3 : Int32))), .unset, .unset, .unset]) at_14 rfl ?_
    refine o_iload cx X0 at_16 rfl ?_
    by_cases hc1017 : (p2 &&& (3 : Int32)) = (0 : Int32)
    · refine o_ifNo cx X0 at_18 ((if0 _ _).trans (teq hc1017).2) ?_
      refine o_iconst cx X0 (z := (1 : Int32)) at_21 rfl ?_
      refine o_goto cx X0 49 at_22 (by decide) (by decide) ?_
      refine o_istore cx X0 (Ls' := #[.val (.long p0), .second, .val (.int p1), .val (.int p2), .val (.int (2 : Int32)), .val (.int (p2 &&& (3 : Int32))), .val (.int (1 : Int32)), .unset, .unset]) at_49 rfl ?_
      exact J51 _ _
    · refine o_ifYes cx X0 25 at_18 ((if0 _ _).trans (feq hc1017).2) (by decide) (by decide) ?_
      refine o_iload cx X0 at_25 rfl ?_
      refine o_iconst cx X0 (z := (1 : Int32)) at_27 rfl ?_
      by_cases hc1018 : (p2 &&& (3 : Int32)) = (1 : Int32)
      · refine o_icmpNo cx X0 at_28 (teq hc1018).2 ?_
        refine o_iconst cx X0 (z := (3 : Int32)) at_31 rfl ?_
        refine o_goto cx X0 49 at_32 (by decide) (by decide) ?_
        refine o_istore cx X0 (Ls' := #[.val (.long p0), .second, .val (.int p1), .val (.int p2), .val (.int (2 : Int32)), .val (.int (p2 &&& (3 : Int32))), .val (.int (3 : Int32)), .unset, .unset]) at_49 rfl ?_
        exact J51 _ _
      · refine o_icmpYes cx X0 35 at_28 (feq hc1018).2 (by decide) (by decide) ?_
        refine o_iload cx X0 at_35 rfl ?_
        refine o_iconst cx X0 (z := (2 : Int32)) at_37 rfl ?_
        by_cases hc1019 : (p2 &&& (3 : Int32)) = (2 : Int32)
        · refine o_icmpNo cx X0 at_38 (teq hc1019).2 ?_
          refine o_bipush cx X0 (z := (7 : Int32)) at_41 rfl ?_
          refine o_goto cx X0 49 at_43 (by decide) (by decide) ?_
          refine o_istore cx X0 (Ls' := #[.val (.long p0), .second, .val (.int p1), .val (.int p2), .val (.int (2 : Int32)), .val (.int (p2 &&& (3 : Int32))), .val (.int (7 : Int32)), .unset, .unset]) at_49 rfl ?_
          exact J51 _ _
        · refine o_icmpYes cx X0 46 at_38 (feq hc1019).2 (by decide) (by decide) ?_
          refine o_sipush cx X0 (z := (255 : Int32)) at_46 rfl ?_
          refine o_istore cx X0 (Ls' := #[.val (.long p0), .second, .val (.int p1), .val (.int p2), .val (.int (2 : Int32)), .val (.int (p2 &&& (3 : Int32))), .val (.int (255 : Int32)), .unset, .unset]) at_49 rfl ?_
          exact J51 _ _
  · rw [hn]
    show own_Go p e below _ (T0.setTop (mkF m 11 #[.val (.long p0), .second, .val (.int p1), .val (.int p2), .val (.int (3 : Int32)), .unset, .unset, .unset, .unset] []))
    have J51 : ∀ (mo mk : Int32), own_Go p e below (own_End below s room_1 n0 (fun v' _ => v' = some (.int 1))) (T0.setTop (mkF m 51 #[.val (.long p0), .second, .val (.int p1), .val (.int p2), .val (.int (3 : Int32)), .val (.int mo), .val (.int mk), .unset, .unset] [])) := by
      intro mo mk
      refine o_iload cx X0 at_51 rfl ?_
      refine o_callS cx X0 (y' := (⟨"com/example/needlewise/needlewise/KmpPartialMatchPinLaw", "make", "(I)[B"⟩ : MethodName)) (argsL := [(.int (3 : Int32))]) (st := []) at_53 (o_w hw 1 rfl) (o_w hw 2 rfl) (o_w hw 3 rfl) (o_w hw 4 rfl) (by decide) (ra1_3 l Z a0 hw  h0 n0 X0.ge0 ) (by decide) 0 rfl (by decide) rfl (lenOf pd_1 rfl) rfl rfl (by decide) (by decide) fun v1023 T1020 h1022 X1021 Q1024 => ?_
      obtain ⟨b1025, rfl, K1026, sz_b1025, ge_b1025, A1027⟩ := Q1024
      show own_Go p e below _ (T1020.setTop (mkF m 56 #[.val (.long p0), .second, .val (.int p1), .val (.int p2), .val (.int (3 : Int32)), .val (.int mo), .val (.int mk), .unset, .unset] [(.ref b1025)]))
      refine o_astore cx X1021 (Ls' := #[.val (.long p0), .second, .val (.int p1), .val (.int p2), .val (.int (3 : Int32)), .val (.int mo), .val (.int mk), .val (.ref b1025), .unset]) at_56 rfl rfl ?_
      refine o_iload cx X1021 at_58 rfl ?_
      refine o_ifNo cx X1021 at_60 (by decide) ?_
      refine o_aload cx X1021 at_63 rfl rfl ?_
      refine o_iconst cx X1021 (z := (0 : Int32)) at_65 rfl ?_
      refine o_lloadN cx X1021 at_66 rfl ?_
      refine o_iload cx X1021 at_67 rfl ?_
      refine o_i2l cx X1021 at_69 rfl ?_
      refine o_land cx X1021 at_70 rfl ?_
      refine o_l2i cx X1021 at_71 rfl ?_
      refine o_i2b cx X1021 at_72 rfl ?_
      refine o_stB cx X1021 (x' := (((p0 &&& (mk.toInt64)).toInt32).toInt8.toInt32)) at_73 A1027 0 (by decide) rfl (Nat.le_of_ble_eq_true rfl) (own_i8 _) ge_b1025 fun T1028 h1030 X1029 W1031 A1027 => ?_
      have A1027 : own_Ar Z h1030 b1025 .byte [(.int (((p0 &&& (mk.toInt64)).toInt32).toInt8.toInt32)), (.int (0 : Int32)), (.int (0 : Int32))] := A1027
      refine o_iload cx X1029 at_74 rfl ?_
      refine o_iconst cx X1029 (z := (1 : Int32)) at_76 rfl ?_
      refine o_icmpNo cx X1029 at_77 (by decide) ?_
      refine o_aload cx X1029 at_80 rfl rfl ?_
      refine o_iconst cx X1029 (z := (1 : Int32)) at_82 rfl ?_
      refine o_lloadN cx X1029 at_83 rfl ?_
      refine o_bipush cx X1029 (z := (8 : Int32)) at_84 rfl ?_
      refine o_lushr cx X1029 at_86 rfl ?_
      refine o_iload cx X1029 at_87 rfl ?_
      refine o_i2l cx X1029 at_89 rfl ?_
      refine o_land cx X1029 at_90 rfl ?_
      refine o_l2i cx X1029 at_91 rfl ?_
      refine o_i2b cx X1029 at_92 rfl ?_
      refine o_stB cx X1029 (x' := (((((p0.toUInt64 >>> ((8 : Int32) &&& 0x3f).toInt64.toUInt64).toInt64) &&& (mk.toInt64)).toInt32).toInt8.toInt32)) at_93 A1027 1 (by decide) rfl (Nat.le_of_ble_eq_true rfl) (own_i8 _) ge_b1025 fun T1032 h1034 X1033 W1035 A1027 => ?_
      have A1027 : own_Ar Z h1034 b1025 .byte [(.int (((p0 &&& (mk.toInt64)).toInt32).toInt8.toInt32)), (.int (((((p0.toUInt64 >>> ((8 : Int32) &&& 0x3f).toInt64.toUInt64).toInt64) &&& (mk.toInt64)).toInt32).toInt8.toInt32)), (.int (0 : Int32))] := A1027
      refine o_iload cx X1033 at_94 rfl ?_
      refine o_iconst cx X1033 (z := (2 : Int32)) at_96 rfl ?_
      refine o_icmpNo cx X1033 at_97 (by decide) ?_
      refine o_aload cx X1033 at_100 rfl rfl ?_
      refine o_iconst cx X1033 (z := (2 : Int32)) at_102 rfl ?_
      refine o_lloadN cx X1033 at_103 rfl ?_
      refine o_bipush cx X1033 (z := (16 : Int32)) at_104 rfl ?_
      refine o_lushr cx X1033 at_106 rfl ?_
      refine o_iload cx X1033 at_107 rfl ?_
      refine o_i2l cx X1033 at_109 rfl ?_
      refine o_land cx X1033 at_110 rfl ?_
      refine o_l2i cx X1033 at_111 rfl ?_
      refine o_i2b cx X1033 at_112 rfl ?_
      refine o_stB cx X1033 (x' := (((((p0.toUInt64 >>> ((16 : Int32) &&& 0x3f).toInt64.toUInt64).toInt64) &&& (mk.toInt64)).toInt32).toInt8.toInt32)) at_113 A1027 2 (by decide) rfl (Nat.le_of_ble_eq_true rfl) (own_i8 _) ge_b1025 fun T1036 h1038 X1037 W1039 A1027 => ?_
      have A1027 : own_Ar Z h1038 b1025 .byte [(.int (((p0 &&& (mk.toInt64)).toInt32).toInt8.toInt32)), (.int (((((p0.toUInt64 >>> ((8 : Int32) &&& 0x3f).toInt64.toUInt64).toInt64) &&& (mk.toInt64)).toInt32).toInt8.toInt32)), (.int (((((p0.toUInt64 >>> ((16 : Int32) &&& 0x3f).toInt64.toUInt64).toInt64) &&& (mk.toInt64)).toInt32).toInt8.toInt32))] := A1027
      refine o_iload cx X1037 at_114 rfl ?_
      refine o_iconst cx X1037 (z := (3 : Int32)) at_116 rfl ?_
      refine o_icmpYes cx X1037 134 at_117 (by decide) (by decide) (by decide) ?_
      refine o_iload cx X1037 at_134 rfl ?_
      refine o_iconst cx X1037 (z := (4 : Int32)) at_136 rfl ?_
      refine o_icmpYes cx X1037 154 at_137 (by decide) (by decide) (by decide) ?_
      refine o_iload cx X1037 at_154 rfl ?_
      refine o_iconst cx X1037 (z := (5 : Int32)) at_156 rfl ?_
      refine o_icmpYes cx X1037 174 at_157 (by decide) (by decide) (by decide) ?_
      obtain ⟨b0, eb0⟩ : ∃ z : Int32, z = (((p0 &&& (mk.toInt64)).toInt32).toInt8.toInt32) := ⟨_, rfl⟩
      rw [← eb0] at A1027
      obtain ⟨b1, eb1⟩ : ∃ z : Int32, z = (((((p0.toUInt64 >>> ((8 : Int32) &&& 0x3f).toInt64.toUInt64).toInt64) &&& (mk.toInt64)).toInt32).toInt8.toInt32) := ⟨_, rfl⟩
      rw [← eb1] at A1027
      obtain ⟨b2, eb2⟩ : ∃ z : Int32, z = (((((p0.toUInt64 >>> ((16 : Int32) &&& 0x3f).toInt64.toUInt64).toInt64) &&& (mk.toInt64)).toInt32).toInt8.toInt32) := ⟨_, rfl⟩
      rw [← eb2] at A1027
      refine o_aload cx X1037 at_174 rfl rfl ?_
      refine o_callS cx X1037 (y' := (⟨"com/example/needlewise/needlewise/Kmp", "partialMatch", "([B)[I"⟩ : MethodName)) (argsL := [(.ref b1025)]) (st := []) at_176 (o_w hw 6 rfl) (o_w hw 7 rfl) (o_w hw 8 rfl) (o_w hw 9 rfl) (by decide) (rpm_3 l Z a0 hw b1025 b0 b1 b2 h1038 n0 X1037.ge0 A1027) (by decide) 0 rfl (by decide) rfl (lenOf pd_2 rfl) rfl rfl (by decide) (by decide) fun v1043 T1040 h1042 X1041 Q1044 => ?_
      obtain ⟨bt, rfl, Kt, szt, get, At⟩ := Q1044
      have A1027 := A1027.keep Kt nin0
      show own_Go p e below _ (T1040.setTop (mkF m 179 #[.val (.long p0), .second, .val (.int p1), .val (.int p2), .val (.int (3 : Int32)), .val (.int mo), .val (.int mk), .val (.ref b1025), .unset] [(.ref bt)]))
      refine o_astore cx X1041 (Ls' := #[.val (.long p0), .second, .val (.int p1), .val (.int p2), .val (.int (3 : Int32)), .val (.int mo), .val (.int mk), .val (.ref b1025), .val (.ref bt)]) at_179 rfl rfl ?_
      refine o_aload cx X1041 at_181 rfl rfl ?_
      refine o_ifnullNo cx X1041 at_183 ?_
      refine o_aload cx X1041 at_186 rfl rfl ?_
      refine o_len cx X1041 (z := (3 : Int32)) at_188 At rfl ?_
      refine o_iload cx X1041 at_189 rfl ?_
      refine o_icmpNo cx X1041 at_191 (by decide) ?_
      refine o_aload cx X1041 at_194 rfl rfl ?_
      refine o_aload cx X1041 at_196 rfl rfl ?_
      refine o_iload cx X1041 at_198 rfl ?_
      refine o_iconst cx X1041 (z := (0 : Int32)) at_200 rfl ?_
      refine o_callSp cx X1041 (y' := (⟨"com/example/needlewise/needlewise/KmpPartialMatchPinLaw", "ok", "([I[BII)Z"⟩ : MethodName)) (argsL := [(.ref bt), (.ref b1025), (.int (3 : Int32)), (.int (0 : Int32))]) (st := []) at_201 (o_w hw 11 rfl) (o_w hw 12 rfl) (o_w hw 3 rfl) (o_w hw 13 rfl) (by decide) (rok_3_0 l Z a0 hw bt b1025 [(.int (own_b1 b0)), (.int (own_b2 b0 b1)), (.int (own_b3 b0 b1 b2))] [(.int b0), (.int b1), (.int b2)] b0 h1042 n0 X1041.ge0 A1027 rfl At rfl) (by decide) 0 rfl (by decide) rfl (lenOf pd_3 rfl) rfl rfl (by decide) (by decide) fun T1045 X1046 => ?_
      show own_Go p e below _ (T1045.setTop (mkF m 204 #[.val (.long p0), .second, .val (.int p1), .val (.int p2), .val (.int (3 : Int32)), .val (.int mo), .val (.int mk), .val (.ref b1025), .val (.ref bt)] [(.int (1 : Int32))]))
      refine o_ifNo cx X1046 at_204 (by decide) ?_
      refine o_aload cx X1046 at_207 rfl rfl ?_
      refine o_aload cx X1046 at_209 rfl rfl ?_
      refine o_iload cx X1046 at_211 rfl ?_
      refine o_iconst cx X1046 (z := (1 : Int32)) at_213 rfl ?_
      refine o_callSp cx X1046 (y' := (⟨"com/example/needlewise/needlewise/KmpPartialMatchPinLaw", "ok", "([I[BII)Z"⟩ : MethodName)) (argsL := [(.ref bt), (.ref b1025), (.int (3 : Int32)), (.int (1 : Int32))]) (st := []) at_214 (o_w hw 11 rfl) (o_w hw 12 rfl) (o_w hw 3 rfl) (o_w hw 13 rfl) (by decide) (rok_3_1 l Z a0 hw bt b1025 [(.int (own_b1 b0)), (.int (own_b2 b0 b1)), (.int (own_b3 b0 b1 b2))] [(.int b0), (.int b1), (.int b2)] b0 b1 h1042 n0 X1046.ge0 A1027 rfl rfl At rfl) (by decide) 0 rfl (by decide) rfl (lenOf pd_3 rfl) rfl rfl (by decide) (by decide) fun T1050 X1051 => ?_
      show own_Go p e below _ (T1050.setTop (mkF m 217 #[.val (.long p0), .second, .val (.int p1), .val (.int p2), .val (.int (3 : Int32)), .val (.int mo), .val (.int mk), .val (.ref b1025), .val (.ref bt)] [(.int (1 : Int32))]))
      refine o_ifNo cx X1051 at_217 (by decide) ?_
      refine o_aload cx X1051 at_220 rfl rfl ?_
      refine o_aload cx X1051 at_222 rfl rfl ?_
      refine o_iload cx X1051 at_224 rfl ?_
      refine o_iconst cx X1051 (z := (2 : Int32)) at_226 rfl ?_
      refine o_callSp cx X1051 (y' := (⟨"com/example/needlewise/needlewise/KmpPartialMatchPinLaw", "ok", "([I[BII)Z"⟩ : MethodName)) (argsL := [(.ref bt), (.ref b1025), (.int (3 : Int32)), (.int (2 : Int32))]) (st := []) at_227 (o_w hw 11 rfl) (o_w hw 12 rfl) (o_w hw 3 rfl) (o_w hw 13 rfl) (by decide) (rok_3_2 l Z a0 hw bt b1025 [(.int (own_b1 b0)), (.int (own_b2 b0 b1)), (.int (own_b3 b0 b1 b2))] [(.int b0), (.int b1), (.int b2)] b0 b1 b2 h1042 n0 X1051.ge0 A1027 rfl rfl rfl At rfl) (by decide) 0 rfl (by decide) rfl (lenOf pd_3 rfl) rfl rfl (by decide) (by decide) fun T1055 X1056 => ?_
      show own_Go p e below _ (T1055.setTop (mkF m 230 #[.val (.long p0), .second, .val (.int p1), .val (.int p2), .val (.int (3 : Int32)), .val (.int mo), .val (.int mk), .val (.ref b1025), .val (.ref bt)] [(.int (1 : Int32))]))
      refine o_ifNo cx X1056 at_230 (by decide) ?_
      refine o_aload cx X1056 at_233 rfl rfl ?_
      refine o_aload cx X1056 at_235 rfl rfl ?_
      refine o_iload cx X1056 at_237 rfl ?_
      refine o_iconst cx X1056 (z := (3 : Int32)) at_239 rfl ?_
      refine o_callSp cx X1056 (y' := (⟨"com/example/needlewise/needlewise/KmpPartialMatchPinLaw", "ok", "([I[BII)Z"⟩ : MethodName)) (argsL := [(.ref bt), (.ref b1025), (.int (3 : Int32)), (.int (3 : Int32))]) (st := []) at_240 (o_w hw 11 rfl) (o_w hw 12 rfl) (o_w hw 3 rfl) (o_w hw 13 rfl) (by decide) (rok_3_3 l Z a0 hw bt b1025 h1042 n0 X1056.ge0) (by decide) 0 rfl (by decide) rfl (lenOf pd_3 rfl) rfl rfl (by decide) (by decide) fun T1060 X1061 => ?_
      show own_Go p e below _ (T1060.setTop (mkF m 243 #[.val (.long p0), .second, .val (.int p1), .val (.int p2), .val (.int (3 : Int32)), .val (.int mo), .val (.int mk), .val (.ref b1025), .val (.ref bt)] [(.int (1 : Int32))]))
      refine o_ifNo cx X1061 at_243 (by decide) ?_
      refine o_aload cx X1061 at_246 rfl rfl ?_
      refine o_aload cx X1061 at_248 rfl rfl ?_
      refine o_iload cx X1061 at_250 rfl ?_
      refine o_iconst cx X1061 (z := (4 : Int32)) at_252 rfl ?_
      refine o_callSp cx X1061 (y' := (⟨"com/example/needlewise/needlewise/KmpPartialMatchPinLaw", "ok", "([I[BII)Z"⟩ : MethodName)) (argsL := [(.ref bt), (.ref b1025), (.int (3 : Int32)), (.int (4 : Int32))]) (st := []) at_253 (o_w hw 11 rfl) (o_w hw 12 rfl) (o_w hw 3 rfl) (o_w hw 13 rfl) (by decide) (rok_3_4 l Z a0 hw bt b1025 h1042 n0 X1061.ge0) (by decide) 0 rfl (by decide) rfl (lenOf pd_3 rfl) rfl rfl (by decide) (by decide) fun T1065 X1066 => ?_
      show own_Go p e below _ (T1065.setTop (mkF m 256 #[.val (.long p0), .second, .val (.int p1), .val (.int p2), .val (.int (3 : Int32)), .val (.int mo), .val (.int mk), .val (.ref b1025), .val (.ref bt)] [(.int (1 : Int32))]))
      refine o_ifNo cx X1066 at_256 (by decide) ?_
      refine o_aload cx X1066 at_259 rfl rfl ?_
      refine o_aload cx X1066 at_261 rfl rfl ?_
      refine o_iload cx X1066 at_263 rfl ?_
      refine o_iconst cx X1066 (z := (5 : Int32)) at_265 rfl ?_
      refine o_callSp cx X1066 (y' := (⟨"com/example/needlewise/needlewise/KmpPartialMatchPinLaw", "ok", "([I[BII)Z"⟩ : MethodName)) (argsL := [(.ref bt), (.ref b1025), (.int (3 : Int32)), (.int (5 : Int32))]) (st := []) at_266 (o_w hw 11 rfl) (o_w hw 12 rfl) (o_w hw 3 rfl) (o_w hw 13 rfl) (by decide) (rok_3_5 l Z a0 hw bt b1025 h1042 n0 X1066.ge0) (by decide) 0 rfl (by decide) rfl (lenOf pd_3 rfl) rfl rfl (by decide) (by decide) fun T1070 X1071 => ?_
      show own_Go p e below _ (T1070.setTop (mkF m 269 #[.val (.long p0), .second, .val (.int p1), .val (.int p2), .val (.int (3 : Int32)), .val (.int mo), .val (.int mk), .val (.ref b1025), .val (.ref bt)] [(.int (1 : Int32))]))
      refine o_ifNo cx X1071 at_269 (by decide) ?_
      refine o_iconst cx X1071 (z := (1 : Int32)) at_272 rfl ?_
      refine o_goto cx X1071 277 at_273 (by decide) (by decide) ?_
      exact o_retN cx X1071 (z' := (1 : Int32)) at_277 (by simp) rfl rfl (by decide) (by decide)
    refine o_iloadN cx X0 at_11 rfl ?_
    refine o_iconst cx X0 (z := (3 : Int32)) at_12 rfl ?_
    refine o_iand cx X0 at_13 rfl ?_
    refine o_istore cx X0 (Ls' := #[.val (.long p0), .second, .val (.int p1), .val (.int p2), .val (.int (3 : Int32)), .val (.int (p2 &&& (3 : Int32))), .unset, .unset, .unset]) at_14 rfl ?_
    refine o_iload cx X0 at_16 rfl ?_
    by_cases hc1075 : (p2 &&& (3 : Int32)) = (0 : Int32)
    · refine o_ifNo cx X0 at_18 ((if0 _ _).trans (teq hc1075).2) ?_
      refine o_iconst cx X0 (z := (1 : Int32)) at_21 rfl ?_
      refine o_goto cx X0 49 at_22 (by decide) (by decide) ?_
      refine o_istore cx X0 (Ls' := #[.val (.long p0), .second, .val (.int p1), .val (.int p2), .val (.int (3 : Int32)), .val (.int (p2 &&& (3 : Int32))), .val (.int (1 : Int32)), .unset, .unset]) at_49 rfl ?_
      exact J51 _ _
    · refine o_ifYes cx X0 25 at_18 ((if0 _ _).trans (feq hc1075).2) (by decide) (by decide) ?_
      refine o_iload cx X0 at_25 rfl ?_
      refine o_iconst cx X0 (z := (1 : Int32)) at_27 rfl ?_
      by_cases hc1076 : (p2 &&& (3 : Int32)) = (1 : Int32)
      · refine o_icmpNo cx X0 at_28 (teq hc1076).2 ?_
        refine o_iconst cx X0 (z := (3 : Int32)) at_31 rfl ?_
        refine o_goto cx X0 49 at_32 (by decide) (by decide) ?_
        refine o_istore cx X0 (Ls' := #[.val (.long p0), .second, .val (.int p1), .val (.int p2), .val (.int (3 : Int32)), .val (.int (p2 &&& (3 : Int32))), .val (.int (3 : Int32)), .unset, .unset]) at_49 rfl ?_
        exact J51 _ _
      · refine o_icmpYes cx X0 35 at_28 (feq hc1076).2 (by decide) (by decide) ?_
        refine o_iload cx X0 at_35 rfl ?_
        refine o_iconst cx X0 (z := (2 : Int32)) at_37 rfl ?_
        by_cases hc1077 : (p2 &&& (3 : Int32)) = (2 : Int32)
        · refine o_icmpNo cx X0 at_38 (teq hc1077).2 ?_
          refine o_bipush cx X0 (z := (7 : Int32)) at_41 rfl ?_
          refine o_goto cx X0 49 at_43 (by decide) (by decide) ?_
          refine o_istore cx X0 (Ls' := #[.val (.long p0), .second, .val (.int p1), .val (.int p2), .val (.int (3 : Int32)), .val (.int (p2 &&& (3 : Int32))), .val (.int (7 : Int32)), .unset, .unset]) at_49 rfl ?_
          exact J51 _ _
        · refine o_icmpYes cx X0 46 at_38 (feq hc1077).2 (by decide) (by decide) ?_
          refine o_sipush cx X0 (z := (255 : Int32)) at_46 rfl ?_
          refine o_istore cx X0 (Ls' := #[.val (.long p0), .second, .val (.int p1), .val (.int p2), .val (.int (3 : Int32)), .val (.int (p2 &&& (3 : Int32))), .val (.int (255 : Int32)), .unset, .unset]) at_49 rfl ?_
          exact J51 _ _
  · rw [hn]
    show own_Go p e below _ (T0.setTop (mkF m 11 #[.val (.long p0), .second, .val (.int p1), .val (.int p2), .val (.int (4 : Int32)), .unset, .unset, .unset, .unset] []))
    have J51 : ∀ (mo mk : Int32), own_Go p e below (own_End below s room_1 n0 (fun v' _ => v' = some (.int 1))) (T0.setTop (mkF m 51 #[.val (.long p0), .second, .val (.int p1), .val (.int p2), .val (.int (4 : Int32)), .val (.int mo), .val (.int mk), .unset, .unset] [])) := by
      intro mo mk
      refine o_iload cx X0 at_51 rfl ?_
      refine o_callS cx X0 (y' := (⟨"com/example/needlewise/needlewise/KmpPartialMatchPinLaw", "make", "(I)[B"⟩ : MethodName)) (argsL := [(.int (4 : Int32))]) (st := []) at_53 (o_w hw 1 rfl) (o_w hw 2 rfl) (o_w hw 3 rfl) (o_w hw 4 rfl) (by decide) (ra1_4 l Z a0 hw  h0 n0 X0.ge0 ) (by decide) 0 rfl (by decide) rfl (lenOf pd_1 rfl) rfl rfl (by decide) (by decide) fun v1081 T1078 h1080 X1079 Q1082 => ?_
      obtain ⟨b1083, rfl, K1084, sz_b1083, ge_b1083, A1085⟩ := Q1082
      show own_Go p e below _ (T1078.setTop (mkF m 56 #[.val (.long p0), .second, .val (.int p1), .val (.int p2), .val (.int (4 : Int32)), .val (.int mo), .val (.int mk), .unset, .unset] [(.ref b1083)]))
      refine o_astore cx X1079 (Ls' := #[.val (.long p0), .second, .val (.int p1), .val (.int p2), .val (.int (4 : Int32)), .val (.int mo), .val (.int mk), .val (.ref b1083), .unset]) at_56 rfl rfl ?_
      refine o_iload cx X1079 at_58 rfl ?_
      refine o_ifNo cx X1079 at_60 (by decide) ?_
      refine o_aload cx X1079 at_63 rfl rfl ?_
      refine o_iconst cx X1079 (z := (0 : Int32)) at_65 rfl ?_
      refine o_lloadN cx X1079 at_66 rfl ?_
      refine o_iload cx X1079 at_67 rfl ?_
      refine o_i2l cx X1079 at_69 rfl ?_
      refine o_land cx X1079 at_70 rfl ?_
      refine o_l2i cx X1079 at_71 rfl ?_
      refine o_i2b cx X1079 at_72 rfl ?_
      refine o_stB cx X1079 (x' := (((p0 &&& (mk.toInt64)).toInt32).toInt8.toInt32)) at_73 A1085 0 (by decide) rfl (Nat.le_of_ble_eq_true rfl) (own_i8 _) ge_b1083 fun T1086 h1088 X1087 W1089 A1085 => ?_
      have A1085 : own_Ar Z h1088 b1083 .byte [(.int (((p0 &&& (mk.toInt64)).toInt32).toInt8.toInt32)), (.int (0 : Int32)), (.int (0 : Int32)), (.int (0 : Int32))] := A1085
      refine o_iload cx X1087 at_74 rfl ?_
      refine o_iconst cx X1087 (z := (1 : Int32)) at_76 rfl ?_
      refine o_icmpNo cx X1087 at_77 (by decide) ?_
      refine o_aload cx X1087 at_80 rfl rfl ?_
      refine o_iconst cx X1087 (z := (1 : Int32)) at_82 rfl ?_
      refine o_lloadN cx X1087 at_83 rfl ?_
      refine o_bipush cx X1087 (z := (8 : Int32)) at_84 rfl ?_
      refine o_lushr cx X1087 at_86 rfl ?_
      refine o_iload cx X1087 at_87 rfl ?_
      refine o_i2l cx X1087 at_89 rfl ?_
      refine o_land cx X1087 at_90 rfl ?_
      refine o_l2i cx X1087 at_91 rfl ?_
      refine o_i2b cx X1087 at_92 rfl ?_
      refine o_stB cx X1087 (x' := (((((p0.toUInt64 >>> ((8 : Int32) &&& 0x3f).toInt64.toUInt64).toInt64) &&& (mk.toInt64)).toInt32).toInt8.toInt32)) at_93 A1085 1 (by decide) rfl (Nat.le_of_ble_eq_true rfl) (own_i8 _) ge_b1083 fun T1090 h1092 X1091 W1093 A1085 => ?_
      have A1085 : own_Ar Z h1092 b1083 .byte [(.int (((p0 &&& (mk.toInt64)).toInt32).toInt8.toInt32)), (.int (((((p0.toUInt64 >>> ((8 : Int32) &&& 0x3f).toInt64.toUInt64).toInt64) &&& (mk.toInt64)).toInt32).toInt8.toInt32)), (.int (0 : Int32)), (.int (0 : Int32))] := A1085
      refine o_iload cx X1091 at_94 rfl ?_
      refine o_iconst cx X1091 (z := (2 : Int32)) at_96 rfl ?_
      refine o_icmpNo cx X1091 at_97 (by decide) ?_
      refine o_aload cx X1091 at_100 rfl rfl ?_
      refine o_iconst cx X1091 (z := (2 : Int32)) at_102 rfl ?_
      refine o_lloadN cx X1091 at_103 rfl ?_
      refine o_bipush cx X1091 (z := (16 : Int32)) at_104 rfl ?_
      refine o_lushr cx X1091 at_106 rfl ?_
      refine o_iload cx X1091 at_107 rfl ?_
      refine o_i2l cx X1091 at_109 rfl ?_
      refine o_land cx X1091 at_110 rfl ?_
      refine o_l2i cx X1091 at_111 rfl ?_
      refine o_i2b cx X1091 at_112 rfl ?_
      refine o_stB cx X1091 (x' := (((((p0.toUInt64 >>> ((16 : Int32) &&& 0x3f).toInt64.toUInt64).toInt64) &&& (mk.toInt64)).toInt32).toInt8.toInt32)) at_113 A1085 2 (by decide) rfl (Nat.le_of_ble_eq_true rfl) (own_i8 _) ge_b1083 fun T1094 h1096 X1095 W1097 A1085 => ?_
      have A1085 : own_Ar Z h1096 b1083 .byte [(.int (((p0 &&& (mk.toInt64)).toInt32).toInt8.toInt32)), (.int (((((p0.toUInt64 >>> ((8 : Int32) &&& 0x3f).toInt64.toUInt64).toInt64) &&& (mk.toInt64)).toInt32).toInt8.toInt32)), (.int (((((p0.toUInt64 >>> ((16 : Int32) &&& 0x3f).toInt64.toUInt64).toInt64) &&& (mk.toInt64)).toInt32).toInt8.toInt32)), (.int (0 : Int32))] := A1085
      refine o_iload cx X1095 at_114 rfl ?_
      refine o_iconst cx X1095 (z := (3 : Int32)) at_116 rfl ?_
      refine o_icmpNo cx X1095 at_117 (by decide) ?_
      refine o_aload cx X1095 at_120 rfl rfl ?_
      refine o_iconst cx X1095 (z := (3 : Int32)) at_122 rfl ?_
      refine o_lloadN cx X1095 at_123 rfl ?_
      refine o_bipush cx X1095 (z := (24 : Int32)) at_124 rfl ?_
      refine o_lushr cx X1095 at_126 rfl ?_
      refine o_iload cx X1095 at_127 rfl ?_
      refine o_i2l cx X1095 at_129 rfl ?_
      refine o_land cx X1095 at_130 rfl ?_
      refine o_l2i cx X1095 at_131 rfl ?_
      refine o_i2b cx X1095 at_132 rfl ?_
      refine o_stB cx X1095 (x' := (((((p0.toUInt64 >>> ((24 : Int32) &&& 0x3f).toInt64.toUInt64).toInt64) &&& (mk.toInt64)).toInt32).toInt8.toInt32)) at_133 A1085 3 (by decide) rfl (Nat.le_of_ble_eq_true rfl) (own_i8 _) ge_b1083 fun T1098 h1100 X1099 W1101 A1085 => ?_
      have A1085 : own_Ar Z h1100 b1083 .byte [(.int (((p0 &&& (mk.toInt64)).toInt32).toInt8.toInt32)), (.int (((((p0.toUInt64 >>> ((8 : Int32) &&& 0x3f).toInt64.toUInt64).toInt64) &&& (mk.toInt64)).toInt32).toInt8.toInt32)), (.int (((((p0.toUInt64 >>> ((16 : Int32) &&& 0x3f).toInt64.toUInt64).toInt64) &&& (mk.toInt64)).toInt32).toInt8.toInt32)), (.int (((((p0.toUInt64 >>> ((24 : Int32) &&& 0x3f).toInt64.toUInt64).toInt64) &&& (mk.toInt64)).toInt32).toInt8.toInt32))] := A1085
      refine o_iload cx X1099 at_134 rfl ?_
      refine o_iconst cx X1099 (z := (4 : Int32)) at_136 rfl ?_
      refine o_icmpYes cx X1099 154 at_137 (by decide) (by decide) (by decide) ?_
      refine o_iload cx X1099 at_154 rfl ?_
      refine o_iconst cx X1099 (z := (5 : Int32)) at_156 rfl ?_
      refine o_icmpYes cx X1099 174 at_157 (by decide) (by decide) (by decide) ?_
      obtain ⟨b0, eb0⟩ : ∃ z : Int32, z = (((p0 &&& (mk.toInt64)).toInt32).toInt8.toInt32) := ⟨_, rfl⟩
      rw [← eb0] at A1085
      obtain ⟨b1, eb1⟩ : ∃ z : Int32, z = (((((p0.toUInt64 >>> ((8 : Int32) &&& 0x3f).toInt64.toUInt64).toInt64) &&& (mk.toInt64)).toInt32).toInt8.toInt32) := ⟨_, rfl⟩
      rw [← eb1] at A1085
      obtain ⟨b2, eb2⟩ : ∃ z : Int32, z = (((((p0.toUInt64 >>> ((16 : Int32) &&& 0x3f).toInt64.toUInt64).toInt64) &&& (mk.toInt64)).toInt32).toInt8.toInt32) := ⟨_, rfl⟩
      rw [← eb2] at A1085
      obtain ⟨b3, eb3⟩ : ∃ z : Int32, z = (((((p0.toUInt64 >>> ((24 : Int32) &&& 0x3f).toInt64.toUInt64).toInt64) &&& (mk.toInt64)).toInt32).toInt8.toInt32) := ⟨_, rfl⟩
      rw [← eb3] at A1085
      refine o_aload cx X1099 at_174 rfl rfl ?_
      refine o_callS cx X1099 (y' := (⟨"com/example/needlewise/needlewise/Kmp", "partialMatch", "([B)[I"⟩ : MethodName)) (argsL := [(.ref b1083)]) (st := []) at_176 (o_w hw 6 rfl) (o_w hw 7 rfl) (o_w hw 8 rfl) (o_w hw 9 rfl) (by decide) (rpm_4 l Z a0 hw b1083 b0 b1 b2 b3 h1100 n0 X1099.ge0 A1085) (by decide) 0 rfl (by decide) rfl (lenOf pd_2 rfl) rfl rfl (by decide) (by decide) fun v1105 T1102 h1104 X1103 Q1106 => ?_
      obtain ⟨bt, rfl, Kt, szt, get, At⟩ := Q1106
      have A1085 := A1085.keep Kt nin0
      show own_Go p e below _ (T1102.setTop (mkF m 179 #[.val (.long p0), .second, .val (.int p1), .val (.int p2), .val (.int (4 : Int32)), .val (.int mo), .val (.int mk), .val (.ref b1083), .unset] [(.ref bt)]))
      refine o_astore cx X1103 (Ls' := #[.val (.long p0), .second, .val (.int p1), .val (.int p2), .val (.int (4 : Int32)), .val (.int mo), .val (.int mk), .val (.ref b1083), .val (.ref bt)]) at_179 rfl rfl ?_
      refine o_aload cx X1103 at_181 rfl rfl ?_
      refine o_ifnullNo cx X1103 at_183 ?_
      refine o_aload cx X1103 at_186 rfl rfl ?_
      refine o_len cx X1103 (z := (4 : Int32)) at_188 At rfl ?_
      refine o_iload cx X1103 at_189 rfl ?_
      refine o_icmpNo cx X1103 at_191 (by decide) ?_
      refine o_aload cx X1103 at_194 rfl rfl ?_
      refine o_aload cx X1103 at_196 rfl rfl ?_
      refine o_iload cx X1103 at_198 rfl ?_
      refine o_iconst cx X1103 (z := (0 : Int32)) at_200 rfl ?_
      refine o_callSp cx X1103 (y' := (⟨"com/example/needlewise/needlewise/KmpPartialMatchPinLaw", "ok", "([I[BII)Z"⟩ : MethodName)) (argsL := [(.ref bt), (.ref b1083), (.int (4 : Int32)), (.int (0 : Int32))]) (st := []) at_201 (o_w hw 11 rfl) (o_w hw 12 rfl) (o_w hw 3 rfl) (o_w hw 13 rfl) (by decide) (rok_4_0 l Z a0 hw bt b1083 [(.int (own_b1 b0)), (.int (own_b2 b0 b1)), (.int (own_b3 b0 b1 b2)), (.int (own_b4 b0 b1 b2 b3))] [(.int b0), (.int b1), (.int b2), (.int b3)] b0 h1104 n0 X1103.ge0 A1085 rfl At rfl) (by decide) 0 rfl (by decide) rfl (lenOf pd_3 rfl) rfl rfl (by decide) (by decide) fun T1107 X1108 => ?_
      show own_Go p e below _ (T1107.setTop (mkF m 204 #[.val (.long p0), .second, .val (.int p1), .val (.int p2), .val (.int (4 : Int32)), .val (.int mo), .val (.int mk), .val (.ref b1083), .val (.ref bt)] [(.int (1 : Int32))]))
      refine o_ifNo cx X1108 at_204 (by decide) ?_
      refine o_aload cx X1108 at_207 rfl rfl ?_
      refine o_aload cx X1108 at_209 rfl rfl ?_
      refine o_iload cx X1108 at_211 rfl ?_
      refine o_iconst cx X1108 (z := (1 : Int32)) at_213 rfl ?_
      refine o_callSp cx X1108 (y' := (⟨"com/example/needlewise/needlewise/KmpPartialMatchPinLaw", "ok", "([I[BII)Z"⟩ : MethodName)) (argsL := [(.ref bt), (.ref b1083), (.int (4 : Int32)), (.int (1 : Int32))]) (st := []) at_214 (o_w hw 11 rfl) (o_w hw 12 rfl) (o_w hw 3 rfl) (o_w hw 13 rfl) (by decide) (rok_4_1 l Z a0 hw bt b1083 [(.int (own_b1 b0)), (.int (own_b2 b0 b1)), (.int (own_b3 b0 b1 b2)), (.int (own_b4 b0 b1 b2 b3))] [(.int b0), (.int b1), (.int b2), (.int b3)] b0 b1 h1104 n0 X1108.ge0 A1085 rfl rfl At rfl) (by decide) 0 rfl (by decide) rfl (lenOf pd_3 rfl) rfl rfl (by decide) (by decide) fun T1112 X1113 => ?_
      show own_Go p e below _ (T1112.setTop (mkF m 217 #[.val (.long p0), .second, .val (.int p1), .val (.int p2), .val (.int (4 : Int32)), .val (.int mo), .val (.int mk), .val (.ref b1083), .val (.ref bt)] [(.int (1 : Int32))]))
      refine o_ifNo cx X1113 at_217 (by decide) ?_
      refine o_aload cx X1113 at_220 rfl rfl ?_
      refine o_aload cx X1113 at_222 rfl rfl ?_
      refine o_iload cx X1113 at_224 rfl ?_
      refine o_iconst cx X1113 (z := (2 : Int32)) at_226 rfl ?_
      refine o_callSp cx X1113 (y' := (⟨"com/example/needlewise/needlewise/KmpPartialMatchPinLaw", "ok", "([I[BII)Z"⟩ : MethodName)) (argsL := [(.ref bt), (.ref b1083), (.int (4 : Int32)), (.int (2 : Int32))]) (st := []) at_227 (o_w hw 11 rfl) (o_w hw 12 rfl) (o_w hw 3 rfl) (o_w hw 13 rfl) (by decide) (rok_4_2 l Z a0 hw bt b1083 [(.int (own_b1 b0)), (.int (own_b2 b0 b1)), (.int (own_b3 b0 b1 b2)), (.int (own_b4 b0 b1 b2 b3))] [(.int b0), (.int b1), (.int b2), (.int b3)] b0 b1 b2 h1104 n0 X1113.ge0 A1085 rfl rfl rfl At rfl) (by decide) 0 rfl (by decide) rfl (lenOf pd_3 rfl) rfl rfl (by decide) (by decide) fun T1117 X1118 => ?_
      show own_Go p e below _ (T1117.setTop (mkF m 230 #[.val (.long p0), .second, .val (.int p1), .val (.int p2), .val (.int (4 : Int32)), .val (.int mo), .val (.int mk), .val (.ref b1083), .val (.ref bt)] [(.int (1 : Int32))]))
      refine o_ifNo cx X1118 at_230 (by decide) ?_
      refine o_aload cx X1118 at_233 rfl rfl ?_
      refine o_aload cx X1118 at_235 rfl rfl ?_
      refine o_iload cx X1118 at_237 rfl ?_
      refine o_iconst cx X1118 (z := (3 : Int32)) at_239 rfl ?_
      refine o_callSp cx X1118 (y' := (⟨"com/example/needlewise/needlewise/KmpPartialMatchPinLaw", "ok", "([I[BII)Z"⟩ : MethodName)) (argsL := [(.ref bt), (.ref b1083), (.int (4 : Int32)), (.int (3 : Int32))]) (st := []) at_240 (o_w hw 11 rfl) (o_w hw 12 rfl) (o_w hw 3 rfl) (o_w hw 13 rfl) (by decide) (rok_4_3 l Z a0 hw bt b1083 [(.int (own_b1 b0)), (.int (own_b2 b0 b1)), (.int (own_b3 b0 b1 b2)), (.int (own_b4 b0 b1 b2 b3))] [(.int b0), (.int b1), (.int b2), (.int b3)] b0 b1 b2 b3 h1104 n0 X1118.ge0 A1085 rfl rfl rfl rfl At rfl) (by decide) 0 rfl (by decide) rfl (lenOf pd_3 rfl) rfl rfl (by decide) (by decide) fun T1122 X1123 => ?_
      show own_Go p e below _ (T1122.setTop (mkF m 243 #[.val (.long p0), .second, .val (.int p1), .val (.int p2), .val (.int (4 : Int32)), .val (.int mo), .val (.int mk), .val (.ref b1083), .val (.ref bt)] [(.int (1 : Int32))]))
      refine o_ifNo cx X1123 at_243 (by decide) ?_
      refine o_aload cx X1123 at_246 rfl rfl ?_
      refine o_aload cx X1123 at_248 rfl rfl ?_
      refine o_iload cx X1123 at_250 rfl ?_
      refine o_iconst cx X1123 (z := (4 : Int32)) at_252 rfl ?_
      refine o_callSp cx X1123 (y' := (⟨"com/example/needlewise/needlewise/KmpPartialMatchPinLaw", "ok", "([I[BII)Z"⟩ : MethodName)) (argsL := [(.ref bt), (.ref b1083), (.int (4 : Int32)), (.int (4 : Int32))]) (st := []) at_253 (o_w hw 11 rfl) (o_w hw 12 rfl) (o_w hw 3 rfl) (o_w hw 13 rfl) (by decide) (rok_4_4 l Z a0 hw bt b1083 h1104 n0 X1123.ge0) (by decide) 0 rfl (by decide) rfl (lenOf pd_3 rfl) rfl rfl (by decide) (by decide) fun T1127 X1128 => ?_
      show own_Go p e below _ (T1127.setTop (mkF m 256 #[.val (.long p0), .second, .val (.int p1), .val (.int p2), .val (.int (4 : Int32)), .val (.int mo), .val (.int mk), .val (.ref b1083), .val (.ref bt)] [(.int (1 : Int32))]))
      refine o_ifNo cx X1128 at_256 (by decide) ?_
      refine o_aload cx X1128 at_259 rfl rfl ?_
      refine o_aload cx X1128 at_261 rfl rfl ?_
      refine o_iload cx X1128 at_263 rfl ?_
      refine o_iconst cx X1128 (z := (5 : Int32)) at_265 rfl ?_
      refine o_callSp cx X1128 (y' := (⟨"com/example/needlewise/needlewise/KmpPartialMatchPinLaw", "ok", "([I[BII)Z"⟩ : MethodName)) (argsL := [(.ref bt), (.ref b1083), (.int (4 : Int32)), (.int (5 : Int32))]) (st := []) at_266 (o_w hw 11 rfl) (o_w hw 12 rfl) (o_w hw 3 rfl) (o_w hw 13 rfl) (by decide) (rok_4_5 l Z a0 hw bt b1083 h1104 n0 X1128.ge0) (by decide) 0 rfl (by decide) rfl (lenOf pd_3 rfl) rfl rfl (by decide) (by decide) fun T1132 X1133 => ?_
      show own_Go p e below _ (T1132.setTop (mkF m 269 #[.val (.long p0), .second, .val (.int p1), .val (.int p2), .val (.int (4 : Int32)), .val (.int mo), .val (.int mk), .val (.ref b1083), .val (.ref bt)] [(.int (1 : Int32))]))
      refine o_ifNo cx X1133 at_269 (by decide) ?_
      refine o_iconst cx X1133 (z := (1 : Int32)) at_272 rfl ?_
      refine o_goto cx X1133 277 at_273 (by decide) (by decide) ?_
      exact o_retN cx X1133 (z' := (1 : Int32)) at_277 (by simp) rfl rfl (by decide) (by decide)
    refine o_iloadN cx X0 at_11 rfl ?_
    refine o_iconst cx X0 (z := (3 : Int32)) at_12 rfl ?_
    refine o_iand cx X0 at_13 rfl ?_
    refine o_istore cx X0 (Ls' := #[.val (.long p0), .second, .val (.int p1), .val (.int p2), .val (.int (4 : Int32)), .val (.int (p2 &&& (3 : Int32))), .unset, .unset, .unset]) at_14 rfl ?_
    refine o_iload cx X0 at_16 rfl ?_
    by_cases hc1137 : (p2 &&& (3 : Int32)) = (0 : Int32)
    · refine o_ifNo cx X0 at_18 ((if0 _ _).trans (teq hc1137).2) ?_
      refine o_iconst cx X0 (z := (1 : Int32)) at_21 rfl ?_
      refine o_goto cx X0 49 at_22 (by decide) (by decide) ?_
      refine o_istore cx X0 (Ls' := #[.val (.long p0), .second, .val (.int p1), .val (.int p2), .val (.int (4 : Int32)), .val (.int (p2 &&& (3 : Int32))), .val (.int (1 : Int32)), .unset, .unset]) at_49 rfl ?_
      exact J51 _ _
    · refine o_ifYes cx X0 25 at_18 ((if0 _ _).trans (feq hc1137).2) (by decide) (by decide) ?_
      refine o_iload cx X0 at_25 rfl ?_
      refine o_iconst cx X0 (z := (1 : Int32)) at_27 rfl ?_
      by_cases hc1138 : (p2 &&& (3 : Int32)) = (1 : Int32)
      · refine o_icmpNo cx X0 at_28 (teq hc1138).2 ?_
        refine o_iconst cx X0 (z := (3 : Int32)) at_31 rfl ?_
        refine o_goto cx X0 49 at_32 (by decide) (by decide) ?_
        refine o_istore cx X0 (Ls' := #[.val (.long p0), .second, .val (.int p1), .val (.int p2), .val (.int (4 : Int32)), .val (.int (p2 &&& (3 : Int32))), .val (.int (3 : Int32)), .unset, .unset]) at_49 rfl ?_
        exact J51 _ _
      · refine o_icmpYes cx X0 35 at_28 (feq hc1138).2 (by decide) (by decide) ?_
        refine o_iload cx X0 at_35 rfl ?_
        refine o_iconst cx X0 (z := (2 : Int32)) at_37 rfl ?_
        by_cases hc1139 : (p2 &&& (3 : Int32)) = (2 : Int32)
        · refine o_icmpNo cx X0 at_38 (teq hc1139).2 ?_
          refine o_bipush cx X0 (z := (7 : Int32)) at_41 rfl ?_
          refine o_goto cx X0 49 at_43 (by decide) (by decide) ?_
          refine o_istore cx X0 (Ls' := #[.val (.long p0), .second, .val (.int p1), .val (.int p2), .val (.int (4 : Int32)), .val (.int (p2 &&& (3 : Int32))), .val (.int (7 : Int32)), .unset, .unset]) at_49 rfl ?_
          exact J51 _ _
        · refine o_icmpYes cx X0 46 at_38 (feq hc1139).2 (by decide) (by decide) ?_
          refine o_sipush cx X0 (z := (255 : Int32)) at_46 rfl ?_
          refine o_istore cx X0 (Ls' := #[.val (.long p0), .second, .val (.int p1), .val (.int p2), .val (.int (4 : Int32)), .val (.int (p2 &&& (3 : Int32))), .val (.int (255 : Int32)), .unset, .unset]) at_49 rfl ?_
          exact J51 _ _
  · rw [hn]
    show own_Go p e below _ (T0.setTop (mkF m 11 #[.val (.long p0), .second, .val (.int p1), .val (.int p2), .val (.int (5 : Int32)), .unset, .unset, .unset, .unset] []))
    have J51 : ∀ (mo mk : Int32), own_Go p e below (own_End below s room_1 n0 (fun v' _ => v' = some (.int 1))) (T0.setTop (mkF m 51 #[.val (.long p0), .second, .val (.int p1), .val (.int p2), .val (.int (5 : Int32)), .val (.int mo), .val (.int mk), .unset, .unset] [])) := by
      intro mo mk
      refine o_iload cx X0 at_51 rfl ?_
      refine o_callS cx X0 (y' := (⟨"com/example/needlewise/needlewise/KmpPartialMatchPinLaw", "make", "(I)[B"⟩ : MethodName)) (argsL := [(.int (5 : Int32))]) (st := []) at_53 (o_w hw 1 rfl) (o_w hw 2 rfl) (o_w hw 3 rfl) (o_w hw 4 rfl) (by decide) (ra1_5 l Z a0 hw  h0 n0 X0.ge0 ) (by decide) 0 rfl (by decide) rfl (lenOf pd_1 rfl) rfl rfl (by decide) (by decide) fun v1143 T1140 h1142 X1141 Q1144 => ?_
      obtain ⟨b1145, rfl, K1146, sz_b1145, ge_b1145, A1147⟩ := Q1144
      show own_Go p e below _ (T1140.setTop (mkF m 56 #[.val (.long p0), .second, .val (.int p1), .val (.int p2), .val (.int (5 : Int32)), .val (.int mo), .val (.int mk), .unset, .unset] [(.ref b1145)]))
      refine o_astore cx X1141 (Ls' := #[.val (.long p0), .second, .val (.int p1), .val (.int p2), .val (.int (5 : Int32)), .val (.int mo), .val (.int mk), .val (.ref b1145), .unset]) at_56 rfl rfl ?_
      refine o_iload cx X1141 at_58 rfl ?_
      refine o_ifNo cx X1141 at_60 (by decide) ?_
      refine o_aload cx X1141 at_63 rfl rfl ?_
      refine o_iconst cx X1141 (z := (0 : Int32)) at_65 rfl ?_
      refine o_lloadN cx X1141 at_66 rfl ?_
      refine o_iload cx X1141 at_67 rfl ?_
      refine o_i2l cx X1141 at_69 rfl ?_
      refine o_land cx X1141 at_70 rfl ?_
      refine o_l2i cx X1141 at_71 rfl ?_
      refine o_i2b cx X1141 at_72 rfl ?_
      refine o_stB cx X1141 (x' := (((p0 &&& (mk.toInt64)).toInt32).toInt8.toInt32)) at_73 A1147 0 (by decide) rfl (Nat.le_of_ble_eq_true rfl) (own_i8 _) ge_b1145 fun T1148 h1150 X1149 W1151 A1147 => ?_
      have A1147 : own_Ar Z h1150 b1145 .byte [(.int (((p0 &&& (mk.toInt64)).toInt32).toInt8.toInt32)), (.int (0 : Int32)), (.int (0 : Int32)), (.int (0 : Int32)), (.int (0 : Int32))] := A1147
      refine o_iload cx X1149 at_74 rfl ?_
      refine o_iconst cx X1149 (z := (1 : Int32)) at_76 rfl ?_
      refine o_icmpNo cx X1149 at_77 (by decide) ?_
      refine o_aload cx X1149 at_80 rfl rfl ?_
      refine o_iconst cx X1149 (z := (1 : Int32)) at_82 rfl ?_
      refine o_lloadN cx X1149 at_83 rfl ?_
      refine o_bipush cx X1149 (z := (8 : Int32)) at_84 rfl ?_
      refine o_lushr cx X1149 at_86 rfl ?_
      refine o_iload cx X1149 at_87 rfl ?_
      refine o_i2l cx X1149 at_89 rfl ?_
      refine o_land cx X1149 at_90 rfl ?_
      refine o_l2i cx X1149 at_91 rfl ?_
      refine o_i2b cx X1149 at_92 rfl ?_
      refine o_stB cx X1149 (x' := (((((p0.toUInt64 >>> ((8 : Int32) &&& 0x3f).toInt64.toUInt64).toInt64) &&& (mk.toInt64)).toInt32).toInt8.toInt32)) at_93 A1147 1 (by decide) rfl (Nat.le_of_ble_eq_true rfl) (own_i8 _) ge_b1145 fun T1152 h1154 X1153 W1155 A1147 => ?_
      have A1147 : own_Ar Z h1154 b1145 .byte [(.int (((p0 &&& (mk.toInt64)).toInt32).toInt8.toInt32)), (.int (((((p0.toUInt64 >>> ((8 : Int32) &&& 0x3f).toInt64.toUInt64).toInt64) &&& (mk.toInt64)).toInt32).toInt8.toInt32)), (.int (0 : Int32)), (.int (0 : Int32)), (.int (0 : Int32))] := A1147
      refine o_iload cx X1153 at_94 rfl ?_
      refine o_iconst cx X1153 (z := (2 : Int32)) at_96 rfl ?_
      refine o_icmpNo cx X1153 at_97 (by decide) ?_
      refine o_aload cx X1153 at_100 rfl rfl ?_
      refine o_iconst cx X1153 (z := (2 : Int32)) at_102 rfl ?_
      refine o_lloadN cx X1153 at_103 rfl ?_
      refine o_bipush cx X1153 (z := (16 : Int32)) at_104 rfl ?_
      refine o_lushr cx X1153 at_106 rfl ?_
      refine o_iload cx X1153 at_107 rfl ?_
      refine o_i2l cx X1153 at_109 rfl ?_
      refine o_land cx X1153 at_110 rfl ?_
      refine o_l2i cx X1153 at_111 rfl ?_
      refine o_i2b cx X1153 at_112 rfl ?_
      refine o_stB cx X1153 (x' := (((((p0.toUInt64 >>> ((16 : Int32) &&& 0x3f).toInt64.toUInt64).toInt64) &&& (mk.toInt64)).toInt32).toInt8.toInt32)) at_113 A1147 2 (by decide) rfl (Nat.le_of_ble_eq_true rfl) (own_i8 _) ge_b1145 fun T1156 h1158 X1157 W1159 A1147 => ?_
      have A1147 : own_Ar Z h1158 b1145 .byte [(.int (((p0 &&& (mk.toInt64)).toInt32).toInt8.toInt32)), (.int (((((p0.toUInt64 >>> ((8 : Int32) &&& 0x3f).toInt64.toUInt64).toInt64) &&& (mk.toInt64)).toInt32).toInt8.toInt32)), (.int (((((p0.toUInt64 >>> ((16 : Int32) &&& 0x3f).toInt64.toUInt64).toInt64) &&& (mk.toInt64)).toInt32).toInt8.toInt32)), (.int (0 : Int32)), (.int (0 : Int32))] := A1147
      refine o_iload cx X1157 at_114 rfl ?_
      refine o_iconst cx X1157 (z := (3 : Int32)) at_116 rfl ?_
      refine o_icmpNo cx X1157 at_117 (by decide) ?_
      refine o_aload cx X1157 at_120 rfl rfl ?_
      refine o_iconst cx X1157 (z := (3 : Int32)) at_122 rfl ?_
      refine o_lloadN cx X1157 at_123 rfl ?_
      refine o_bipush cx X1157 (z := (24 : Int32)) at_124 rfl ?_
      refine o_lushr cx X1157 at_126 rfl ?_
      refine o_iload cx X1157 at_127 rfl ?_
      refine o_i2l cx X1157 at_129 rfl ?_
      refine o_land cx X1157 at_130 rfl ?_
      refine o_l2i cx X1157 at_131 rfl ?_
      refine o_i2b cx X1157 at_132 rfl ?_
      refine o_stB cx X1157 (x' := (((((p0.toUInt64 >>> ((24 : Int32) &&& 0x3f).toInt64.toUInt64).toInt64) &&& (mk.toInt64)).toInt32).toInt8.toInt32)) at_133 A1147 3 (by decide) rfl (Nat.le_of_ble_eq_true rfl) (own_i8 _) ge_b1145 fun T1160 h1162 X1161 W1163 A1147 => ?_
      have A1147 : own_Ar Z h1162 b1145 .byte [(.int (((p0 &&& (mk.toInt64)).toInt32).toInt8.toInt32)), (.int (((((p0.toUInt64 >>> ((8 : Int32) &&& 0x3f).toInt64.toUInt64).toInt64) &&& (mk.toInt64)).toInt32).toInt8.toInt32)), (.int (((((p0.toUInt64 >>> ((16 : Int32) &&& 0x3f).toInt64.toUInt64).toInt64) &&& (mk.toInt64)).toInt32).toInt8.toInt32)), (.int (((((p0.toUInt64 >>> ((24 : Int32) &&& 0x3f).toInt64.toUInt64).toInt64) &&& (mk.toInt64)).toInt32).toInt8.toInt32)), (.int (0 : Int32))] := A1147
      refine o_iload cx X1161 at_134 rfl ?_
      refine o_iconst cx X1161 (z := (4 : Int32)) at_136 rfl ?_
      refine o_icmpNo cx X1161 at_137 (by decide) ?_
      refine o_aload cx X1161 at_140 rfl rfl ?_
      refine o_iconst cx X1161 (z := (4 : Int32)) at_142 rfl ?_
      refine o_lloadN cx X1161 at_143 rfl ?_
      refine o_bipush cx X1161 (z := (32 : Int32)) at_144 rfl ?_
      refine o_lushr cx X1161 at_146 rfl ?_
      refine o_iload cx X1161 at_147 rfl ?_
      refine o_i2l cx X1161 at_149 rfl ?_
      refine o_land cx X1161 at_150 rfl ?_
      refine o_l2i cx X1161 at_151 rfl ?_
      refine o_i2b cx X1161 at_152 rfl ?_
      refine o_stB cx X1161 (x' := (((((p0.toUInt64 >>> ((32 : Int32) &&& 0x3f).toInt64.toUInt64).toInt64) &&& (mk.toInt64)).toInt32).toInt8.toInt32)) at_153 A1147 4 (by decide) rfl (Nat.le_of_ble_eq_true rfl) (own_i8 _) ge_b1145 fun T1164 h1166 X1165 W1167 A1147 => ?_
      have A1147 : own_Ar Z h1166 b1145 .byte [(.int (((p0 &&& (mk.toInt64)).toInt32).toInt8.toInt32)), (.int (((((p0.toUInt64 >>> ((8 : Int32) &&& 0x3f).toInt64.toUInt64).toInt64) &&& (mk.toInt64)).toInt32).toInt8.toInt32)), (.int (((((p0.toUInt64 >>> ((16 : Int32) &&& 0x3f).toInt64.toUInt64).toInt64) &&& (mk.toInt64)).toInt32).toInt8.toInt32)), (.int (((((p0.toUInt64 >>> ((24 : Int32) &&& 0x3f).toInt64.toUInt64).toInt64) &&& (mk.toInt64)).toInt32).toInt8.toInt32)), (.int (((((p0.toUInt64 >>> ((32 : Int32) &&& 0x3f).toInt64.toUInt64).toInt64) &&& (mk.toInt64)).toInt32).toInt8.toInt32))] := A1147
      refine o_iload cx X1165 at_154 rfl ?_
      refine o_iconst cx X1165 (z := (5 : Int32)) at_156 rfl ?_
      refine o_icmpYes cx X1165 174 at_157 (by decide) (by decide) (by decide) ?_
      obtain ⟨b0, eb0⟩ : ∃ z : Int32, z = (((p0 &&& (mk.toInt64)).toInt32).toInt8.toInt32) := ⟨_, rfl⟩
      rw [← eb0] at A1147
      obtain ⟨b1, eb1⟩ : ∃ z : Int32, z = (((((p0.toUInt64 >>> ((8 : Int32) &&& 0x3f).toInt64.toUInt64).toInt64) &&& (mk.toInt64)).toInt32).toInt8.toInt32) := ⟨_, rfl⟩
      rw [← eb1] at A1147
      obtain ⟨b2, eb2⟩ : ∃ z : Int32, z = (((((p0.toUInt64 >>> ((16 : Int32) &&& 0x3f).toInt64.toUInt64).toInt64) &&& (mk.toInt64)).toInt32).toInt8.toInt32) := ⟨_, rfl⟩
      rw [← eb2] at A1147
      obtain ⟨b3, eb3⟩ : ∃ z : Int32, z = (((((p0.toUInt64 >>> ((24 : Int32) &&& 0x3f).toInt64.toUInt64).toInt64) &&& (mk.toInt64)).toInt32).toInt8.toInt32) := ⟨_, rfl⟩
      rw [← eb3] at A1147
      obtain ⟨b4, eb4⟩ : ∃ z : Int32, z = (((((p0.toUInt64 >>> ((32 : Int32) &&& 0x3f).toInt64.toUInt64).toInt64) &&& (mk.toInt64)).toInt32).toInt8.toInt32) := ⟨_, rfl⟩
      rw [← eb4] at A1147
      refine o_aload cx X1165 at_174 rfl rfl ?_
      refine o_callS cx X1165 (y' := (⟨"com/example/needlewise/needlewise/Kmp", "partialMatch", "([B)[I"⟩ : MethodName)) (argsL := [(.ref b1145)]) (st := []) at_176 (o_w hw 6 rfl) (o_w hw 7 rfl) (o_w hw 8 rfl) (o_w hw 9 rfl) (by decide) (rpm_5 l Z a0 hw b1145 b0 b1 b2 b3 b4 h1166 n0 X1165.ge0 A1147) (by decide) 0 rfl (by decide) rfl (lenOf pd_2 rfl) rfl rfl (by decide) (by decide) fun v1171 T1168 h1170 X1169 Q1172 => ?_
      obtain ⟨bt, rfl, Kt, szt, get, At⟩ := Q1172
      have A1147 := A1147.keep Kt nin0
      show own_Go p e below _ (T1168.setTop (mkF m 179 #[.val (.long p0), .second, .val (.int p1), .val (.int p2), .val (.int (5 : Int32)), .val (.int mo), .val (.int mk), .val (.ref b1145), .unset] [(.ref bt)]))
      refine o_astore cx X1169 (Ls' := #[.val (.long p0), .second, .val (.int p1), .val (.int p2), .val (.int (5 : Int32)), .val (.int mo), .val (.int mk), .val (.ref b1145), .val (.ref bt)]) at_179 rfl rfl ?_
      refine o_aload cx X1169 at_181 rfl rfl ?_
      refine o_ifnullNo cx X1169 at_183 ?_
      refine o_aload cx X1169 at_186 rfl rfl ?_
      refine o_len cx X1169 (z := (5 : Int32)) at_188 At rfl ?_
      refine o_iload cx X1169 at_189 rfl ?_
      refine o_icmpNo cx X1169 at_191 (by decide) ?_
      refine o_aload cx X1169 at_194 rfl rfl ?_
      refine o_aload cx X1169 at_196 rfl rfl ?_
      refine o_iload cx X1169 at_198 rfl ?_
      refine o_iconst cx X1169 (z := (0 : Int32)) at_200 rfl ?_
      refine o_callSp cx X1169 (y' := (⟨"com/example/needlewise/needlewise/KmpPartialMatchPinLaw", "ok", "([I[BII)Z"⟩ : MethodName)) (argsL := [(.ref bt), (.ref b1145), (.int (5 : Int32)), (.int (0 : Int32))]) (st := []) at_201 (o_w hw 11 rfl) (o_w hw 12 rfl) (o_w hw 3 rfl) (o_w hw 13 rfl) (by decide) (rok_5_0 l Z a0 hw bt b1145 [(.int (own_b1 b0)), (.int (own_b2 b0 b1)), (.int (own_b3 b0 b1 b2)), (.int (own_b4 b0 b1 b2 b3)), (.int (own_b5 b0 b1 b2 b3 b4))] [(.int b0), (.int b1), (.int b2), (.int b3), (.int b4)] b0 h1170 n0 X1169.ge0 A1147 rfl At rfl) (by decide) 0 rfl (by decide) rfl (lenOf pd_3 rfl) rfl rfl (by decide) (by decide) fun T1173 X1174 => ?_
      show own_Go p e below _ (T1173.setTop (mkF m 204 #[.val (.long p0), .second, .val (.int p1), .val (.int p2), .val (.int (5 : Int32)), .val (.int mo), .val (.int mk), .val (.ref b1145), .val (.ref bt)] [(.int (1 : Int32))]))
      refine o_ifNo cx X1174 at_204 (by decide) ?_
      refine o_aload cx X1174 at_207 rfl rfl ?_
      refine o_aload cx X1174 at_209 rfl rfl ?_
      refine o_iload cx X1174 at_211 rfl ?_
      refine o_iconst cx X1174 (z := (1 : Int32)) at_213 rfl ?_
      refine o_callSp cx X1174 (y' := (⟨"com/example/needlewise/needlewise/KmpPartialMatchPinLaw", "ok", "([I[BII)Z"⟩ : MethodName)) (argsL := [(.ref bt), (.ref b1145), (.int (5 : Int32)), (.int (1 : Int32))]) (st := []) at_214 (o_w hw 11 rfl) (o_w hw 12 rfl) (o_w hw 3 rfl) (o_w hw 13 rfl) (by decide) (rok_5_1 l Z a0 hw bt b1145 [(.int (own_b1 b0)), (.int (own_b2 b0 b1)), (.int (own_b3 b0 b1 b2)), (.int (own_b4 b0 b1 b2 b3)), (.int (own_b5 b0 b1 b2 b3 b4))] [(.int b0), (.int b1), (.int b2), (.int b3), (.int b4)] b0 b1 h1170 n0 X1174.ge0 A1147 rfl rfl At rfl) (by decide) 0 rfl (by decide) rfl (lenOf pd_3 rfl) rfl rfl (by decide) (by decide) fun T1178 X1179 => ?_
      show own_Go p e below _ (T1178.setTop (mkF m 217 #[.val (.long p0), .second, .val (.int p1), .val (.int p2), .val (.int (5 : Int32)), .val (.int mo), .val (.int mk), .val (.ref b1145), .val (.ref bt)] [(.int (1 : Int32))]))
      refine o_ifNo cx X1179 at_217 (by decide) ?_
      refine o_aload cx X1179 at_220 rfl rfl ?_
      refine o_aload cx X1179 at_222 rfl rfl ?_
      refine o_iload cx X1179 at_224 rfl ?_
      refine o_iconst cx X1179 (z := (2 : Int32)) at_226 rfl ?_
      refine o_callSp cx X1179 (y' := (⟨"com/example/needlewise/needlewise/KmpPartialMatchPinLaw", "ok", "([I[BII)Z"⟩ : MethodName)) (argsL := [(.ref bt), (.ref b1145), (.int (5 : Int32)), (.int (2 : Int32))]) (st := []) at_227 (o_w hw 11 rfl) (o_w hw 12 rfl) (o_w hw 3 rfl) (o_w hw 13 rfl) (by decide) (rok_5_2 l Z a0 hw bt b1145 [(.int (own_b1 b0)), (.int (own_b2 b0 b1)), (.int (own_b3 b0 b1 b2)), (.int (own_b4 b0 b1 b2 b3)), (.int (own_b5 b0 b1 b2 b3 b4))] [(.int b0), (.int b1), (.int b2), (.int b3), (.int b4)] b0 b1 b2 h1170 n0 X1179.ge0 A1147 rfl rfl rfl At rfl) (by decide) 0 rfl (by decide) rfl (lenOf pd_3 rfl) rfl rfl (by decide) (by decide) fun T1183 X1184 => ?_
      show own_Go p e below _ (T1183.setTop (mkF m 230 #[.val (.long p0), .second, .val (.int p1), .val (.int p2), .val (.int (5 : Int32)), .val (.int mo), .val (.int mk), .val (.ref b1145), .val (.ref bt)] [(.int (1 : Int32))]))
      refine o_ifNo cx X1184 at_230 (by decide) ?_
      refine o_aload cx X1184 at_233 rfl rfl ?_
      refine o_aload cx X1184 at_235 rfl rfl ?_
      refine o_iload cx X1184 at_237 rfl ?_
      refine o_iconst cx X1184 (z := (3 : Int32)) at_239 rfl ?_
      refine o_callSp cx X1184 (y' := (⟨"com/example/needlewise/needlewise/KmpPartialMatchPinLaw", "ok", "([I[BII)Z"⟩ : MethodName)) (argsL := [(.ref bt), (.ref b1145), (.int (5 : Int32)), (.int (3 : Int32))]) (st := []) at_240 (o_w hw 11 rfl) (o_w hw 12 rfl) (o_w hw 3 rfl) (o_w hw 13 rfl) (by decide) (rok_5_3 l Z a0 hw bt b1145 [(.int (own_b1 b0)), (.int (own_b2 b0 b1)), (.int (own_b3 b0 b1 b2)), (.int (own_b4 b0 b1 b2 b3)), (.int (own_b5 b0 b1 b2 b3 b4))] [(.int b0), (.int b1), (.int b2), (.int b3), (.int b4)] b0 b1 b2 b3 h1170 n0 X1184.ge0 A1147 rfl rfl rfl rfl At rfl) (by decide) 0 rfl (by decide) rfl (lenOf pd_3 rfl) rfl rfl (by decide) (by decide) fun T1188 X1189 => ?_
      show own_Go p e below _ (T1188.setTop (mkF m 243 #[.val (.long p0), .second, .val (.int p1), .val (.int p2), .val (.int (5 : Int32)), .val (.int mo), .val (.int mk), .val (.ref b1145), .val (.ref bt)] [(.int (1 : Int32))]))
      refine o_ifNo cx X1189 at_243 (by decide) ?_
      refine o_aload cx X1189 at_246 rfl rfl ?_
      refine o_aload cx X1189 at_248 rfl rfl ?_
      refine o_iload cx X1189 at_250 rfl ?_
      refine o_iconst cx X1189 (z := (4 : Int32)) at_252 rfl ?_
      refine o_callSp cx X1189 (y' := (⟨"com/example/needlewise/needlewise/KmpPartialMatchPinLaw", "ok", "([I[BII)Z"⟩ : MethodName)) (argsL := [(.ref bt), (.ref b1145), (.int (5 : Int32)), (.int (4 : Int32))]) (st := []) at_253 (o_w hw 11 rfl) (o_w hw 12 rfl) (o_w hw 3 rfl) (o_w hw 13 rfl) (by decide) (rok_5_4 l Z a0 hw bt b1145 [(.int (own_b1 b0)), (.int (own_b2 b0 b1)), (.int (own_b3 b0 b1 b2)), (.int (own_b4 b0 b1 b2 b3)), (.int (own_b5 b0 b1 b2 b3 b4))] [(.int b0), (.int b1), (.int b2), (.int b3), (.int b4)] b0 b1 b2 b3 b4 h1170 n0 X1189.ge0 A1147 rfl rfl rfl rfl rfl At rfl) (by decide) 0 rfl (by decide) rfl (lenOf pd_3 rfl) rfl rfl (by decide) (by decide) fun T1193 X1194 => ?_
      show own_Go p e below _ (T1193.setTop (mkF m 256 #[.val (.long p0), .second, .val (.int p1), .val (.int p2), .val (.int (5 : Int32)), .val (.int mo), .val (.int mk), .val (.ref b1145), .val (.ref bt)] [(.int (1 : Int32))]))
      refine o_ifNo cx X1194 at_256 (by decide) ?_
      refine o_aload cx X1194 at_259 rfl rfl ?_
      refine o_aload cx X1194 at_261 rfl rfl ?_
      refine o_iload cx X1194 at_263 rfl ?_
      refine o_iconst cx X1194 (z := (5 : Int32)) at_265 rfl ?_
      refine o_callSp cx X1194 (y' := (⟨"com/example/needlewise/needlewise/KmpPartialMatchPinLaw", "ok", "([I[BII)Z"⟩ : MethodName)) (argsL := [(.ref bt), (.ref b1145), (.int (5 : Int32)), (.int (5 : Int32))]) (st := []) at_266 (o_w hw 11 rfl) (o_w hw 12 rfl) (o_w hw 3 rfl) (o_w hw 13 rfl) (by decide) (rok_5_5 l Z a0 hw bt b1145 h1170 n0 X1194.ge0) (by decide) 0 rfl (by decide) rfl (lenOf pd_3 rfl) rfl rfl (by decide) (by decide) fun T1198 X1199 => ?_
      show own_Go p e below _ (T1198.setTop (mkF m 269 #[.val (.long p0), .second, .val (.int p1), .val (.int p2), .val (.int (5 : Int32)), .val (.int mo), .val (.int mk), .val (.ref b1145), .val (.ref bt)] [(.int (1 : Int32))]))
      refine o_ifNo cx X1199 at_269 (by decide) ?_
      refine o_iconst cx X1199 (z := (1 : Int32)) at_272 rfl ?_
      refine o_goto cx X1199 277 at_273 (by decide) (by decide) ?_
      exact o_retN cx X1199 (z' := (1 : Int32)) at_277 (by simp) rfl rfl (by decide) (by decide)
    refine o_iloadN cx X0 at_11 rfl ?_
    refine o_iconst cx X0 (z := (3 : Int32)) at_12 rfl ?_
    refine o_iand cx X0 at_13 rfl ?_
    refine o_istore cx X0 (Ls' := #[.val (.long p0), .second, .val (.int p1), .val (.int p2), .val (.int (5 : Int32)), .val (.int (p2 &&& (3 : Int32))), .unset, .unset, .unset]) at_14 rfl ?_
    refine o_iload cx X0 at_16 rfl ?_
    by_cases hc1203 : (p2 &&& (3 : Int32)) = (0 : Int32)
    · refine o_ifNo cx X0 at_18 ((if0 _ _).trans (teq hc1203).2) ?_
      refine o_iconst cx X0 (z := (1 : Int32)) at_21 rfl ?_
      refine o_goto cx X0 49 at_22 (by decide) (by decide) ?_
      refine o_istore cx X0 (Ls' := #[.val (.long p0), .second, .val (.int p1), .val (.int p2), .val (.int (5 : Int32)), .val (.int (p2 &&& (3 : Int32))), .val (.int (1 : Int32)), .unset, .unset]) at_49 rfl ?_
      exact J51 _ _
    · refine o_ifYes cx X0 25 at_18 ((if0 _ _).trans (feq hc1203).2) (by decide) (by decide) ?_
      refine o_iload cx X0 at_25 rfl ?_
      refine o_iconst cx X0 (z := (1 : Int32)) at_27 rfl ?_
      by_cases hc1204 : (p2 &&& (3 : Int32)) = (1 : Int32)
      · refine o_icmpNo cx X0 at_28 (teq hc1204).2 ?_
        refine o_iconst cx X0 (z := (3 : Int32)) at_31 rfl ?_
        refine o_goto cx X0 49 at_32 (by decide) (by decide) ?_
        refine o_istore cx X0 (Ls' := #[.val (.long p0), .second, .val (.int p1), .val (.int p2), .val (.int (5 : Int32)), .val (.int (p2 &&& (3 : Int32))), .val (.int (3 : Int32)), .unset, .unset]) at_49 rfl ?_
        exact J51 _ _
      · refine o_icmpYes cx X0 35 at_28 (feq hc1204).2 (by decide) (by decide) ?_
        refine o_iload cx X0 at_35 rfl ?_
        refine o_iconst cx X0 (z := (2 : Int32)) at_37 rfl ?_
        by_cases hc1205 : (p2 &&& (3 : Int32)) = (2 : Int32)
        · refine o_icmpNo cx X0 at_38 (teq hc1205).2 ?_
          refine o_bipush cx X0 (z := (7 : Int32)) at_41 rfl ?_
          refine o_goto cx X0 49 at_43 (by decide) (by decide) ?_
          refine o_istore cx X0 (Ls' := #[.val (.long p0), .second, .val (.int p1), .val (.int p2), .val (.int (5 : Int32)), .val (.int (p2 &&& (3 : Int32))), .val (.int (7 : Int32)), .unset, .unset]) at_49 rfl ?_
          exact J51 _ _
        · refine o_icmpYes cx X0 46 at_38 (feq hc1205).2 (by decide) (by decide) ?_
          refine o_sipush cx X0 (z := (255 : Int32)) at_46 rfl ?_
          refine o_istore cx X0 (Ls' := #[.val (.long p0), .second, .val (.int p1), .val (.int p2), .val (.int (5 : Int32)), .val (.int (p2 &&& (3 : Int32))), .val (.int (255 : Int32)), .unset, .unset]) at_49 rfl ?_
          exact J51 _ _
  · rw [hn]
    show own_Go p e below _ (T0.setTop (mkF m 11 #[.val (.long p0), .second, .val (.int p1), .val (.int p2), .val (.int (6 : Int32)), .unset, .unset, .unset, .unset] []))
    have J51 : ∀ (mo mk : Int32), own_Go p e below (own_End below s room_1 n0 (fun v' _ => v' = some (.int 1))) (T0.setTop (mkF m 51 #[.val (.long p0), .second, .val (.int p1), .val (.int p2), .val (.int (6 : Int32)), .val (.int mo), .val (.int mk), .unset, .unset] [])) := by
      intro mo mk
      refine o_iload cx X0 at_51 rfl ?_
      refine o_callS cx X0 (y' := (⟨"com/example/needlewise/needlewise/KmpPartialMatchPinLaw", "make", "(I)[B"⟩ : MethodName)) (argsL := [(.int (6 : Int32))]) (st := []) at_53 (o_w hw 1 rfl) (o_w hw 2 rfl) (o_w hw 3 rfl) (o_w hw 4 rfl) (by decide) (ra1_6 l Z a0 hw  h0 n0 X0.ge0 ) (by decide) 0 rfl (by decide) rfl (lenOf pd_1 rfl) rfl rfl (by decide) (by decide) fun v1209 T1206 h1208 X1207 Q1210 => ?_
      obtain ⟨b1211, rfl, K1212, sz_b1211, ge_b1211, A1213⟩ := Q1210
      show own_Go p e below _ (T1206.setTop (mkF m 56 #[.val (.long p0), .second, .val (.int p1), .val (.int p2), .val (.int (6 : Int32)), .val (.int mo), .val (.int mk), .unset, .unset] [(.ref b1211)]))
      refine o_astore cx X1207 (Ls' := #[.val (.long p0), .second, .val (.int p1), .val (.int p2), .val (.int (6 : Int32)), .val (.int mo), .val (.int mk), .val (.ref b1211), .unset]) at_56 rfl rfl ?_
      refine o_iload cx X1207 at_58 rfl ?_
      refine o_ifNo cx X1207 at_60 (by decide) ?_
      refine o_aload cx X1207 at_63 rfl rfl ?_
      refine o_iconst cx X1207 (z := (0 : Int32)) at_65 rfl ?_
      refine o_lloadN cx X1207 at_66 rfl ?_
      refine o_iload cx X1207 at_67 rfl ?_
      refine o_i2l cx X1207 at_69 rfl ?_
      refine o_land cx X1207 at_70 rfl ?_
      refine o_l2i cx X1207 at_71 rfl ?_
      refine o_i2b cx X1207 at_72 rfl ?_
      refine o_stB cx X1207 (x' := (((p0 &&& (mk.toInt64)).toInt32).toInt8.toInt32)) at_73 A1213 0 (by decide) rfl (Nat.le_of_ble_eq_true rfl) (own_i8 _) ge_b1211 fun T1214 h1216 X1215 W1217 A1213 => ?_
      have A1213 : own_Ar Z h1216 b1211 .byte [(.int (((p0 &&& (mk.toInt64)).toInt32).toInt8.toInt32)), (.int (0 : Int32)), (.int (0 : Int32)), (.int (0 : Int32)), (.int (0 : Int32)), (.int (0 : Int32))] := A1213
      refine o_iload cx X1215 at_74 rfl ?_
      refine o_iconst cx X1215 (z := (1 : Int32)) at_76 rfl ?_
      refine o_icmpNo cx X1215 at_77 (by decide) ?_
      refine o_aload cx X1215 at_80 rfl rfl ?_
      refine o_iconst cx X1215 (z := (1 : Int32)) at_82 rfl ?_
      refine o_lloadN cx X1215 at_83 rfl ?_
      refine o_bipush cx X1215 (z := (8 : Int32)) at_84 rfl ?_
      refine o_lushr cx X1215 at_86 rfl ?_
      refine o_iload cx X1215 at_87 rfl ?_
      refine o_i2l cx X1215 at_89 rfl ?_
      refine o_land cx X1215 at_90 rfl ?_
      refine o_l2i cx X1215 at_91 rfl ?_
      refine o_i2b cx X1215 at_92 rfl ?_
      refine o_stB cx X1215 (x' := (((((p0.toUInt64 >>> ((8 : Int32) &&& 0x3f).toInt64.toUInt64).toInt64) &&& (mk.toInt64)).toInt32).toInt8.toInt32)) at_93 A1213 1 (by decide) rfl (Nat.le_of_ble_eq_true rfl) (own_i8 _) ge_b1211 fun T1218 h1220 X1219 W1221 A1213 => ?_
      have A1213 : own_Ar Z h1220 b1211 .byte [(.int (((p0 &&& (mk.toInt64)).toInt32).toInt8.toInt32)), (.int (((((p0.toUInt64 >>> ((8 : Int32) &&& 0x3f).toInt64.toUInt64).toInt64) &&& (mk.toInt64)).toInt32).toInt8.toInt32)), (.int (0 : Int32)), (.int (0 : Int32)), (.int (0 : Int32)), (.int (0 : Int32))] := A1213
      refine o_iload cx X1219 at_94 rfl ?_
      refine o_iconst cx X1219 (z := (2 : Int32)) at_96 rfl ?_
      refine o_icmpNo cx X1219 at_97 (by decide) ?_
      refine o_aload cx X1219 at_100 rfl rfl ?_
      refine o_iconst cx X1219 (z := (2 : Int32)) at_102 rfl ?_
      refine o_lloadN cx X1219 at_103 rfl ?_
      refine o_bipush cx X1219 (z := (16 : Int32)) at_104 rfl ?_
      refine o_lushr cx X1219 at_106 rfl ?_
      refine o_iload cx X1219 at_107 rfl ?_
      refine o_i2l cx X1219 at_109 rfl ?_
      refine o_land cx X1219 at_110 rfl ?_
      refine o_l2i cx X1219 at_111 rfl ?_
      refine o_i2b cx X1219 at_112 rfl ?_
      refine o_stB cx X1219 (x' := (((((p0.toUInt64 >>> ((16 : Int32) &&& 0x3f).toInt64.toUInt64).toInt64) &&& (mk.toInt64)).toInt32).toInt8.toInt32)) at_113 A1213 2 (by decide) rfl (Nat.le_of_ble_eq_true rfl) (own_i8 _) ge_b1211 fun T1222 h1224 X1223 W1225 A1213 => ?_
      have A1213 : own_Ar Z h1224 b1211 .byte [(.int (((p0 &&& (mk.toInt64)).toInt32).toInt8.toInt32)), (.int (((((p0.toUInt64 >>> ((8 : Int32) &&& 0x3f).toInt64.toUInt64).toInt64) &&& (mk.toInt64)).toInt32).toInt8.toInt32)), (.int (((((p0.toUInt64 >>> ((16 : Int32) &&& 0x3f).toInt64.toUInt64).toInt64) &&& (mk.toInt64)).toInt32).toInt8.toInt32)), (.int (0 : Int32)), (.int (0 : Int32)), (.int (0 : Int32))] := A1213
      refine o_iload cx X1223 at_114 rfl ?_
      refine o_iconst cx X1223 (z := (3 : Int32)) at_116 rfl ?_
      refine o_icmpNo cx X1223 at_117 (by decide) ?_
      refine o_aload cx X1223 at_120 rfl rfl ?_
      refine o_iconst cx X1223 (z := (3 : Int32)) at_122 rfl ?_
      refine o_lloadN cx X1223 at_123 rfl ?_
      refine o_bipush cx X1223 (z := (24 : Int32)) at_124 rfl ?_
      refine o_lushr cx X1223 at_126 rfl ?_
      refine o_iload cx X1223 at_127 rfl ?_
      refine o_i2l cx X1223 at_129 rfl ?_
      refine o_land cx X1223 at_130 rfl ?_
      refine o_l2i cx X1223 at_131 rfl ?_
      refine o_i2b cx X1223 at_132 rfl ?_
      refine o_stB cx X1223 (x' := (((((p0.toUInt64 >>> ((24 : Int32) &&& 0x3f).toInt64.toUInt64).toInt64) &&& (mk.toInt64)).toInt32).toInt8.toInt32)) at_133 A1213 3 (by decide) rfl (Nat.le_of_ble_eq_true rfl) (own_i8 _) ge_b1211 fun T1226 h1228 X1227 W1229 A1213 => ?_
      have A1213 : own_Ar Z h1228 b1211 .byte [(.int (((p0 &&& (mk.toInt64)).toInt32).toInt8.toInt32)), (.int (((((p0.toUInt64 >>> ((8 : Int32) &&& 0x3f).toInt64.toUInt64).toInt64) &&& (mk.toInt64)).toInt32).toInt8.toInt32)), (.int (((((p0.toUInt64 >>> ((16 : Int32) &&& 0x3f).toInt64.toUInt64).toInt64) &&& (mk.toInt64)).toInt32).toInt8.toInt32)), (.int (((((p0.toUInt64 >>> ((24 : Int32) &&& 0x3f).toInt64.toUInt64).toInt64) &&& (mk.toInt64)).toInt32).toInt8.toInt32)), (.int (0 : Int32)), (.int (0 : Int32))] := A1213
      refine o_iload cx X1227 at_134 rfl ?_
      refine o_iconst cx X1227 (z := (4 : Int32)) at_136 rfl ?_
      refine o_icmpNo cx X1227 at_137 (by decide) ?_
      refine o_aload cx X1227 at_140 rfl rfl ?_
      refine o_iconst cx X1227 (z := (4 : Int32)) at_142 rfl ?_
      refine o_lloadN cx X1227 at_143 rfl ?_
      refine o_bipush cx X1227 (z := (32 : Int32)) at_144 rfl ?_
      refine o_lushr cx X1227 at_146 rfl ?_
      refine o_iload cx X1227 at_147 rfl ?_
      refine o_i2l cx X1227 at_149 rfl ?_
      refine o_land cx X1227 at_150 rfl ?_
      refine o_l2i cx X1227 at_151 rfl ?_
      refine o_i2b cx X1227 at_152 rfl ?_
      refine o_stB cx X1227 (x' := (((((p0.toUInt64 >>> ((32 : Int32) &&& 0x3f).toInt64.toUInt64).toInt64) &&& (mk.toInt64)).toInt32).toInt8.toInt32)) at_153 A1213 4 (by decide) rfl (Nat.le_of_ble_eq_true rfl) (own_i8 _) ge_b1211 fun T1230 h1232 X1231 W1233 A1213 => ?_
      have A1213 : own_Ar Z h1232 b1211 .byte [(.int (((p0 &&& (mk.toInt64)).toInt32).toInt8.toInt32)), (.int (((((p0.toUInt64 >>> ((8 : Int32) &&& 0x3f).toInt64.toUInt64).toInt64) &&& (mk.toInt64)).toInt32).toInt8.toInt32)), (.int (((((p0.toUInt64 >>> ((16 : Int32) &&& 0x3f).toInt64.toUInt64).toInt64) &&& (mk.toInt64)).toInt32).toInt8.toInt32)), (.int (((((p0.toUInt64 >>> ((24 : Int32) &&& 0x3f).toInt64.toUInt64).toInt64) &&& (mk.toInt64)).toInt32).toInt8.toInt32)), (.int (((((p0.toUInt64 >>> ((32 : Int32) &&& 0x3f).toInt64.toUInt64).toInt64) &&& (mk.toInt64)).toInt32).toInt8.toInt32)), (.int (0 : Int32))] := A1213
      refine o_iload cx X1231 at_154 rfl ?_
      refine o_iconst cx X1231 (z := (5 : Int32)) at_156 rfl ?_
      refine o_icmpNo cx X1231 at_157 (by decide) ?_
      refine o_aload cx X1231 at_160 rfl rfl ?_
      refine o_iconst cx X1231 (z := (5 : Int32)) at_162 rfl ?_
      refine o_lloadN cx X1231 at_163 rfl ?_
      refine o_bipush cx X1231 (z := (40 : Int32)) at_164 rfl ?_
      refine o_lushr cx X1231 at_166 rfl ?_
      refine o_iload cx X1231 at_167 rfl ?_
      refine o_i2l cx X1231 at_169 rfl ?_
      refine o_land cx X1231 at_170 rfl ?_
      refine o_l2i cx X1231 at_171 rfl ?_
      refine o_i2b cx X1231 at_172 rfl ?_
      refine o_stB cx X1231 (x' := (((((p0.toUInt64 >>> ((40 : Int32) &&& 0x3f).toInt64.toUInt64).toInt64) &&& (mk.toInt64)).toInt32).toInt8.toInt32)) at_173 A1213 5 (by decide) rfl (Nat.le_of_ble_eq_true rfl) (own_i8 _) ge_b1211 fun T1234 h1236 X1235 W1237 A1213 => ?_
      have A1213 : own_Ar Z h1236 b1211 .byte [(.int (((p0 &&& (mk.toInt64)).toInt32).toInt8.toInt32)), (.int (((((p0.toUInt64 >>> ((8 : Int32) &&& 0x3f).toInt64.toUInt64).toInt64) &&& (mk.toInt64)).toInt32).toInt8.toInt32)), (.int (((((p0.toUInt64 >>> ((16 : Int32) &&& 0x3f).toInt64.toUInt64).toInt64) &&& (mk.toInt64)).toInt32).toInt8.toInt32)), (.int (((((p0.toUInt64 >>> ((24 : Int32) &&& 0x3f).toInt64.toUInt64).toInt64) &&& (mk.toInt64)).toInt32).toInt8.toInt32)), (.int (((((p0.toUInt64 >>> ((32 : Int32) &&& 0x3f).toInt64.toUInt64).toInt64) &&& (mk.toInt64)).toInt32).toInt8.toInt32)), (.int (((((p0.toUInt64 >>> ((40 : Int32) &&& 0x3f).toInt64.toUInt64).toInt64) &&& (mk.toInt64)).toInt32).toInt8.toInt32))] := A1213
      obtain ⟨b0, eb0⟩ : ∃ z : Int32, z = (((p0 &&& (mk.toInt64)).toInt32).toInt8.toInt32) := ⟨_, rfl⟩
      rw [← eb0] at A1213
      obtain ⟨b1, eb1⟩ : ∃ z : Int32, z = (((((p0.toUInt64 >>> ((8 : Int32) &&& 0x3f).toInt64.toUInt64).toInt64) &&& (mk.toInt64)).toInt32).toInt8.toInt32) := ⟨_, rfl⟩
      rw [← eb1] at A1213
      obtain ⟨b2, eb2⟩ : ∃ z : Int32, z = (((((p0.toUInt64 >>> ((16 : Int32) &&& 0x3f).toInt64.toUInt64).toInt64) &&& (mk.toInt64)).toInt32).toInt8.toInt32) := ⟨_, rfl⟩
      rw [← eb2] at A1213
      obtain ⟨b3, eb3⟩ : ∃ z : Int32, z = (((((p0.toUInt64 >>> ((24 : Int32) &&& 0x3f).toInt64.toUInt64).toInt64) &&& (mk.toInt64)).toInt32).toInt8.toInt32) := ⟨_, rfl⟩
      rw [← eb3] at A1213
      obtain ⟨b4, eb4⟩ : ∃ z : Int32, z = (((((p0.toUInt64 >>> ((32 : Int32) &&& 0x3f).toInt64.toUInt64).toInt64) &&& (mk.toInt64)).toInt32).toInt8.toInt32) := ⟨_, rfl⟩
      rw [← eb4] at A1213
      obtain ⟨b5, eb5⟩ : ∃ z : Int32, z = (((((p0.toUInt64 >>> ((40 : Int32) &&& 0x3f).toInt64.toUInt64).toInt64) &&& (mk.toInt64)).toInt32).toInt8.toInt32) := ⟨_, rfl⟩
      rw [← eb5] at A1213
      refine o_aload cx X1235 at_174 rfl rfl ?_
      refine o_callS cx X1235 (y' := (⟨"com/example/needlewise/needlewise/Kmp", "partialMatch", "([B)[I"⟩ : MethodName)) (argsL := [(.ref b1211)]) (st := []) at_176 (o_w hw 6 rfl) (o_w hw 7 rfl) (o_w hw 8 rfl) (o_w hw 9 rfl) (by decide) (rpm_6 l Z a0 hw b1211 b0 b1 b2 b3 b4 b5 h1236 n0 X1235.ge0 A1213) (by decide) 0 rfl (by decide) rfl (lenOf pd_2 rfl) rfl rfl (by decide) (by decide) fun v1241 T1238 h1240 X1239 Q1242 => ?_
      obtain ⟨bt, rfl, Kt, szt, get, At⟩ := Q1242
      have A1213 := A1213.keep Kt nin0
      show own_Go p e below _ (T1238.setTop (mkF m 179 #[.val (.long p0), .second, .val (.int p1), .val (.int p2), .val (.int (6 : Int32)), .val (.int mo), .val (.int mk), .val (.ref b1211), .unset] [(.ref bt)]))
      refine o_astore cx X1239 (Ls' := #[.val (.long p0), .second, .val (.int p1), .val (.int p2), .val (.int (6 : Int32)), .val (.int mo), .val (.int mk), .val (.ref b1211), .val (.ref bt)]) at_179 rfl rfl ?_
      refine o_aload cx X1239 at_181 rfl rfl ?_
      refine o_ifnullNo cx X1239 at_183 ?_
      refine o_aload cx X1239 at_186 rfl rfl ?_
      refine o_len cx X1239 (z := (6 : Int32)) at_188 At rfl ?_
      refine o_iload cx X1239 at_189 rfl ?_
      refine o_icmpNo cx X1239 at_191 (by decide) ?_
      refine o_aload cx X1239 at_194 rfl rfl ?_
      refine o_aload cx X1239 at_196 rfl rfl ?_
      refine o_iload cx X1239 at_198 rfl ?_
      refine o_iconst cx X1239 (z := (0 : Int32)) at_200 rfl ?_
      refine o_callSp cx X1239 (y' := (⟨"com/example/needlewise/needlewise/KmpPartialMatchPinLaw", "ok", "([I[BII)Z"⟩ : MethodName)) (argsL := [(.ref bt), (.ref b1211), (.int (6 : Int32)), (.int (0 : Int32))]) (st := []) at_201 (o_w hw 11 rfl) (o_w hw 12 rfl) (o_w hw 3 rfl) (o_w hw 13 rfl) (by decide) (rok_6_0 l Z a0 hw bt b1211 [(.int (own_b1 b0)), (.int (own_b2 b0 b1)), (.int (own_b3 b0 b1 b2)), (.int (own_b4 b0 b1 b2 b3)), (.int (own_b5 b0 b1 b2 b3 b4)), (.int (own_b6 b0 b1 b2 b3 b4 b5))] [(.int b0), (.int b1), (.int b2), (.int b3), (.int b4), (.int b5)] b0 h1240 n0 X1239.ge0 A1213 rfl At rfl) (by decide) 0 rfl (by decide) rfl (lenOf pd_3 rfl) rfl rfl (by decide) (by decide) fun T1243 X1244 => ?_
      show own_Go p e below _ (T1243.setTop (mkF m 204 #[.val (.long p0), .second, .val (.int p1), .val (.int p2), .val (.int (6 : Int32)), .val (.int mo), .val (.int mk), .val (.ref b1211), .val (.ref bt)] [(.int (1 : Int32))]))
      refine o_ifNo cx X1244 at_204 (by decide) ?_
      refine o_aload cx X1244 at_207 rfl rfl ?_
      refine o_aload cx X1244 at_209 rfl rfl ?_
      refine o_iload cx X1244 at_211 rfl ?_
      refine o_iconst cx X1244 (z := (1 : Int32)) at_213 rfl ?_
      refine o_callSp cx X1244 (y' := (⟨"com/example/needlewise/needlewise/KmpPartialMatchPinLaw", "ok", "([I[BII)Z"⟩ : MethodName)) (argsL := [(.ref bt), (.ref b1211), (.int (6 : Int32)), (.int (1 : Int32))]) (st := []) at_214 (o_w hw 11 rfl) (o_w hw 12 rfl) (o_w hw 3 rfl) (o_w hw 13 rfl) (by decide) (rok_6_1 l Z a0 hw bt b1211 [(.int (own_b1 b0)), (.int (own_b2 b0 b1)), (.int (own_b3 b0 b1 b2)), (.int (own_b4 b0 b1 b2 b3)), (.int (own_b5 b0 b1 b2 b3 b4)), (.int (own_b6 b0 b1 b2 b3 b4 b5))] [(.int b0), (.int b1), (.int b2), (.int b3), (.int b4), (.int b5)] b0 b1 h1240 n0 X1244.ge0 A1213 rfl rfl At rfl) (by decide) 0 rfl (by decide) rfl (lenOf pd_3 rfl) rfl rfl (by decide) (by decide) fun T1248 X1249 => ?_
      show own_Go p e below _ (T1248.setTop (mkF m 217 #[.val (.long p0), .second, .val (.int p1), .val (.int p2), .val (.int (6 : Int32)), .val (.int mo), .val (.int mk), .val (.ref b1211), .val (.ref bt)] [(.int (1 : Int32))]))
      refine o_ifNo cx X1249 at_217 (by decide) ?_
      refine o_aload cx X1249 at_220 rfl rfl ?_
      refine o_aload cx X1249 at_222 rfl rfl ?_
      refine o_iload cx X1249 at_224 rfl ?_
      refine o_iconst cx X1249 (z := (2 : Int32)) at_226 rfl ?_
      refine o_callSp cx X1249 (y' := (⟨"com/example/needlewise/needlewise/KmpPartialMatchPinLaw", "ok", "([I[BII)Z"⟩ : MethodName)) (argsL := [(.ref bt), (.ref b1211), (.int (6 : Int32)), (.int (2 : Int32))]) (st := []) at_227 (o_w hw 11 rfl) (o_w hw 12 rfl) (o_w hw 3 rfl) (o_w hw 13 rfl) (by decide) (rok_6_2 l Z a0 hw bt b1211 [(.int (own_b1 b0)), (.int (own_b2 b0 b1)), (.int (own_b3 b0 b1 b2)), (.int (own_b4 b0 b1 b2 b3)), (.int (own_b5 b0 b1 b2 b3 b4)), (.int (own_b6 b0 b1 b2 b3 b4 b5))] [(.int b0), (.int b1), (.int b2), (.int b3), (.int b4), (.int b5)] b0 b1 b2 h1240 n0 X1249.ge0 A1213 rfl rfl rfl At rfl) (by decide) 0 rfl (by decide) rfl (lenOf pd_3 rfl) rfl rfl (by decide) (by decide) fun T1253 X1254 => ?_
      show own_Go p e below _ (T1253.setTop (mkF m 230 #[.val (.long p0), .second, .val (.int p1), .val (.int p2), .val (.int (6 : Int32)), .val (.int mo), .val (.int mk), .val (.ref b1211), .val (.ref bt)] [(.int (1 : Int32))]))
      refine o_ifNo cx X1254 at_230 (by decide) ?_
      refine o_aload cx X1254 at_233 rfl rfl ?_
      refine o_aload cx X1254 at_235 rfl rfl ?_
      refine o_iload cx X1254 at_237 rfl ?_
      refine o_iconst cx X1254 (z := (3 : Int32)) at_239 rfl ?_
      refine o_callSp cx X1254 (y' := (⟨"com/example/needlewise/needlewise/KmpPartialMatchPinLaw", "ok", "([I[BII)Z"⟩ : MethodName)) (argsL := [(.ref bt), (.ref b1211), (.int (6 : Int32)), (.int (3 : Int32))]) (st := []) at_240 (o_w hw 11 rfl) (o_w hw 12 rfl) (o_w hw 3 rfl) (o_w hw 13 rfl) (by decide) (rok_6_3 l Z a0 hw bt b1211 [(.int (own_b1 b0)), (.int (own_b2 b0 b1)), (.int (own_b3 b0 b1 b2)), (.int (own_b4 b0 b1 b2 b3)), (.int (own_b5 b0 b1 b2 b3 b4)), (.int (own_b6 b0 b1 b2 b3 b4 b5))] [(.int b0), (.int b1), (.int b2), (.int b3), (.int b4), (.int b5)] b0 b1 b2 b3 h1240 n0 X1254.ge0 A1213 rfl rfl rfl rfl At rfl) (by decide) 0 rfl (by decide) rfl (lenOf pd_3 rfl) rfl rfl (by decide) (by decide) fun T1258 X1259 => ?_
      show own_Go p e below _ (T1258.setTop (mkF m 243 #[.val (.long p0), .second, .val (.int p1), .val (.int p2), .val (.int (6 : Int32)), .val (.int mo), .val (.int mk), .val (.ref b1211), .val (.ref bt)] [(.int (1 : Int32))]))
      refine o_ifNo cx X1259 at_243 (by decide) ?_
      refine o_aload cx X1259 at_246 rfl rfl ?_
      refine o_aload cx X1259 at_248 rfl rfl ?_
      refine o_iload cx X1259 at_250 rfl ?_
      refine o_iconst cx X1259 (z := (4 : Int32)) at_252 rfl ?_
      refine o_callSp cx X1259 (y' := (⟨"com/example/needlewise/needlewise/KmpPartialMatchPinLaw", "ok", "([I[BII)Z"⟩ : MethodName)) (argsL := [(.ref bt), (.ref b1211), (.int (6 : Int32)), (.int (4 : Int32))]) (st := []) at_253 (o_w hw 11 rfl) (o_w hw 12 rfl) (o_w hw 3 rfl) (o_w hw 13 rfl) (by decide) (rok_6_4 l Z a0 hw bt b1211 [(.int (own_b1 b0)), (.int (own_b2 b0 b1)), (.int (own_b3 b0 b1 b2)), (.int (own_b4 b0 b1 b2 b3)), (.int (own_b5 b0 b1 b2 b3 b4)), (.int (own_b6 b0 b1 b2 b3 b4 b5))] [(.int b0), (.int b1), (.int b2), (.int b3), (.int b4), (.int b5)] b0 b1 b2 b3 b4 h1240 n0 X1259.ge0 A1213 rfl rfl rfl rfl rfl At rfl) (by decide) 0 rfl (by decide) rfl (lenOf pd_3 rfl) rfl rfl (by decide) (by decide) fun T1263 X1264 => ?_
      show own_Go p e below _ (T1263.setTop (mkF m 256 #[.val (.long p0), .second, .val (.int p1), .val (.int p2), .val (.int (6 : Int32)), .val (.int mo), .val (.int mk), .val (.ref b1211), .val (.ref bt)] [(.int (1 : Int32))]))
      refine o_ifNo cx X1264 at_256 (by decide) ?_
      refine o_aload cx X1264 at_259 rfl rfl ?_
      refine o_aload cx X1264 at_261 rfl rfl ?_
      refine o_iload cx X1264 at_263 rfl ?_
      refine o_iconst cx X1264 (z := (5 : Int32)) at_265 rfl ?_
      refine o_callSp cx X1264 (y' := (⟨"com/example/needlewise/needlewise/KmpPartialMatchPinLaw", "ok", "([I[BII)Z"⟩ : MethodName)) (argsL := [(.ref bt), (.ref b1211), (.int (6 : Int32)), (.int (5 : Int32))]) (st := []) at_266 (o_w hw 11 rfl) (o_w hw 12 rfl) (o_w hw 3 rfl) (o_w hw 13 rfl) (by decide) (rok_6_5 l Z a0 hw bt b1211 [(.int (own_b1 b0)), (.int (own_b2 b0 b1)), (.int (own_b3 b0 b1 b2)), (.int (own_b4 b0 b1 b2 b3)), (.int (own_b5 b0 b1 b2 b3 b4)), (.int (own_b6 b0 b1 b2 b3 b4 b5))] [(.int b0), (.int b1), (.int b2), (.int b3), (.int b4), (.int b5)] b0 b1 b2 b3 b4 b5 h1240 n0 X1264.ge0 A1213 rfl rfl rfl rfl rfl rfl At rfl) (by decide) 0 rfl (by decide) rfl (lenOf pd_3 rfl) rfl rfl (by decide) (by decide) fun T1268 X1269 => ?_
      show own_Go p e below _ (T1268.setTop (mkF m 269 #[.val (.long p0), .second, .val (.int p1), .val (.int p2), .val (.int (6 : Int32)), .val (.int mo), .val (.int mk), .val (.ref b1211), .val (.ref bt)] [(.int (1 : Int32))]))
      refine o_ifNo cx X1269 at_269 (by decide) ?_
      refine o_iconst cx X1269 (z := (1 : Int32)) at_272 rfl ?_
      refine o_goto cx X1269 277 at_273 (by decide) (by decide) ?_
      exact o_retN cx X1269 (z' := (1 : Int32)) at_277 (by simp) rfl rfl (by decide) (by decide)
    refine o_iloadN cx X0 at_11 rfl ?_
    refine o_iconst cx X0 (z := (3 : Int32)) at_12 rfl ?_
    refine o_iand cx X0 at_13 rfl ?_
    refine o_istore cx X0 (Ls' := #[.val (.long p0), .second, .val (.int p1), .val (.int p2), .val (.int (6 : Int32)), .val (.int (p2 &&& (3 : Int32))), .unset, .unset, .unset]) at_14 rfl ?_
    refine o_iload cx X0 at_16 rfl ?_
    by_cases hc1273 : (p2 &&& (3 : Int32)) = (0 : Int32)
    · refine o_ifNo cx X0 at_18 ((if0 _ _).trans (teq hc1273).2) ?_
      refine o_iconst cx X0 (z := (1 : Int32)) at_21 rfl ?_
      refine o_goto cx X0 49 at_22 (by decide) (by decide) ?_
      refine o_istore cx X0 (Ls' := #[.val (.long p0), .second, .val (.int p1), .val (.int p2), .val (.int (6 : Int32)), .val (.int (p2 &&& (3 : Int32))), .val (.int (1 : Int32)), .unset, .unset]) at_49 rfl ?_
      exact J51 _ _
    · refine o_ifYes cx X0 25 at_18 ((if0 _ _).trans (feq hc1273).2) (by decide) (by decide) ?_
      refine o_iload cx X0 at_25 rfl ?_
      refine o_iconst cx X0 (z := (1 : Int32)) at_27 rfl ?_
      by_cases hc1274 : (p2 &&& (3 : Int32)) = (1 : Int32)
      · refine o_icmpNo cx X0 at_28 (teq hc1274).2 ?_
        refine o_iconst cx X0 (z := (3 : Int32)) at_31 rfl ?_
        refine o_goto cx X0 49 at_32 (by decide) (by decide) ?_
        refine o_istore cx X0 (Ls' := #[.val (.long p0), .second, .val (.int p1), .val (.int p2), .val (.int (6 : Int32)), .val (.int (p2 &&& (3 : Int32))), .val (.int (3 : Int32)), .unset, .unset]) at_49 rfl ?_
        exact J51 _ _
      · refine o_icmpYes cx X0 35 at_28 (feq hc1274).2 (by decide) (by decide) ?_
        refine o_iload cx X0 at_35 rfl ?_
        refine o_iconst cx X0 (z := (2 : Int32)) at_37 rfl ?_
        by_cases hc1275 : (p2 &&& (3 : Int32)) = (2 : Int32)
        · refine o_icmpNo cx X0 at_38 (teq hc1275).2 ?_
          refine o_bipush cx X0 (z := (7 : Int32)) at_41 rfl ?_
          refine o_goto cx X0 49 at_43 (by decide) (by decide) ?_
          refine o_istore cx X0 (Ls' := #[.val (.long p0), .second, .val (.int p1), .val (.int p2), .val (.int (6 : Int32)), .val (.int (p2 &&& (3 : Int32))), .val (.int (7 : Int32)), .unset, .unset]) at_49 rfl ?_
          exact J51 _ _
        · refine o_icmpYes cx X0 46 at_38 (feq hc1275).2 (by decide) (by decide) ?_
          refine o_sipush cx X0 (z := (255 : Int32)) at_46 rfl ?_
          refine o_istore cx X0 (Ls' := #[.val (.long p0), .second, .val (.int p1), .val (.int p2), .val (.int (6 : Int32)), .val (.int (p2 &&& (3 : Int32))), .val (.int (255 : Int32)), .unset, .unset]) at_49 rfl ?_
          exact J51 _ _
set_option maxRecDepth 65536 in
set_option maxHeartbeats 40000000 in
theorem comes_1 {Post : Tables → Env → Array Value → State → Outcome → State → Prop} (hpost : ∀ tb e args s v u, (limb_1_1.after args s (.returned v) u = true ∧ limb_1_2.after args s (.returned v) u = true ∧ True) → FrameEnd s (.returned v) u (Jvm.fieldLocs frame_1_writes args s ++ Jvm.arrayLocs frame_1_arrays args s ++ Jvm.staticLocs frame_1_statics s) 16 128 → Post tb e args s (.returned v) u) :
    ArmFor flags0 classFile x code maxLocals ret World_1 tables_1 room_1 Calls_1 rest_1 Pre_1 Post := by
  intro l hfl _ _ p e ha hc hk s m args below hf hA hF happ hP
  obtain ⟨hcalls, hrest, hpre⟩ := hP
  obtain ⟨-, -, -, hnamed, -, -, -, hat⟩ := (Spec.applies_iff hf).mp happ
  obtain ⟨hg, hn⟩ := and_e (Cond.before_iff.mp (show (Jvm.Cond.and given_1 narrow_1).before args s = true from hpre))
  obtain ⟨q0, g0⟩ := and_e hg
  obtain ⟨q1, g1⟩ := and_e g0
  obtain ⟨q2, g2⟩ := and_e g1
  obtain ⟨w0, w1, w2, rfl⟩ : ∃ w0 w1 w2 : Value, args = #[w0, w1, w2] := by
    have hs : args.size = 3 := by simpa [Cond.value, given_1] using q0
    obtain ⟨L⟩ := args
    match L, hs with
    | [w0, w1, w2], _ => exact ⟨w0, w1, w2, rfl⟩
  have hw := fun d (hd : d ∈ tables_1) => atoms_spec (ws := Jvm.Cond.code x code maxLocals ret :: tables_1) hat d (List.mem_cons_of_mem _ hd)
  obtain ⟨i0, ei0⟩ := isL_v q1
  obtain rfl : w0 = (.long i0) := Option.some.inj ei0
  obtain ⟨i1, ei1⟩ := is_v q2
  obtain rfl : w1 = (.int i1) := Option.some.inj ei1
  obtain ⟨i2, ei2⟩ := is_v g2
  obtain rfl : w2 = (.int i2) := Option.some.inj ei2
  obtain ⟨n, o, h1, h2, h3, v, L, rfl, ⟨hv, _, N⟩, hq⟩ := rm0 l s _ hw i0 i1 i2 s.heap s.heap.size (Nat.le_refl _) tables_1 p e ha hc hk s m _ below hf ((Spec.applies_iff_loose hf).mp happ).1 ⟨rfl, State.Warmed39.refl s, rfl⟩ trivial
  obtain rfl : v = some (.int 1) := hv
  refine ⟨n, _, h1, h2, h3, hpost _ _ _ _ _ _ ⟨Cond.after_iff.mpr rfl, Cond.after_iff.mpr (eq_i res_at (Term.int_eval (1)) rfl), trivial⟩ ⟨hq.1, hq.2.1, (hq.2.2.sift fun y hy => Or.inr (N y hy)).mono (by decide) (by decide)⟩⟩
theorem main_1_1 : Claimed_1_1 := comes_1 fun _ _ _ _ _ _ h hF => ⟨h.1, hF⟩
theorem main_1_2 : Claimed_1_2 := comes_1 fun _ _ _ _ _ _ h hF => ⟨h.2.1, hF⟩
end Jvm.Pilot.@@N@@
namespace Jvm.Pilot.@@N@@
open Jvm Jvm.ClassFile Sem Op Lib Jvm.Free Jvm.Stand Jvm.Pilot.@@N@@.Jvm.D
/-! MADE BY PROGRAM (witnessworld.py) out of the Statement's table words and the real class files: 10 classes; the members and pool entries that the words name. The judged class is class 1, her method 1. -/
namespace start1
open Jvm.ClassFile
def u (s : String) : CpInfo := .utf8 (stringToUtf16 s)
/-- a pool by its gaps: so many unusable entries, then the entry; so many at the end -/
def gap : Nat → List CpInfo → List CpInfo
  | 0, r => r
  | n + 1, r => .unusable :: gap n r
def poolList (es : List (Nat × CpInfo)) (last : Nat) : List CpInfo := es.foldr (fun e r => gap e.1 (e.2 :: r)) (gap last [])
def pool (es : List (Nat × CpInfo)) (last : Nat) : Array CpInfo := ⟨poolList es last⟩
def fileOf (pool : Array CpInfo) (this : Nat) (attrs : Array Attribute := #[]) (ms : Array MethodInfo := #[]) (fl : Nat := 33) (sup : Nat := 0) (ifs : Array Nat := #[]) (fds : Array FieldInfo := #[]) : ClassFile where
  minorVersion := 0
  majorVersion := 65
  constantPool := pool
  accessFlags := fl
  thisClass := this
  superClass := sup
  interfaces := ifs
  fields := fds
  methods := ms
  attributes := attrs
def plain (name : String) (sup : Option ClassId) : Class where
  name := name
  kind := .ordinary
  loader := none
  accessFlags := 33
  super := sup
  interfaces := #[]
  cf := none
  fields := #[]
  methods := #[]
  instanceTypes := #[]
  staticTypes := #[]
  resolved := #[]
  callSites := []
  init := .initialized
  statics := none
  mirror := none

def pool0 : Array CpInfo := pool [(5, u "<init>"), (0, u "()V"), (1, .class_ 10), (1, u "java/lang/Object")] 113

def k0m0 : Method := { name := "<init>", desc := "()V", sig := { parameters := [], returnType := none }, accessFlags := 1, code := none }
/-- java/lang/Object -/
def k0 : Class := { plain "java/lang/Object" none with
  accessFlags := 33
  interfaces := #[]
  cf := some (fileOf pool0 8 #[] #[{ accessFlags := 1, nameIndex := 5, descriptorIndex := 6, attributes := #[] }] 33 0 #[] #[])
  fields := #[]
  methods := #[k0m0]
  instanceTypes := #[]
  staticTypes := #[]
  resolved := Array.replicate 124 none
  statics := none }

def pool1 : Array CpInfo := pool [(2, .class_ 4), (1, u "java/lang/Object"), (0, u "<init>"), (0, u "()V"), (0, .integer 2147483647), (0, .methodref 9 10), (0, .class_ 11), (0, .nameAndType 12 13), (0, u "com/example/needlewise/needlewise/KmpPartialMatchPinLaw"), (0, u "make"), (0, u "(I)[B"), (0, .methodref 15 16), (0, .class_ 17), (0, .nameAndType 18 19), (0, u "com/example/needlewise/needlewise/Kmp"), (0, u "partialMatch"), (0, u "([B)[I"), (0, .methodref 9 21), (0, .nameAndType 22 23), (0, u "ok"), (0, u "([I[BII)Z"), (0, .methodref 9 25), (0, .nameAndType 26 27), (0, u "border"), (0, u "([BI)I"), (0, .methodref 9 29), (0, .nameAndType 30 31), (0, u "isBorder"), (0, u "([BII)Z"), (2, u "law"), (0, u "(JII)Z")] 7

def k1m0 : Method := { name := "<init>", desc := "()V", sig := { parameters := [], returnType := none }, accessFlags := 1, code := none }
def k1c1 : Code := { maxStack := 6, maxLocals := 9, code := code, exceptionTable := #[], attributes := #[] }
def k1m1 : Method := { name := "law", desc := "(JII)Z", sig := { parameters := [.long, .int, .int], returnType := some .boolean }, accessFlags := 9, code := some k1c1 }
def k1c2 : Code := { maxStack := 2, maxLocals := 1, code := method_3_code, exceptionTable := #[], attributes := #[] }
def k1m2 : Method := { name := "make", desc := "(I)[B", sig := { parameters := [.int], returnType := some (.array .byte) }, accessFlags := 10, code := some k1c2 }
def k1c3 : Code := { maxStack := 4, maxLocals := 4, code := method_4_code, exceptionTable := #[], attributes := #[] }
def k1m3 : Method := { name := "ok", desc := "([I[BII)Z", sig := { parameters := [(.array .int), (.array .byte), .int, .int], returnType := some .boolean }, accessFlags := 10, code := some k1c3 }
def k1c4 : Code := { maxStack := 3, maxLocals := 2, code := method_5_code, exceptionTable := #[], attributes := #[] }
def k1m4 : Method := { name := "border", desc := "([BI)I", sig := { parameters := [(.array .byte), .int], returnType := some .int }, accessFlags := 10, code := some k1c4 }
def k1c5 : Code := { maxStack := 4, maxLocals := 3, code := method_6_code, exceptionTable := #[], attributes := #[] }
def k1m5 : Method := { name := "isBorder", desc := "([BII)Z", sig := { parameters := [(.array .byte), .int, .int], returnType := some .boolean }, accessFlags := 10, code := some k1c5 }
/-- com/example/needlewise/needlewise/KmpPartialMatchPinLaw -/
def k1 : Class := { plain "com/example/needlewise/needlewise/KmpPartialMatchPinLaw" (some 0) with
  accessFlags := 49
  interfaces := #[]
  cf := some (fileOf pool1 9 #[] #[{ accessFlags := 1, nameIndex := 5, descriptorIndex := 6, attributes := #[] }, { accessFlags := 9, nameIndex := 34, descriptorIndex := 35, attributes := #[] }, { accessFlags := 10, nameIndex := 12, descriptorIndex := 13, attributes := #[] }, { accessFlags := 10, nameIndex := 22, descriptorIndex := 23, attributes := #[] }, { accessFlags := 10, nameIndex := 26, descriptorIndex := 27, attributes := #[] }, { accessFlags := 10, nameIndex := 30, descriptorIndex := 31, attributes := #[] }] 49 2 #[] #[])
  fields := #[]
  methods := #[k1m0, k1m1, k1m2, k1m3, k1m4, k1m5]
  instanceTypes := #[]
  staticTypes := #[]
  resolved := Array.replicate 43 none
  statics := none }

def pool2 : Array CpInfo := pool [(1, .class_ 2), (0, u "com/example/needlewise/needlewise/Search"), (0, .class_ 4), (0, u "java/lang/Object"), (5, .class_ 11), (0, u "com/example/needlewise/needlewise/Search$Matcher")] 2

/-- com/example/needlewise/needlewise/Search -/
def k2 : Class := { plain "com/example/needlewise/needlewise/Search" (some 0) with
  accessFlags := 1536
  interfaces := #[]
  cf := some (fileOf pool2 1 #[.nestMembers #[10]] #[] 1536 3 #[] #[])
  fields := #[]
  methods := #[]
  instanceTypes := #[]
  staticTypes := #[]
  resolved := Array.replicate 14 none
  statics := none }

def pool3 : Array CpInfo := pool [(2, .class_ 4), (1, u "java/lang/Object"), (3, .class_ 10), (1, u "com/example/needlewise/needlewise/Kmp"), (0, u "pattern"), (0, u "[B"), (2, u "partialMatch"), (0, u "([B)[I"), (2, u "[I"), (0, .class_ 21), (0, u "com/example/needlewise/needlewise/Kmp$Matcher"), (7, .class_ 30), (0, u "com/example/needlewise/needlewise/Search")] 15

def k3c0 : Code := { maxStack := 3, maxLocals := 4, code := prog_12_method_2_code, exceptionTable := #[], attributes := #[] }
def k3m0 : Method := { name := "partialMatch", desc := "([B)[I", sig := { parameters := [(.array .byte)], returnType := some (.array .int) }, accessFlags := 8, code := some k3c0 }
/-- com/example/needlewise/needlewise/Kmp -/
def k3 : Class := { plain "com/example/needlewise/needlewise/Kmp" (some 0) with
  accessFlags := 48
  interfaces := #[2]
  cf := some (fileOf pool3 8 #[.nestMembers #[20]] #[{ accessFlags := 8, nameIndex := 15, descriptorIndex := 16, attributes := #[] }] 48 2 #[29] #[{ accessFlags := 18, nameIndex := 11, descriptorIndex := 12, attributes := #[] }, { accessFlags := 18, nameIndex := 15, descriptorIndex := 19, attributes := #[] }])
  fields := #[{ name := "pattern", type := (.array .byte), accessFlags := 18, slot := 0, constantValue := 0 }, { name := "partialMatch", type := (.array .int), accessFlags := 18, slot := 1, constantValue := 0 }]
  methods := #[k3m0]
  instanceTypes := #[(.array .byte), (.array .int)]
  staticTypes := #[]
  resolved := Array.replicate 46 none
  statics := none }

def pool4 : Array CpInfo := pool [(1, u "java/lang/Cloneable"), (0, .class_ 1), (0, u "java/lang/Object"), (0, .class_ 3)] 3

/-- java/lang/Cloneable -/
def k4 : Class := { plain "java/lang/Cloneable" (some 0) with
  accessFlags := 1537
  interfaces := #[]
  cf := some (fileOf pool4 2 #[] #[] 1537 4 #[] #[])
  fields := #[]
  methods := #[]
  instanceTypes := #[]
  staticTypes := #[]
  resolved := Array.replicate 8 none
  statics := none }

def pool5 : Array CpInfo := pool [(1, u "java/io/Serializable"), (0, .class_ 1), (0, u "java/lang/Object"), (0, .class_ 3)] 3

/-- java/io/Serializable -/
def k5 : Class := { plain "java/io/Serializable" (some 0) with
  accessFlags := 1537
  interfaces := #[]
  cf := some (fileOf pool5 2 #[] #[] 1537 4 #[] #[])
  fields := #[]
  methods := #[]
  instanceTypes := #[]
  staticTypes := #[]
  resolved := Array.replicate 8 none
  statics := none }

/-- the primitive byte -/
def k6 : Class := { plain "byte" none with kind := .primitive 'B', accessFlags := 0x411 }
/-- [B -/
def k7 : Class := { plain "[B" (some 0) with kind := .array 6 .byte, interfaces := #[4, 5], accessFlags := 1041 }

/-- the primitive int -/
def k8 : Class := { plain "int" none with kind := .primitive 'I', accessFlags := 0x411 }
/-- [I -/
def k9 : Class := { plain "[I" (some 0) with kind := .array 8 .int, interfaces := #[4, 5], accessFlags := 1041 }

def heap : Heap := #[]
def classes : Array Class := #[k0, k1, k2, k3, k4, k5, k6, k7, k8, k9]
def interned : List (Array UInt16 × Addr) := []
def slotsUsed : Nat := 0
def theMethod : MethodId := ⟨1, 1⟩
def args0 : Array Value := #[.long 5, .int 3, .int 4]
def aboutOver (below : List Frame) : State where
  vm := { classes := classes, interned := interned.toArray }
  heap := heap
  slotsUsed := slotsUsed
  threads := #[{ frames := .invoking theMethod args0 :: below }]
def below0 : List Frame := [.native { method := ⟨0, 0⟩, args := #[] }]
def about1 : State := aboutOver below0
def p0 : Program := .bare "" "" ""
def e0 : Env := launch0.env 0 0 0
theorem w_frames : about1.frames = Frame.invoking theMethod args0 :: below0 := rfl
set_option maxRecDepth 65536 in
theorem w_args : argsFit about1.vm theMethod args0 = true := by decide +kernel
set_option maxRecDepth 65536 in
theorem w_heap : heapFits about1 = true := by decide +kernel
set_option maxRecDepth 65536 in
theorem w_runnable : about1.curStatus? = some .runnable := by decide +kernel
set_option maxRecDepth 65536 in
theorem w_alone : about1.alone = true := by decide +kernel
set_option maxRecDepth 65536 in
theorem w_named : about1.methodNamed? x = some theMethod := by decide +kernel
set_option maxRecDepth 65536 in
theorem w_hears : about1.hears theMethod below0 = true := by decide +kernel
set_option maxRecDepth 65536 in
theorem w_ripe : about1.ripe theMethod args0 below0 = true := by decide +kernel
theorem w_running : about1.status = .running := rfl
set_option maxRecDepth 65536 in
theorem w_room : about1.hasRoom e0.platform room_1 = true :=
  launch0.hasRoom_least _ room_1 (by decide +kernel) (by decide +kernel) (by decide +kernel) (by decide +kernel) (by decide +kernel) (by decide +kernel)
theorem allAtoms_all (ts : List Jvm.Cond) (a : Array Jvm.Value) (st : Jvm.State) : (allAtoms ts).before a st = ts.all (fun c => c.before a st) := by
  induction ts with
  | nil => rfl
  | cons c t ih =>
    show (Jvm.Cond.and c (allAtoms t)).before a st = _
    rw [Jvm.Cond.before_and, ih, List.all_cons]
def words1 : List Jvm.Cond := Jvm.Cond.code x code maxLocals ret :: tables_1
/-- a 'code' word, met by the world's own term for the bytes: nothing is compared byte by byte -/
theorem code_word {y : MethodName} {bytes : ByteArray} {mx : Nat} {rt : Option FieldType} {a : Array Value} {s : State} {m : MethodId} {meth : Method} {c : Code} (h1 : s.methodNamed? y = some m) (h2 : s.vm.method? m = some meth) (h3 : meth.code = some c) (h4 : c.code = bytes)
    (h5 : (c.maxLocals == mx && c.exceptionTable.isEmpty && decide (c.maxStack ≤ mostOperands) && decide (meth.sig.returnType = rt) && !meth.locks && decide (parseMethodDescriptor y.desc = some meth.sig)) = true) : (Jvm.Cond.code y bytes mx rt).before a s = true := by
  simp only [Bool.and_eq_true, beq_iff_eq, Bool.not_eq_true', decide_eq_true_eq] at h5
  obtain ⟨⟨⟨⟨⟨g1, g2⟩, g3⟩, g4⟩, g5⟩, g6⟩ := h5
  simp [Cond.before, Cond.holds, Cond.value, h1, h2, h3, h4, g1, g2, g3, g4, g5, g6]
def isCode : Jvm.Cond → Bool
  | .code _ _ _ _ => true
  | _ => false
theorem all_split {L : List Jvm.Cond} {P : Jvm.Cond → Bool} (h1 : L.all (fun c => isCode c || P c) = true) (h2 : ∀ c ∈ L.filter isCode, P c = true) : L.all P = true := by
  refine List.all_eq_true.mpr fun c hc => ?_
  have h := List.all_eq_true.mp h1 c hc
  rcases Bool.eq_false_or_eq_true (isCode c) with hi | hi
  · exact h2 c (List.mem_filter.mpr ⟨hc, hi⟩)
  · simpa [hi] using h
set_option maxRecDepth 65536 in
theorem w_c0 : (Jvm.Cond.code x code maxLocals ret).before args0 about1 = true := code_word (m := ⟨1, 1⟩) (meth := k1m1) (c := k1c1) (by decide +kernel) rfl rfl rfl (by decide +kernel)
set_option maxRecDepth 65536 in
theorem w_c1 : (Jvm.Cond.code ({ cls := "com/example/needlewise/needlewise/KmpPartialMatchPinLaw", name := "make", desc := "(I)[B" } : Jvm.MethodName) method_3_code (1 : Nat) (Option.some (Jvm.ClassFile.FieldType.array Jvm.ClassFile.FieldType.byte))).before args0 about1 = true := code_word (m := ⟨1, 2⟩) (meth := k1m2) (c := k1c2) (by decide +kernel) rfl rfl rfl (by decide +kernel)
set_option maxRecDepth 65536 in
theorem w_c2 : (Jvm.Cond.code ({ cls := "com/example/needlewise/needlewise/Kmp", name := "partialMatch", desc := "([B)[I" } : Jvm.MethodName) prog_12_method_2_code (4 : Nat) (Option.some (Jvm.ClassFile.FieldType.array Jvm.ClassFile.FieldType.int))).before args0 about1 = true := code_word (m := ⟨3, 0⟩) (meth := k3m0) (c := k3c0) (by decide +kernel) rfl rfl rfl (by decide +kernel)
set_option maxRecDepth 65536 in
theorem w_c3 : (Jvm.Cond.code ({ cls := "com/example/needlewise/needlewise/KmpPartialMatchPinLaw", name := "ok", desc := "([I[BII)Z" } : Jvm.MethodName) method_4_code (4 : Nat) (Option.some Jvm.ClassFile.FieldType.boolean)).before args0 about1 = true := code_word (m := ⟨1, 3⟩) (meth := k1m3) (c := k1c3) (by decide +kernel) rfl rfl rfl (by decide +kernel)
set_option maxRecDepth 65536 in
theorem w_c4 : (Jvm.Cond.code ({ cls := "com/example/needlewise/needlewise/KmpPartialMatchPinLaw", name := "border", desc := "([BI)I" } : Jvm.MethodName) method_5_code (2 : Nat) (Option.some Jvm.ClassFile.FieldType.int)).before args0 about1 = true := code_word (m := ⟨1, 4⟩) (meth := k1m4) (c := k1c4) (by decide +kernel) rfl rfl rfl (by decide +kernel)
set_option maxRecDepth 65536 in
theorem w_c5 : (Jvm.Cond.code ({ cls := "com/example/needlewise/needlewise/KmpPartialMatchPinLaw", name := "isBorder", desc := "([BII)Z" } : Jvm.MethodName) method_6_code (3 : Nat) (Option.some Jvm.ClassFile.FieldType.boolean)).before args0 about1 = true := code_word (m := ⟨1, 5⟩) (meth := k1m5) (c := k1c5) (by decide +kernel) rfl rfl rfl (by decide +kernel)
def codes1 : List Jvm.Cond := [Jvm.Cond.code x code maxLocals ret, Jvm.Cond.code ({ cls := "com/example/needlewise/needlewise/KmpPartialMatchPinLaw", name := "make", desc := "(I)[B" } : Jvm.MethodName) method_3_code (1 : Nat) (Option.some (Jvm.ClassFile.FieldType.array Jvm.ClassFile.FieldType.byte)), Jvm.Cond.code ({ cls := "com/example/needlewise/needlewise/Kmp", name := "partialMatch", desc := "([B)[I" } : Jvm.MethodName) prog_12_method_2_code (4 : Nat) (Option.some (Jvm.ClassFile.FieldType.array Jvm.ClassFile.FieldType.int)), Jvm.Cond.code ({ cls := "com/example/needlewise/needlewise/KmpPartialMatchPinLaw", name := "ok", desc := "([I[BII)Z" } : Jvm.MethodName) method_4_code (4 : Nat) (Option.some Jvm.ClassFile.FieldType.boolean), Jvm.Cond.code ({ cls := "com/example/needlewise/needlewise/KmpPartialMatchPinLaw", name := "border", desc := "([BI)I" } : Jvm.MethodName) method_5_code (2 : Nat) (Option.some Jvm.ClassFile.FieldType.int), Jvm.Cond.code ({ cls := "com/example/needlewise/needlewise/KmpPartialMatchPinLaw", name := "isBorder", desc := "([BII)Z" } : Jvm.MethodName) method_6_code (3 : Nat) (Option.some Jvm.ClassFile.FieldType.boolean)]
set_option maxRecDepth 65536 in
theorem codes_eq : words1.filter isCode = codes1 := rfl
theorem w_codes : ∀ c ∈ words1.filter isCode, c.before args0 about1 = true := by
  rw [codes_eq]
  intro c hc
  simp only [codes1, List.mem_cons, List.not_mem_nil, or_false] at hc
  rcases hc with rfl | rfl | rfl | rfl | rfl | rfl
  · exact w_c0
  · exact w_c1
  · exact w_c2
  · exact w_c3
  · exact w_c4
  · exact w_c5
set_option maxRecDepth 65536 in
theorem w_t1 : words1.all (fun c => isCode c || c.before args0 about1) = true := by decide +kernel
theorem w_tables : (allAtoms (Jvm.Cond.code x code maxLocals ret :: tables_1)).before args0 about1 = true := by
  rw [allAtoms_all]
  show words1.all (fun c => c.before args0 about1) = true
  refine all_split ?_ w_codes
  rw [w_t1]
set_option maxRecDepth 65536 in
theorem w_case : (Jvm.Cond.and given_1 narrow_1).before args0 about1 = true := by decide +kernel
theorem w_applies : (headSpec (Jvm.Cond.code x code maxLocals ret :: tables_1) room_1).applies x e0.platform about1 = true :=
  (Spec.applies_iff w_frames).mpr ⟨w_running, w_runnable, w_alone, w_named, w_hears, w_ripe, w_room, w_tables⟩
theorem atStart : AtStart classFile x code maxLocals ret World_1 tables_1 room_1 Calls_1 rest_1 Pre_1 launch0 p0 e0 about1 theMethod args0 below0 :=
  ⟨lists_1, trivial, launch0.admits_env _ _ _, launch0.least_env, fairChoices_fair.cas, fairChoices_fair.clock, w_frames, w_args, w_heap, w_applies, trivial, trivial, w_case⟩
end start1
theorem witness_1 : WitnessClaimed_1 := ⟨start1.p0, start1.e0, start1.about1, start1.theMethod, start1.args0, start1.below0, start1.atStart⟩
end Jvm.Pilot.@@N@@
