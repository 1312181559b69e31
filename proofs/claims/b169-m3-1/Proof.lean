import JvmDerived
import JvmDerived.Pilot.@@N@@Statement
import JvmDerived.Pilot.@@N@@Code
set_option linter.unusedVariables false
set_option linter.unusedSimpArgs false
namespace Jvm.RoadKit
open Sem ClassFile Op Lib Jvm.Stand Jvm.Free Jvm.LawKit
section New
variable {p : Program} {l : Launch} {e : Env} {R : Room} {s : State} {m : MethodId} {args : Array Value} {below : List Frame} {meth : Method} {c : Code} {T : State} {locs : List Loc} {cells slots : Nat}
theorem retI (X : Stand p l e R s m args below meth c T locs cells slots) (hx : p.tables.exec = Jvm.exec) {pc : Nat} {Ls : Array Slot} {z : Int32} {rest : List Value} (hret : meth.sig.returnType = some .int) (hd : decode c.code pc = .ok (.ireturn, 1)) {fs : List Frame}
    (hl : ∀ (f : JFrame) (acts : List Action), f.method = m → f.locked = none → f.entered = [] → (doReturn e (T.setTop f) acts (some (.int z))).1 = T.setFrames fs) : Steps p.tables e below (T.setTop (mkF m pc Ls (.int z :: rest))) (T.setFrames fs) := by
  have hm' : T.vm.method? m = some meth := X.method'
  have hn : narrow .int (.int z) = .int z := rfl
  show Steps p.tables e below (T.setTop { method := m, pc := pc, locals := Ls, stack := _ :: rest, locked := none }) _
  jvm_step X.here [X.here.top, hx, hd, hm', hret, hn]
  first | (intro acts; rw [hl _ acts rfl rfl rfl]) | rw [hl _ _ rfl rfl rfl]
  exact Steps.refl _
end New
end Jvm.RoadKit
namespace Jvm.Pilot.@@N@@
open Jvm Jvm.ClassFile Sem Op Lib Jvm.Free Jvm.Stand Jvm.LawKit Jvm.RoadKit Bundle Jvm.Pilot.@@N@@.Jvm.D
section Own
variable {p : Program} {l : Launch} {e : Env} {R : Room} {s : State} {m : MethodId} {args : Array Value} {below : List Frame} {meth : Method} {c : Code} {T : State} {n0 C S : Nat} {Z : State} {a0 : Array Value} {h h' : Heap} {P : State → Outcome → Prop} {Q : Option Value → Heap → Prop}
/-- from U the run comes to an end at which P holds -/
def own_Go (p : Program) (e : Env) (below : List Frame) (P : State → Outcome → Prop) (U : State) : Prop := ∃ t o, Steps p.tables e below U t ∧ P t o
theorem own_st {U U' : State} (k : ∀ t, Steps p.tables e below U' t → Steps p.tables e below U t) (g : own_Go p e below P U') : own_Go p e below P U := by
  obtain ⟨t, o, a, b⟩ := g; exact ⟨t, o, k t a, b⟩
/-- where the run stands: its state, its heap, how many cells and slots are spent; nothing below n0 was written -/
def own_Sd (p : Program) (l : Launch) (e : Env) (R : Room) (s : State) (m : MethodId) (args : Array Value) (below : List Frame) (meth : Method) (c : Code) (n0 : Nat) (T : State) (h : Heap) (C S : Nat) : Prop :=
  ∃ locs, Stand p l e R s m args below meth c T locs C S ∧ Fr n0 locs ∧ T.heap = h ∧ n0 ≤ s.heap.size ∧ s.heap.size ≤ h.size
theorem own_Sd.here (X : own_Sd p l e R s m args below meth c n0 T h C S) : At T m c below := by obtain ⟨_, X, _⟩ := X; exact X.here
theorem own_Sd.ge0 (X : own_Sd p l e R s m args below meth c n0 T h C S) : n0 ≤ h.size := by obtain ⟨_, _, _, _, h1, h2⟩ := X; exact Nat.le_trans h1 h2
theorem own_Sd.more (X : own_Sd p l e R s m args below meth c n0 T h C S) {C' S' : Nat} (hc : C ≤ C') (hs : S ≤ S') : own_Sd p l e R s m args below meth c n0 T h C' S' := by
  obtain ⟨L, X, r⟩ := X; exact ⟨L, X.more hc hs, r⟩
/-- what the body of one method knows of itself -/
def own_Cx (p : Program) (s : State) (m : MethodId) (meth : Method) (c : Code) (Z : State) (bytes : ByteArray) (maxL : Nat) (y : MethodName) (ret : Option FieldType) : Prop :=
  p.tables.exec = Jvm.exec ∧ c.code = bytes ∧ c.maxLocals = maxL ∧ s.vm.findClass y.cls = some m.cls ∧ meth.name = y.name ∧ meth.sig.returnType = ret ∧ meth.locks = false ∧ Z.Warmed39 s.vm
def own_End (below : List Frame) (s : State) (R : Room) (n0 : Nat) (Q : Option Value → Heap → Prop) (t : State) (o : Outcome) : Prop :=
  t.status = .running ∧ Ended t below o ∧ ∃ v L, o = .returned v ∧ (Q v t.heap ∧ s.heap.size ≤ t.heap.size ∧ Fr n0 L) ∧ FrameEnd s o t L R.cells R.slots
/-- a method's contract: on these arguments, at this heap, it returns so that Q -/
def own_Met (l : Launch) (Z : State) (y : MethodName) (bytes : ByteArray) (maxL : Nat) (ret : Option FieldType) (rm : Room) (as' : Array Value) (h0 : Heap) (n0 : Nat) (Q : Option Value → Heap → Prop) : Prop :=
  ∀ ws, MetFree l y (head1 (Jvm.Cond.code y bytes maxL ret :: ws) rm) (fun a U => a = as' ∧ Z.Warmed39 U.vm ∧ U.heap = h0) (fun _ _ _ _ _ => True)
    (fun _ U o U' => ∃ v L, o = .returned v ∧ (Q v U'.heap ∧ h0.size ≤ U'.heap.size ∧ Fr n0 L) ∧ FrameEnd U o U' L rm.cells rm.slots)
theorem own_body {y : MethodName} {bytes : ByteArray} {maxL : Nat} {ret : Option FieldType} {rm : Room} {as' : Array Value} {h0 : Heap} {Ls : Array Slot} (hpl : plainFor y = true) (hfr : ∀ m, entryFrame m as' maxL = mkF m 0 Ls []) (hn : n0 ≤ h0.size)
    (B : ∀ (p : Program) (e : Env) (s : State) (m : MethodId) (below : List Frame) (meth : Method) (c : Code) (T : State), own_Cx p s m meth c Z bytes maxL y ret → own_Sd p l e rm s m as' below meth c n0 T h0 0 0 → own_Go p e below (own_End below s rm n0 Q) (T.setTop (mkF m 0 Ls []))) :
    own_Met l Z y bytes maxL ret rm as' h0 n0 Q := by
  intro ws
  refine MetFree.of_bodySF hpl hisR ?_
  intro p e s m args below meth c s₁ Bd hml0 hP hK
  obtain ⟨rfl, hZ, hh⟩ := hP
  have X0 : Stand p l e rm s m args below meth c s₁ [] 0 0 := Stand.of_body Bd
  have e0 : s₁.heap = h0 := by rw [← hh, Bd.state]; rfl
  have hs : s.heap.size = h0.size := by rw [hh]
  obtain ⟨t, o, st, h1, h2, v, L, h3, h4, h5⟩ := B p e s m below meth c s₁ ⟨Bd.exec, Bd.bytes, hml0, findClass_of_methodNamed Bd.named, (name_of_methodNamed Bd.named Bd.method).1, Bd.returns, Bd.notSynchronized, hZ⟩ ⟨[], X0, Fr.nil n0, e0, by rw [hs]; exact hn, by rw [hs]; exact Nat.le_refl _⟩
  rw [hs] at h4
  exact ⟨t, o, castTop (hfr m) st, h1, h2, v, L, h3, h4, h5⟩
theorem own_fin (X : own_Sd p l e R s m args below meth c n0 T h C S) (hlk : meth.locks = false) {v : Option Value} (hv : meth.sig.returnType = none → v = none) (hC : C ≤ R.cells) (hS : S ≤ R.slots) (q : Q v h) {U : State}
    (k : ∀ (T' : State) (locs : List Loc) (fs : List Frame), T' = T → Stand p l e R s m args below meth c T locs C S → (∀ (f : JFrame) (acts : List Action), f.method = m → f.locked = none → f.entered = [] → (doReturn e (T.setTop f) acts v).1 = T.setFrames fs) → Steps p.tables e below U (T.setFrames fs)) : own_Go p e below (own_End below s R n0 Q) U := by
  obtain ⟨L, X, N, eT, hn, hs⟩ := X
  obtain ⟨fs, hr, hrun, hended, hW, hsame⟩ := X.leave (v := v) hv hlk
  have e1 : (T.setFrames fs).heap = h := eT
  refine ⟨_, _, k T L fs rfl X hr, hrun, hended, v, L, rfl, ⟨?_, ?_, N⟩, ⟨_, rfl⟩, hW, hsame.mono hC hS⟩
  · rw [e1]; exact q
  · rw [e1]; exact hs
theorem own_retI (X : own_Sd p l e R s m args below meth c n0 T h C S) (hx : p.tables.exec = Jvm.exec) (hret : meth.sig.returnType = some .int) (hlk : meth.locks = false) {pc : Nat} {Ls : Array Slot} {z : Int32} {rest : List Value} (hd : decode c.code pc = .ok (.ireturn, 1)) (hC : C ≤ R.cells) (hS : S ≤ R.slots) (q : Q (some (.int z)) h) :
    own_Go p e below (own_End below s R n0 Q) (T.setTop (mkF m pc Ls (.int z :: rest))) :=
  own_fin X hlk (fun h => by rw [hret] at h; cases h) hC hS q fun _ _ _ _ X hr => retI X hx hret hd hr
theorem own_retN (X : own_Sd p l e R s m args below meth c n0 T h C S) (hx : p.tables.exec = Jvm.exec) {t : FieldType} (hret : meth.sig.returnType = some t) (ht : t = .boolean ∨ t = .byte ∨ t = .char ∨ t = .short) (hlk : meth.locks = false) {pc : Nat} {Ls : Array Slot} {z : Int32} {rest : List Value} (hd : decode c.code pc = .ok (.ireturn, 1)) (hC : C ≤ R.cells) (hS : S ≤ R.slots) (q : Q (some (.int (nar t z))) h) :
    own_Go p e below (own_End below s R n0 Q) (T.setTop (mkF m pc Ls (.int z :: rest))) :=
  own_fin X hlk (fun h => by rw [hret] at h; cases h) hC hS q fun _ _ _ _ X hr => retN X hx hret ht hd hr
theorem own_retJ (X : own_Sd p l e R s m args below meth c n0 T h C S) (hx : p.tables.exec = Jvm.exec) (hret : meth.sig.returnType = some .long) (hlk : meth.locks = false) {pc : Nat} {Ls : Array Slot} {z : Int64} {rest : List Value} (hd : decode c.code pc = .ok (.lreturn, 1)) (hC : C ≤ R.cells) (hS : S ≤ R.slots) (q : Q (some (.long z)) h) :
    own_Go p e below (own_End below s R n0 Q) (T.setTop (mkF m pc Ls (.long z :: rest))) :=
  own_fin X hlk (fun h => by rw [hret] at h; cases h) hC hS q fun _ _ _ _ X hr => retOut X hx hret rfl (Or.inr (Or.inl ⟨rfl, rfl, z, rfl⟩)) hd hr
theorem own_retA (X : own_Sd p l e R s m args below meth c n0 T h C S) (hx : p.tables.exec = Jvm.exec) {t : FieldType} (hret : meth.sig.returnType = some t) (ht : t.isReference = true) (hlk : meth.locks = false) {pc : Nat} {Ls : Array Slot} {w : Value} (hw : w.isRef = true) (hn : narrow t w = w) {rest : List Value} (hd : decode c.code pc = .ok (.areturn, 1)) (hC : C ≤ R.cells) (hS : S ≤ R.slots) (q : Q (some w) h) :
    own_Go p e below (own_End below s R n0 Q) (T.setTop (mkF m pc Ls (w :: rest))) :=
  own_fin X hlk (fun h => by rw [hret] at h; cases h) hC hS q fun _ _ _ _ X hr => retOut X hx hret hn (Or.inr (Or.inr (Or.inr (Or.inr ⟨rfl, ht, hw⟩)))) hd hr
theorem own_retV (X : own_Sd p l e R s m args below meth c n0 T h C S) (hx : p.tables.exec = Jvm.exec) (hret : meth.sig.returnType = none) (hlk : meth.locks = false) {pc : Nat} {Ls : Array Slot} (hd : decode c.code pc = .ok (.return_, 1)) (hC : C ≤ R.cells) (hS : S ≤ R.slots) (q : Q none h) :
    own_Go p e below (own_End below s R n0 Q) (T.setTop (mkF m pc Ls [])) :=
  own_fin X hlk (fun _ => rfl) hC hS q fun _ _ _ _ X hr => X.returnOut hx hret hd hr
/-! single steps that want a Stand -/
theorem own_irem (X : own_Sd p l e R s m args below meth c n0 T h C S) (hx : p.tables.exec = Jvm.exec) {g : JFrame} {x y : Int32} {rest : List Value} (hd : decode c.code g.pc = .ok (.irem, 1)) (hs : g.stack = .int y :: .int x :: rest) (hy : y ≠ 0) (hg : g.method = m)
    (k : own_Go p e below P (T.setTop { g with pc := g.pc + 1, stack := .int (x % y) :: rest })) : own_Go p e below P (T.setTop g) := by
  obtain ⟨_, X, _⟩ := X; exact own_st (fun _ q => iremM X hx hg hd hs hy q) k
theorem own_ldc (X : own_Sd p l e R s m args below meth c n0 T h C S) (hx : p.tables.exec = Jvm.exec) (hZ : Z.Warmed39 s.vm) {own : String} {index : Nat} {v : Int32} (hown : s.vm.findClass own = some m.cls) (w : (Cond.constant own index v).before a0 Z = true) {g : JFrame} (hg : g.method = m) (hd : decode c.code g.pc = .ok (.ldc index, 2))
    (k : own_Go p e below P (T.setTop { g with pc := g.pc + 2, stack := .int v :: g.stack })) : own_Go p e below P (T.setTop g) := by
  obtain ⟨_, X, _⟩ := X; exact own_st (fun _ q => X.ldcInt hx hown (mvT hZ w) hg hd _ q) k
theorem own_ldc2 (X : own_Sd p l e R s m args below meth c n0 T h C S) (hx : p.tables.exec = Jvm.exec) (hZ : Z.Warmed39 s.vm) {own : String} {index : Nat} {v : Int64} (hown : s.vm.findClass own = some m.cls) (w : (Cond.constantLong own index v).before a0 Z = true) {g : JFrame} (hg : g.method = m) (hd : decode c.code g.pc = .ok (.ldc2_w index, 3))
    (k : own_Go p e below P (T.setTop { g with pc := g.pc + 3, stack := .long v :: g.stack })) : own_Go p e below P (T.setTop g) := by
  obtain ⟨_, X, _⟩ := X; exact own_st (fun _ q => X.ldc2Long hx hown (mvT hZ w) hg hd _ q) k
theorem own_acmp (X : own_Sd p l e R s m args below meth c n0 T h C S) (hx : p.tables.exec = Jvm.exec) {g : JFrame} (hg : g.method = m) {cd : ACond} {x y : Value} (h1 : x.isRef = true) (h2 : y.isRef = true) {rest : List Value} {o : Int} {pc0 pc' : Nat} {same : Bool} (hpc : g.pc = pc0) (hd : decode c.code g.pc = .ok (.if_acmp cd o, 3)) (hs : g.stack = y :: x :: rest) (hsame : decide (x = y) = same) (ho : 0 ≤ (pc0 : Int) + o) (hp : pc' = if acV cd same then ((pc0 : Int) + o).toNat else pc0 + 3)
    (k : own_Go p e below P (T.setTop { g with pc := pc', stack := rest })) : own_Go p e below P (T.setTop g) := by
  obtain ⟨_, X, _⟩ := X; exact own_st (fun _ q => Jvm.RoadKit.acmp X hx hg h1 h2 hpc hd hs hsame ho hp q) k
theorem own_lrem (X : own_Sd p l e R s m args below meth c n0 T h C S) (hx : p.tables.exec = Jvm.exec) {g : JFrame} {x y : Int64} {rest : List Value} (hd : decode c.code g.pc = .ok (.lrem, 1)) (hs : g.stack = .long y :: .long x :: rest) (hy : y ≠ 0) (hg : g.method = m)
    (k : own_Go p e below P (T.setTop { g with pc := g.pc + 1, stack := .long (x % y) :: rest })) : own_Go p e below P (T.setTop g) :=
  own_st (fun _ q => XS.lrem X.here hx hg hd hs hy (by rw [lrem_mod]; exact q)) k
theorem own_dupX2 (X : own_Sd p l e R s m args below meth c n0 T h C S) (hx : p.tables.exec = Jvm.exec) {g : JFrame} {x y z : Value} {rest : List Value} (hd : decode c.code g.pc = .ok (.dup_x2, 1)) (hs : g.stack = x :: y :: z :: rest) (h1 : x.category = 1) (h2 : y.category = 1) (h3 : z.category = 1) (hg : g.method = m)
    (k : own_Go p e below P (T.setTop { g with pc := g.pc + 1, stack := x :: y :: z :: x :: rest })) : own_Go p e below P (T.setTop g) := by
  refine own_st (fun t q => ?_) k
  subst hg
  have h := X.here
  jvm_step h [h.top, hx, hd, hs, h1, h2, h3]
  exact q
/-! fields, objects -/
theorem own_getF (X : own_Sd p l e R s m args below meth c n0 T h C S) (hx : p.tables.exec = Jvm.exec) (hZ : Z.Warmed39 s.vm) {own O n d : String} {index : Nat} (hown : s.vm.findClass own = some m.cls) (w : (Cond.fieldLink own index O n d).before a0 Z = true) {a : Addr} {v : Value} (F : Fld Z h a O n d v) {g : JFrame} (hg : g.method = m) {rest : List Value} (hs : g.stack = .ref a :: rest) (hd : decode c.code g.pc = .ok (.getfield index, 3))
    (k : ∀ T', own_Sd p l e R s m args below meth c n0 T' h C S → own_Go p e below P (T'.setTop { g with pc := g.pc + 3, stack := v :: rest })) : own_Go p e below P (T.setTop g) := by
  obtain ⟨L, X, N, eT, r⟩ := X
  obtain ⟨T', X', e', st⟩ := getF X hx hZ hown (host := "") (Or.inl w) Via.refl eT F hg hs hd
  exact own_st st (k T' ⟨L, X', N, e', r⟩)
theorem own_putF (X : own_Sd p l e R s m args below meth c n0 T h C S) (hx : p.tables.exec = Jvm.exec) (hZ : Z.Warmed39 s.vm) {own O n d K : String} {index kk : Nat} {ty : FieldType} (hown : s.vm.findClass own = some m.cls) (w : (Cond.fieldLink own index O n d).before a0 Z = true) {a : Addr} {v v' old : Value} (F : Fld Z h a O n d old) (E : Exa Z h a K) (L : (Cond.lays K O n d).before a0 Z = true ∨ ((Cond.laysFinal K O n d).before a0 Z = true ∧ own = O ∧ meth.name = "<init>")) (wi : (Cond.instantiable K kk).before a0 Z = true)
    (hty : parseFieldDescriptor d = some ty) (hn : narrow ty v = v') (hf : fits ty v' = true) (ga : n0 ≤ a) {g : JFrame} (hg : g.method = m) {rest : List Value} (hs : g.stack = v :: .ref a :: rest) (hd : decode c.code g.pc = .ok (.putfield index, 3))
    (k : ∀ T' h', own_Sd p l e R s m args below meth c n0 T' h' C S → Wr h h' a (Jvm.RoadKit.slotOf Z O n d) v' → own_Go p e below P (T'.setTop { g with pc := g.pc + 3, stack := rest })) : own_Go p e below P (T.setTop g) := by
  obtain ⟨L0, X, N, eT, r1, r2⟩ := X
  obtain ⟨T', h', X', e', W, st⟩ := putFN X hx hZ hown w Via.refl eT F E L wi hty hn hf hg hs hd
  exact own_st st (k T' h' ⟨_, X', Fr.snoc X' N ga, e', r1, by rw [W.size]; exact r2⟩ W)
theorem own_newO (X : own_Sd p l e R s m args below meth c n0 T h C S) (hx : p.tables.exec = Jvm.exec) (hZ : Z.Warmed39 s.vm) {own K : String} {index n : Nat} (hown : s.vm.findClass own = some m.cls) (w : (Cond.classLink own index K).before a0 Z = true) (wi : (Cond.instantiable K n).before a0 Z = true) (wz : (Cond.initialized K).before a0 Z = true)
    {g : JFrame} (hg : g.method = m) (hd : decode c.code g.pc = .ok (.new index, 3)) (hc : C + 1 ≤ R.cells) (hl : S + n ≤ R.slots)
    (k : ∀ T' h' b, b = h.size → n0 ≤ b → own_Sd p l e R s m args below meth c n0 T' h' (C + 1) (S + n) → Ext h h' → Exa Z h' b K → (∀ {O nm d : String} {ty : FieldType}, Laid Z a0 K O nm d → parseFieldDescriptor d = some ty → Fld Z h' b O nm d (defaultValue ty)) → own_Go p e below P (T'.setTop { g with pc := g.pc + 3, stack := .ref b :: g.stack })) : own_Go p e below P (T.setTop g) := by
  have hn := X.ge0
  obtain ⟨L, X, N, eT, r1, r2⟩ := X
  obtain ⟨T', h', X', e', E, A, D, -, st⟩ := newO X hx hZ hown w wi wz eT hg hd hc hl
  exact own_st st (k T' h' h.size rfl hn ⟨L, X', N, e', r1, Nat.le_trans r2 E.1⟩ E A D)
theorem own_initO (X : own_Sd p l e R s m args below meth c n0 T h C S) (hx : p.tables.exec = Jvm.exec) (hZ : Z.Warmed39 s.vm) {own : String} {idx : Nat} (hown : s.vm.findClass own = some m.cls) (w1 : (Cond.methodLink own idx Lib.objectInit).before a0 Z = true) (w2 : (Cond.instanceMethod Lib.objectInit).before a0 Z = true)
    (w3 : (Cond.code Lib.objectInit ⟨#[0xb1]⟩ 1 none).before a0 Z = true) {g : JFrame} (hg : g.method = m) (hsize : g.locals.size = c.maxLocals) {a : Addr} {rest : List Value} (hs : g.stack = .ref a :: rest) (hd : decode c.code g.pc = .ok (.invokespecial idx, 3))
    (hf : 1 ≤ R.frames) {W : Nat} (hW : 2 * g.monitorRoom + (rest.map fun v => v.category).sum ≤ W) (hl : W + 12 ≤ R.locals)
    (k : ∀ T', own_Sd p l e R s m args below meth c n0 T' h C S → own_Go p e below P (T'.setTop { g with pc := g.pc + 3, stack := rest })) : own_Go p e below P (T.setTop g) := by
  obtain ⟨L, X, N, eT, r⟩ := X
  obtain ⟨T', X', e', st⟩ := initO X hx hZ hown w1 w2 w3 eT hg hsize hs hd hf hW hl
  exact own_st st (k T' ⟨L, X', N, e', r⟩)
/-! calls -/
theorem own_back {y : MethodName} {bytes : ByteArray} {maxL : Nat} {ret : Option FieldType} {rm : Room} {as' : Array Value} {len W : Nat} (hM : own_Met l Z y bytes maxL ret rm as' h n0 Q) (hZ : Z.Warmed39 s.vm) (wc : (Cond.code y bytes maxL ret).before a0 Z = true) (wz : (Cond.initialized y.cls).before a0 Z = true) (hf : rm.frames + 1 ≤ R.frames) (hl : W + (maxL + 11) + rm.locals ≤ R.locals) :
    Back l R p e below s args y len W (fun A a => a = as' ∧ A.U.heap = h ∧ A.cells + rm.cells ≤ R.cells ∧ A.slots + rm.slots ≤ R.slots) (fun A _ v B => ∃ L, (Q v B.U.heap ∧ h.size ≤ B.U.heap.size ∧ Fr n0 L) ∧ B.locs = A.locs ++ L ∧ B.cells = A.cells + rm.cells ∧ B.slots = A.slots + rm.slots) :=
  backOf (Q := fun v h' L => Q v h' ∧ h.size ≤ h'.size ∧ Fr n0 L) (hM []) hZ wc wz hf hl
theorem own_callS (X : own_Sd p l e R s m args below meth c n0 T h C S) (hx : p.tables.exec = Jvm.exec) (hZ : Z.Warmed39 s.vm) {own : String} {index : Nat} {y : MethodName} {bytes : ByteArray} {maxL : Nat} {ret : Option FieldType} (hown : s.vm.findClass own = some m.cls)
    (w1 : (Cond.methodLink own index y).before a0 Z = true) (w2 : (Cond.static y).before a0 Z = true) (w3 : (Cond.initialized y.cls).before a0 Z = true) (w4 : (Cond.code y bytes maxL ret).before a0 Z = true) (hy : y.cls ≠ "java/lang/invoke/MethodHandle" ∧ y.cls ≠ "java/lang/invoke/VarHandle")
    {rm : Room} {as' : Array Value} (hM : own_Met l Z y bytes maxL ret rm as' h n0 Q) (hf : rm.frames + 1 ≤ R.frames) {W : Nat} (hlo : W + (maxL + 11) + rm.locals ≤ R.locals) {g : JFrame} (hg : g.method = m) (hsize : g.locals.size = c.maxLocals) {argsL rest : List Value} (hlen : ∀ sig, parseMethodDescriptor y.desc = some sig → argsL.length = sig.parameters.length) (has : argsL.toArray = as')
    (hstack : g.stack = argsL.reverse ++ rest) (hW : 2 * g.monitorRoom + (rest.map fun v => v.category).sum ≤ W) (hd : decode c.code g.pc = .ok (.invokestatic index, 3)) (hc : C + rm.cells ≤ R.cells) (hs : S + rm.slots ≤ R.slots)
    (k : ∀ v T' h', own_Sd p l e R s m args below meth c n0 T' h' (C + rm.cells) (S + rm.slots) → Q v h' → own_Go p e below P (T'.setTop { g with pc := g.pc + 3, stack := v.toList ++ rest })) : own_Go p e below P (T.setTop g) := by
  obtain ⟨L, X, N, eT, r1, r2⟩ := X
  obtain ⟨v, _, ⟨T', L', k', n'⟩, -, X', ⟨Lc, ⟨hQ, hsz, hN⟩, e1, e2, e3⟩, st⟩ := Jvm.LawKit.callS X hx hown (mvT hZ w1) (mvT hZ w2) (mvT hZ w3) (mvT hZ w4) hy (own_back (W := W) hM hZ w4 w3 hf hlo) hg hsize hlen hstack hW hd (fun _ _ => ⟨has, eT, hc, hs⟩)
  dsimp only [Pt.U, Pt.locs, Pt.cells, Pt.slots] at X' e1 e2 e3 st hQ hsz
  subst e1 e2 e3
  exact own_st st (k v T' T'.heap ⟨_, X', Fr.app N hN, rfl, r1, Nat.le_trans r2 hsz⟩ hQ)
theorem own_callC (X : own_Sd p l e R s m args below meth c n0 T h C S) (hx : p.tables.exec = Jvm.exec) (hZ : Z.Warmed39 s.vm) {own : String} {index : Nat} {y : MethodName} {bytes : ByteArray} {maxL : Nat} (hy1 : y.name = "<init>") (hown : s.vm.findClass own = some m.cls)
    (w1 : (Cond.methodLink own index y).before a0 Z = true) (w2 : (Cond.instanceMethod y).before a0 Z = true) (w3 : (Cond.initialized y.cls).before a0 Z = true) (w4 : (Cond.code y bytes maxL none).before a0 Z = true) (hy : y.cls ≠ "java/lang/invoke/MethodHandle" ∧ y.cls ≠ "java/lang/invoke/VarHandle")
    {rm : Room} {as' : Array Value} (hM : own_Met l Z y bytes maxL none rm as' h n0 Q) (hf : rm.frames + 1 ≤ R.frames) {W : Nat} (hlo : W + (maxL + 11) + rm.locals ≤ R.locals) {g : JFrame} (hg : g.method = m) (hsize : g.locals.size = c.maxLocals) {a : Addr} {argsL rest : List Value} (hlen : ∀ sig, parseMethodDescriptor y.desc = some sig → argsL.length = sig.parameters.length) (has : (.ref a :: argsL).toArray = as')
    (hstack : g.stack = argsL.reverse ++ .ref a :: rest) (hW : 2 * g.monitorRoom + (rest.map fun v => v.category).sum ≤ W) (hd : decode c.code g.pc = .ok (.invokespecial index, 3)) (hc : C + rm.cells ≤ R.cells) (hs : S + rm.slots ≤ R.slots)
    (k : ∀ v T' h', own_Sd p l e R s m args below meth c n0 T' h' (C + rm.cells) (S + rm.slots) → Q v h' → own_Go p e below P (T'.setTop { g with pc := g.pc + 3, stack := v.toList ++ rest })) : own_Go p e below P (T.setTop g) := by
  obtain ⟨L, X, N, eT, r1, r2⟩ := X
  obtain ⟨v, _, ⟨T', L', k', n'⟩, -, X', ⟨Lc, ⟨hQ, hsz, hN⟩, e1, e2, e3⟩, st⟩ := X.specialBack hx hy1 hown (mvT hZ w1) (mvT hZ w2) (mvT hZ w4) hy (own_back (W := W) hM hZ w4 w3 hf hlo) hg hsize (Steps.refl _) hlen hstack hW hd (fun _ _ => ⟨has, eT, hc, hs⟩)
  dsimp only [Pt.U, Pt.locs, Pt.cells, Pt.slots] at X' e1 e2 e3 st hQ hsz
  subst e1 e2 e3
  exact own_st (fun _ q => st.trans q) (k v T' T'.heap ⟨_, X', Fr.app N hN, rfl, r1, Nat.le_trans r2 hsz⟩ hQ)
theorem own_callV (X : own_Sd p l e R s m args below meth c n0 T h C S) (hx : p.tables.exec = Jvm.exec) (hZ : Z.Warmed39 s.vm) {own K : String} {index : Nat} {y : MethodName} {bytes : ByteArray} {maxL : Nat} {ret : Option FieldType} (hown : s.vm.findClass own = some m.cls)
    (w1 : (Cond.methodLink own index y).before a0 Z = true) (w2 : (Cond.declares y).before a0 Z = true) (w5 : (Cond.selects K y y).before a0 Z = true) (w6 : (Cond.instanceMethod y).before a0 Z = true) (w3 : (Cond.initialized y.cls).before a0 Z = true) (w4 : (Cond.code y bytes maxL ret).before a0 Z = true) (hy : y.cls ≠ "java/lang/invoke/MethodHandle" ∧ y.cls ≠ "java/lang/invoke/VarHandle")
    {a : Addr} (E : Exa Z h a K) {rm : Room} {as' : Array Value} (hM : own_Met l Z y bytes maxL ret rm as' h n0 Q) (hf : rm.frames + 1 ≤ R.frames) {W : Nat} (hlo : W + (maxL + 11) + rm.locals ≤ R.locals) {g : JFrame} (hg : g.method = m) (hsize : g.locals.size = c.maxLocals) {argsL rest : List Value} (hlen : ∀ sig, parseMethodDescriptor y.desc = some sig → argsL.length = sig.parameters.length) (has : (.ref a :: argsL).toArray = as')
    (hstack : g.stack = argsL.reverse ++ .ref a :: rest) (hW : 2 * g.monitorRoom + (rest.map fun v => v.category).sum ≤ W) (hd : decode c.code g.pc = .ok (.invokevirtual index, 3)) (hc : C + rm.cells ≤ R.cells) (hs : S + rm.slots ≤ R.slots)
    (k : ∀ v T' h', own_Sd p l e R s m args below meth c n0 T' h' (C + rm.cells) (S + rm.slots) → Q v h' → own_Go p e below P (T'.setTop { g with pc := g.pc + 3, stack := v.toList ++ rest })) : own_Go p e below P (T.setTop g) := by
  obtain ⟨L, X, N, eT, r1, r2⟩ := X
  obtain ⟨cB, kB, q1, q2, q3⟩ := isOf hZ eT E
  obtain ⟨v, _, ⟨T', L', k', n'⟩, -, X', ⟨Lc, ⟨hQ, hsz, hN⟩, e1, e2, e3⟩, st⟩ := X.virtualBack hx hown (mvT hZ w1) (mvT hZ w2) (notFace_of_selects (args := #[]) (mvT hZ w5)) (mvT hZ w5) (mvT hZ w6) hy (own_back (W := W) hM hZ w4 w3 hf hlo) q1 q3 hg hsize (Steps.refl _) hlen hstack hW hd (fun _ _ => ⟨has, eT, hc, hs⟩)
  dsimp only [Pt.U, Pt.locs, Pt.cells, Pt.slots] at X' e1 e2 e3 st hQ hsz
  subst e1 e2 e3
  exact own_st (fun _ q => st.trans q) (k v T' T'.heap ⟨_, X', Fr.app N hN, rfl, r1, Nat.le_trans r2 hsz⟩ hQ)
theorem own_callP (X : own_Sd p l e R s m args below meth c n0 T h C S) (hx : p.tables.exec = Jvm.exec) (hZ : Z.Warmed39 s.vm) {own K K' : String} {index : Nat} {y y' : MethodName} {bytes : ByteArray} {maxL : Nat} {ret : Option FieldType} (hown : s.vm.findClass own = some m.cls)
    (w1 : (Cond.methodLink own index y).before a0 Z = true) (w7 : (Cond.privateMethod y).before a0 Z = true) (w5 : (Cond.selects K y' y').before a0 Z = true) (hyy : y'.cls = y.cls) (w6 : (Cond.instanceMethod y).before a0 Z = true) (w3 : (Cond.initialized y.cls).before a0 Z = true) (w4 : (Cond.code y bytes maxL ret).before a0 Z = true) (hy : y.cls ≠ "java/lang/invoke/MethodHandle" ∧ y.cls ≠ "java/lang/invoke/VarHandle")
    {a : Addr} (E : Exa Z h a K') {rm : Room} {as' : Array Value} (hM : own_Met l Z y bytes maxL ret rm as' h n0 Q) (hf : rm.frames + 1 ≤ R.frames) {W : Nat} (hlo : W + (maxL + 11) + rm.locals ≤ R.locals) {g : JFrame} (hg : g.method = m) (hsize : g.locals.size = c.maxLocals) {argsL rest : List Value} (hlen : ∀ sig, parseMethodDescriptor y.desc = some sig → argsL.length = sig.parameters.length) (has : (.ref a :: argsL).toArray = as')
    (hstack : g.stack = argsL.reverse ++ .ref a :: rest) (hW : 2 * g.monitorRoom + (rest.map fun v => v.category).sum ≤ W) (hd : decode c.code g.pc = .ok (.invokevirtual index, 3)) (hc : C + rm.cells ≤ R.cells) (hs : S + rm.slots ≤ R.slots)
    (k : ∀ v T' h', own_Sd p l e R s m args below meth c n0 T' h' (C + rm.cells) (S + rm.slots) → Q v h' → own_Go p e below P (T'.setTop { g with pc := g.pc + 3, stack := v.toList ++ rest })) : own_Go p e below P (T.setTop g) := by
  obtain ⟨L, X, N, eT, r1, r2⟩ := X
  obtain ⟨c2, q2, m2, -, -, q3, -, kP, hkP, hkPi⟩ := Cond.selects_spec (mvT hZ w5 : (Cond.selects K y' y').before args s = true)
  have hcl := findClass_of_methodNamed q3
  rw [hyy] at hcl
  have hp := Cond.privateMethod_at (mvP hZ w7 (args := #[]))
  have hsel := selects_self_of_private (args := args) hcl hkP hkPi hp (mvT hZ w6) hy
  obtain ⟨cl, h1, h2⟩ := E.cell
  obtain ⟨v, _, ⟨T', L', k', n'⟩, -, X', ⟨Lc, ⟨hQ, hsz, hN⟩, e1, e2, e3⟩, st⟩ := X.privateBack hx hown (mvT hZ w1) (mvT hZ w6) hsel hp (mvT hZ w4) hy (own_back (W := W) hM hZ w4 w3 hf hlo) hg hsize (Steps.refl _) (by rw [eT]; exact h1) h2 hlen hstack hW hd (fun _ _ => ⟨has, eT, hc, hs⟩)
  dsimp only [Pt.U, Pt.locs, Pt.cells, Pt.slots] at X' e1 e2 e3 st hQ hsz
  subst e1 e2 e3
  exact own_st (fun _ q => st.trans q) (k v T' T'.heap ⟨_, X', Fr.app N hN, rfl, r1, Nat.le_trans r2 hsz⟩ hQ)
/-! calls of methods that leave the heap as it is -/
theorem own_callSp (X : own_Sd p l e R s m args below meth c n0 T h C S) (hx : p.tables.exec = Jvm.exec) (hZ : Z.Warmed39 s.vm) {own : String} {index : Nat} {y : MethodName} {bytes : ByteArray} {maxL : Nat} {ret : Option FieldType} (hown : s.vm.findClass own = some m.cls)
    (w1 : (Cond.methodLink own index y).before a0 Z = true) (w2 : (Cond.static y).before a0 Z = true) (w3 : (Cond.initialized y.cls).before a0 Z = true) (w4 : (Cond.code y bytes maxL ret).before a0 Z = true) (hy : y.cls ≠ "java/lang/invoke/MethodHandle" ∧ y.cls ≠ "java/lang/invoke/VarHandle")
    {rm : Room} {as' : Array Value} {r : Option Value} (hM : own_Met l Z y bytes maxL ret rm as' h n0 (fun v' h' => v' = r ∧ h' = h)) (hf : rm.frames + 1 ≤ R.frames) {W : Nat} (hlo : W + (maxL + 11) + rm.locals ≤ R.locals) {g : JFrame} (hg : g.method = m) (hsize : g.locals.size = c.maxLocals) {argsL rest : List Value} (hlen : ∀ sig, parseMethodDescriptor y.desc = some sig → argsL.length = sig.parameters.length) (has : argsL.toArray = as')
    (hstack : g.stack = argsL.reverse ++ rest) (hW : 2 * g.monitorRoom + (rest.map fun v => v.category).sum ≤ W) (hd : decode c.code g.pc = .ok (.invokestatic index, 3)) (hc : C + rm.cells ≤ R.cells) (hs : S + rm.slots ≤ R.slots)
    (k : ∀ T', own_Sd p l e R s m args below meth c n0 T' h (C + rm.cells) (S + rm.slots) → own_Go p e below P (T'.setTop { g with pc := g.pc + 3, stack := r.toList ++ rest })) : own_Go p e below P (T.setTop g) :=
  own_callS X hx hZ hown w1 w2 w3 w4 hy hM hf hlo hg hsize hlen has hstack hW hd hc hs fun v T' h' X' q => by
    obtain ⟨e1, e2⟩ := q; rw [e1]; rw [e2] at X'; exact k T' X'
theorem own_callVp (X : own_Sd p l e R s m args below meth c n0 T h C S) (hx : p.tables.exec = Jvm.exec) (hZ : Z.Warmed39 s.vm) {own K : String} {index : Nat} {y : MethodName} {bytes : ByteArray} {maxL : Nat} {ret : Option FieldType} (hown : s.vm.findClass own = some m.cls)
    (w1 : (Cond.methodLink own index y).before a0 Z = true) (w2 : (Cond.declares y).before a0 Z = true) (w5 : (Cond.selects K y y).before a0 Z = true) (w6 : (Cond.instanceMethod y).before a0 Z = true) (w3 : (Cond.initialized y.cls).before a0 Z = true) (w4 : (Cond.code y bytes maxL ret).before a0 Z = true) (hy : y.cls ≠ "java/lang/invoke/MethodHandle" ∧ y.cls ≠ "java/lang/invoke/VarHandle")
    {a : Addr} (E : Exa Z h a K) {rm : Room} {as' : Array Value} {r : Option Value} (hM : own_Met l Z y bytes maxL ret rm as' h n0 (fun v' h' => v' = r ∧ h' = h)) (hf : rm.frames + 1 ≤ R.frames) {W : Nat} (hlo : W + (maxL + 11) + rm.locals ≤ R.locals) {g : JFrame} (hg : g.method = m) (hsize : g.locals.size = c.maxLocals) {argsL rest : List Value} (hlen : ∀ sig, parseMethodDescriptor y.desc = some sig → argsL.length = sig.parameters.length) (has : (.ref a :: argsL).toArray = as')
    (hstack : g.stack = argsL.reverse ++ .ref a :: rest) (hW : 2 * g.monitorRoom + (rest.map fun v => v.category).sum ≤ W) (hd : decode c.code g.pc = .ok (.invokevirtual index, 3)) (hc : C + rm.cells ≤ R.cells) (hs : S + rm.slots ≤ R.slots)
    (k : ∀ T', own_Sd p l e R s m args below meth c n0 T' h (C + rm.cells) (S + rm.slots) → own_Go p e below P (T'.setTop { g with pc := g.pc + 3, stack := r.toList ++ rest })) : own_Go p e below P (T.setTop g) :=
  own_callV X hx hZ hown w1 w2 w5 w6 w3 w4 hy E hM hf hlo hg hsize hlen has hstack hW hd hc hs fun v T' h' X' q => by
    obtain ⟨e1, e2⟩ := q; rw [e1]; rw [e2] at X'; exact k T' X'
theorem own_callCp (X : own_Sd p l e R s m args below meth c n0 T h C S) (hx : p.tables.exec = Jvm.exec) (hZ : Z.Warmed39 s.vm) {own : String} {index : Nat} {y : MethodName} {bytes : ByteArray} {maxL : Nat} (hy1 : y.name = "<init>") (hown : s.vm.findClass own = some m.cls)
    (w1 : (Cond.methodLink own index y).before a0 Z = true) (w2 : (Cond.instanceMethod y).before a0 Z = true) (w3 : (Cond.initialized y.cls).before a0 Z = true) (w4 : (Cond.code y bytes maxL none).before a0 Z = true) (hy : y.cls ≠ "java/lang/invoke/MethodHandle" ∧ y.cls ≠ "java/lang/invoke/VarHandle")
    {rm : Room} {as' : Array Value} {r : Option Value} (hM : own_Met l Z y bytes maxL none rm as' h n0 (fun v' h' => v' = r ∧ h' = h)) (hf : rm.frames + 1 ≤ R.frames) {W : Nat} (hlo : W + (maxL + 11) + rm.locals ≤ R.locals) {g : JFrame} (hg : g.method = m) (hsize : g.locals.size = c.maxLocals) {a : Addr} {argsL rest : List Value} (hlen : ∀ sig, parseMethodDescriptor y.desc = some sig → argsL.length = sig.parameters.length) (has : (.ref a :: argsL).toArray = as')
    (hstack : g.stack = argsL.reverse ++ .ref a :: rest) (hW : 2 * g.monitorRoom + (rest.map fun v => v.category).sum ≤ W) (hd : decode c.code g.pc = .ok (.invokespecial index, 3)) (hc : C + rm.cells ≤ R.cells) (hs : S + rm.slots ≤ R.slots)
    (k : ∀ T', own_Sd p l e R s m args below meth c n0 T' h (C + rm.cells) (S + rm.slots) → own_Go p e below P (T'.setTop { g with pc := g.pc + 3, stack := r.toList ++ rest })) : own_Go p e below P (T.setTop g) :=
  own_callC X hx hZ hy1 hown w1 w2 w3 w4 hy hM hf hlo hg hsize hlen has hstack hW hd hc hs fun v T' h' X' q => by
    obtain ⟨e1, e2⟩ := q; rw [e1]; rw [e2] at X'; exact k T' X'
theorem own_callPp (X : own_Sd p l e R s m args below meth c n0 T h C S) (hx : p.tables.exec = Jvm.exec) (hZ : Z.Warmed39 s.vm) {own K K' : String} {index : Nat} {y y' : MethodName} {bytes : ByteArray} {maxL : Nat} {ret : Option FieldType} (hown : s.vm.findClass own = some m.cls)
    (w1 : (Cond.methodLink own index y).before a0 Z = true) (w7 : (Cond.privateMethod y).before a0 Z = true) (w5 : (Cond.selects K y' y').before a0 Z = true) (hyy : y'.cls = y.cls) (w6 : (Cond.instanceMethod y).before a0 Z = true) (w3 : (Cond.initialized y.cls).before a0 Z = true) (w4 : (Cond.code y bytes maxL ret).before a0 Z = true) (hy : y.cls ≠ "java/lang/invoke/MethodHandle" ∧ y.cls ≠ "java/lang/invoke/VarHandle")
    {a : Addr} (E : Exa Z h a K') {rm : Room} {as' : Array Value} {r : Option Value} (hM : own_Met l Z y bytes maxL ret rm as' h n0 (fun v' h' => v' = r ∧ h' = h)) (hf : rm.frames + 1 ≤ R.frames) {W : Nat} (hlo : W + (maxL + 11) + rm.locals ≤ R.locals) {g : JFrame} (hg : g.method = m) (hsize : g.locals.size = c.maxLocals) {argsL rest : List Value} (hlen : ∀ sig, parseMethodDescriptor y.desc = some sig → argsL.length = sig.parameters.length) (has : (.ref a :: argsL).toArray = as')
    (hstack : g.stack = argsL.reverse ++ .ref a :: rest) (hW : 2 * g.monitorRoom + (rest.map fun v => v.category).sum ≤ W) (hd : decode c.code g.pc = .ok (.invokevirtual index, 3)) (hc : C + rm.cells ≤ R.cells) (hs : S + rm.slots ≤ R.slots)
    (k : ∀ T', own_Sd p l e R s m args below meth c n0 T' h (C + rm.cells) (S + rm.slots) → own_Go p e below P (T'.setTop { g with pc := g.pc + 3, stack := r.toList ++ rest })) : own_Go p e below P (T.setTop g) :=
  own_callP X hx hZ hown w1 w7 w5 hyy w6 w3 w4 hy E hM hf hlo hg hsize hlen has hstack hW hd hc hs fun v T' h' X' q => by
    obtain ⟨e1, e2⟩ := q; rw [e1]; rw [e2] at X'; exact k T' X'
end Own
section OwnS
variable {p : Program} {l : Launch} {e : Env} {R : Room} {s : State} {m : MethodId} {args : Array Value} {below : List Frame} {meth : Method} {c : Code} {T : State} {n0 C S : Nat} {Z : State} {a0 : Array Value} {h h' : Heap} {P : State → Outcome → Prop} {Q : Option Value → Heap → Prop} {a b : Addr} {ty : FieldType} {vs : List Value} {v : Value} {sl i : Nat}
variable {bytes : ByteArray} {maxL : Nat} {y : MethodName} {ret : Option FieldType} {pc : Nat} {Ls Ls' : Array Slot} {st : List Value}
theorem o_w (hw : ∀ d ∈ tables_1, d.before a0 Z = true) (i : Nat) {d : Jvm.Cond} (q : tables_1[i]? = some d) : d.before a0 Z = true := hw d (List.mem_of_getElem? q)
theorem o_iload (cx : own_Cx p s m meth c Z bytes maxL y ret) (X : own_Sd p l e R s m args below meth c n0 T h C S) {k : Nat} {z : Int32} (hd : decode bytes pc = .ok (.iload k, 2)) (hl : Ls[k]? = some (.val (.int z))) (k : own_Go p e below P (T.setTop (mkF m (pc + 2) Ls (.int z :: st)))) : own_Go p e below P (T.setTop (mkF m pc Ls st)) := by
  obtain ⟨hx, hby, -⟩ := cx
  exact own_st (fun _ q => XS.iload X.here hx rfl (hb hby hd) hl q) k
theorem o_lload (cx : own_Cx p s m meth c Z bytes maxL y ret) (X : own_Sd p l e R s m args below meth c n0 T h C S) {k : Nat} {z : Int64} (hd : decode bytes pc = .ok (.lload k, 2)) (hl : Ls[k]? = some (.val (.long z))) (k : own_Go p e below P (T.setTop (mkF m (pc + 2) Ls (.long z :: st)))) : own_Go p e below P (T.setTop (mkF m pc Ls st)) := by
  obtain ⟨hx, hby, -⟩ := cx
  exact own_st (fun _ q => XS.lload X.here hx rfl (hb hby hd) hl q) k
theorem o_aload (cx : own_Cx p s m meth c Z bytes maxL y ret) (X : own_Sd p l e R s m args below meth c n0 T h C S) {k : Nat} {v : Value} (hd : decode bytes pc = .ok (.aload k, 2)) (hl : Ls[k]? = some (.val v)) (hv : v.isRef = true) (k : own_Go p e below P (T.setTop (mkF m (pc + 2) Ls (v :: st)))) : own_Go p e below P (T.setTop (mkF m pc Ls st)) := by
  obtain ⟨hx, hby, -⟩ := cx
  exact own_st (fun _ q => XS.aload X.here hx rfl (hb hby hd) hl hv q) k
theorem o_istore (cx : own_Cx p s m meth c Z bytes maxL y ret) (X : own_Sd p l e R s m args below meth c n0 T h C S) {k : Nat} {z : Int32} (hd : decode bytes pc = .ok (.istore k, 2)) (hl : storeLocals Ls k (.int z) = some Ls') (k : own_Go p e below P (T.setTop (mkF m (pc + 2) Ls' st))) : own_Go p e below P (T.setTop (mkF m pc Ls (.int z :: st))) := by
  obtain ⟨hx, hby, -⟩ := cx
  exact own_st (fun _ q => XS.istore X.here hx rfl (hb hby hd) rfl hl q) k
theorem o_lstore (cx : own_Cx p s m meth c Z bytes maxL y ret) (X : own_Sd p l e R s m args below meth c n0 T h C S) {k : Nat} {z : Int64} (hd : decode bytes pc = .ok (.lstore k, 2)) (hl : storeLocals Ls k (.long z) = some Ls') (k : own_Go p e below P (T.setTop (mkF m (pc + 2) Ls' st))) : own_Go p e below P (T.setTop (mkF m pc Ls (.long z :: st))) := by
  obtain ⟨hx, hby, -⟩ := cx
  exact own_st (fun _ q => XS.lstore X.here hx rfl (hb hby hd) rfl hl q) k
theorem o_astore (cx : own_Cx p s m meth c Z bytes maxL y ret) (X : own_Sd p l e R s m args below meth c n0 T h C S) {k : Nat} {v : Value} (hd : decode bytes pc = .ok (.astore k, 2)) (hv : v.isRef = true) (hl : storeLocals Ls k v = some Ls') (k : own_Go p e below P (T.setTop (mkF m (pc + 2) Ls' st))) : own_Go p e below P (T.setTop (mkF m pc Ls (v :: st))) := by
  obtain ⟨hx, hby, -⟩ := cx
  exact own_st (fun _ q => XS.astore X.here hx rfl (hb hby hd) rfl hv hl q) k
theorem o_iloadN (cx : own_Cx p s m meth c Z bytes maxL y ret) (X : own_Sd p l e R s m args below meth c n0 T h C S) {k : Fin 4} {z : Int32} (hd : decode bytes pc = .ok (.iload_n k, 1)) (hl : Ls[k.val]? = some (.val (.int z))) (k : own_Go p e below P (T.setTop (mkF m (pc + 1) Ls (.int z :: st)))) : own_Go p e below P (T.setTop (mkF m pc Ls st)) := by
  obtain ⟨hx, hby, -⟩ := cx
  exact own_st (fun _ q => XS.iloadN X.here hx rfl (hb hby hd) hl q) k
theorem o_lloadN (cx : own_Cx p s m meth c Z bytes maxL y ret) (X : own_Sd p l e R s m args below meth c n0 T h C S) {k : Fin 4} {z : Int64} (hd : decode bytes pc = .ok (.lload_n k, 1)) (hl : Ls[k.val]? = some (.val (.long z))) (k : own_Go p e below P (T.setTop (mkF m (pc + 1) Ls (.long z :: st)))) : own_Go p e below P (T.setTop (mkF m pc Ls st)) := by
  obtain ⟨hx, hby, -⟩ := cx
  exact own_st (fun _ q => XS.lloadN X.here hx rfl (hb hby hd) hl q) k
theorem o_aloadN (cx : own_Cx p s m meth c Z bytes maxL y ret) (X : own_Sd p l e R s m args below meth c n0 T h C S) {k : Fin 4} {v : Value} (hd : decode bytes pc = .ok (.aload_n k, 1)) (hl : Ls[k.val]? = some (.val v)) (hv : v.isRef = true) (k : own_Go p e below P (T.setTop (mkF m (pc + 1) Ls (v :: st)))) : own_Go p e below P (T.setTop (mkF m pc Ls st)) := by
  obtain ⟨hx, hby, -⟩ := cx
  exact own_st (fun _ q => XS.aloadN X.here hx rfl (hb hby hd) hl hv q) k
theorem o_istoreN (cx : own_Cx p s m meth c Z bytes maxL y ret) (X : own_Sd p l e R s m args below meth c n0 T h C S) {k : Fin 4} {z : Int32} (hd : decode bytes pc = .ok (.istore_n k, 1)) (hl : storeLocals Ls k.val (.int z) = some Ls') (k : own_Go p e below P (T.setTop (mkF m (pc + 1) Ls' st))) : own_Go p e below P (T.setTop (mkF m pc Ls (.int z :: st))) := by
  obtain ⟨hx, hby, -⟩ := cx
  exact own_st (fun _ q => XS.istoreN X.here hx rfl (hb hby hd) rfl hl q) k
theorem o_lstoreN (cx : own_Cx p s m meth c Z bytes maxL y ret) (X : own_Sd p l e R s m args below meth c n0 T h C S) {k : Fin 4} {z : Int64} (hd : decode bytes pc = .ok (.lstore_n k, 1)) (hl : storeLocals Ls k.val (.long z) = some Ls') (k : own_Go p e below P (T.setTop (mkF m (pc + 1) Ls' st))) : own_Go p e below P (T.setTop (mkF m pc Ls (.long z :: st))) := by
  obtain ⟨hx, hby, -⟩ := cx
  exact own_st (fun _ q => XS.lstoreN X.here hx rfl (hb hby hd) rfl hl q) k
theorem o_astoreN (cx : own_Cx p s m meth c Z bytes maxL y ret) (X : own_Sd p l e R s m args below meth c n0 T h C S) {k : Fin 4} {v : Value} (hd : decode bytes pc = .ok (.astore_n k, 1)) (hv : v.isRef = true) (hl : storeLocals Ls k.val v = some Ls') (k : own_Go p e below P (T.setTop (mkF m (pc + 1) Ls' st))) : own_Go p e below P (T.setTop (mkF m pc Ls (v :: st))) := by
  obtain ⟨hx, hby, -⟩ := cx
  exact own_st (fun _ q => XS.astoreN X.here hx rfl (hb hby hd) rfl hv hl q) k
theorem o_iconst (cx : own_Cx p s m meth c Z bytes maxL y ret) (X : own_Sd p l e R s m args below meth c n0 T h C S) {i : Int} {z : Int32} (hd : decode bytes pc = .ok (.iconst i, 1)) (hz : Int32.ofInt i = z) (k : own_Go p e below P (T.setTop (mkF m (pc + 1) Ls (.int z :: st)))) : own_Go p e below P (T.setTop (mkF m pc Ls st)) := by
  obtain ⟨hx, hby, -⟩ := cx
  exact own_st (fun _ q => XS.iconst X.here hx rfl (hb hby hd) (by rw [hz]; exact q)) k
theorem o_bipush (cx : own_Cx p s m meth c Z bytes maxL y ret) (X : own_Sd p l e R s m args below meth c n0 T h C S) {i : Int} {z : Int32} (hd : decode bytes pc = .ok (.bipush i, 2)) (hz : (Int8.ofInt i).toInt32 = z) (k : own_Go p e below P (T.setTop (mkF m (pc + 2) Ls (.int z :: st)))) : own_Go p e below P (T.setTop (mkF m pc Ls st)) := by
  obtain ⟨hx, hby, -⟩ := cx
  exact own_st (fun _ q => XS.bipush X.here hx rfl (hb hby hd) (by rw [hz]; exact q)) k
theorem o_sipush (cx : own_Cx p s m meth c Z bytes maxL y ret) (X : own_Sd p l e R s m args below meth c n0 T h C S) {i : Int} {z : Int32} (hd : decode bytes pc = .ok (.sipush i, 3)) (hz : (Int16.ofInt i).toInt32 = z) (k : own_Go p e below P (T.setTop (mkF m (pc + 3) Ls (.int z :: st)))) : own_Go p e below P (T.setTop (mkF m pc Ls st)) := by
  obtain ⟨hx, hby, -⟩ := cx
  exact own_st (fun _ q => XS.sipush X.here hx rfl (hb hby hd) (by rw [hz]; exact q)) k
theorem o_lconst (cx : own_Cx p s m meth c Z bytes maxL y ret) (X : own_Sd p l e R s m args below meth c n0 T h C S) {j : Fin 2} {z : Int64} (hd : decode bytes pc = .ok (.lconst j, 1)) (hz : Int64.ofNat j = z) (k : own_Go p e below P (T.setTop (mkF m (pc + 1) Ls (.long z :: st)))) : own_Go p e below P (T.setTop (mkF m pc Ls st)) := by
  obtain ⟨hx, hby, -⟩ := cx
  exact own_st (fun _ q => XS.lconst X.here hx rfl (hb hby hd) (by rw [hz]; exact q)) k
theorem o_aconst_null (cx : own_Cx p s m meth c Z bytes maxL y ret) (X : own_Sd p l e R s m args below meth c n0 T h C S)  (hd : decode bytes pc = .ok (.aconst_null, 1))  (k : own_Go p e below P (T.setTop (mkF m (pc + 1) Ls (.null :: st)))) : own_Go p e below P (T.setTop (mkF m pc Ls st)) := by
  obtain ⟨hx, hby, -⟩ := cx
  exact own_st (fun _ q => XS.aconstNull X.here hx rfl (hb hby hd) q) k
theorem o_iadd (cx : own_Cx p s m meth c Z bytes maxL y ret) (X : own_Sd p l e R s m args below meth c n0 T h C S) {x w z : Int32} (hd : decode bytes pc = .ok (.iadd, 1)) (hz : (x + w) = z) (k : own_Go p e below P (T.setTop (mkF m (pc + 1) Ls (.int z :: st)))) : own_Go p e below P (T.setTop (mkF m pc Ls (.int w :: .int x :: st))) := by
  obtain ⟨hx, hby, -⟩ := cx
  exact own_st (fun _ q => XS.iadd X.here hx rfl (hb hby hd) rfl (by rw [hz]; exact q)) k
theorem o_isub (cx : own_Cx p s m meth c Z bytes maxL y ret) (X : own_Sd p l e R s m args below meth c n0 T h C S) {x w z : Int32} (hd : decode bytes pc = .ok (.isub, 1)) (hz : (x - w) = z) (k : own_Go p e below P (T.setTop (mkF m (pc + 1) Ls (.int z :: st)))) : own_Go p e below P (T.setTop (mkF m pc Ls (.int w :: .int x :: st))) := by
  obtain ⟨hx, hby, -⟩ := cx
  exact own_st (fun _ q => XS.isub X.here hx rfl (hb hby hd) rfl (by rw [hz]; exact q)) k
theorem o_imul (cx : own_Cx p s m meth c Z bytes maxL y ret) (X : own_Sd p l e R s m args below meth c n0 T h C S) {x w z : Int32} (hd : decode bytes pc = .ok (.imul, 1)) (hz : (x * w) = z) (k : own_Go p e below P (T.setTop (mkF m (pc + 1) Ls (.int z :: st)))) : own_Go p e below P (T.setTop (mkF m pc Ls (.int w :: .int x :: st))) := by
  obtain ⟨hx, hby, -⟩ := cx
  exact own_st (fun _ q => XS.imul X.here hx rfl (hb hby hd) rfl (by rw [hz]; exact q)) k
theorem o_iand (cx : own_Cx p s m meth c Z bytes maxL y ret) (X : own_Sd p l e R s m args below meth c n0 T h C S) {x w z : Int32} (hd : decode bytes pc = .ok (.iand, 1)) (hz : (x &&& w) = z) (k : own_Go p e below P (T.setTop (mkF m (pc + 1) Ls (.int z :: st)))) : own_Go p e below P (T.setTop (mkF m pc Ls (.int w :: .int x :: st))) := by
  obtain ⟨hx, hby, -⟩ := cx
  exact own_st (fun _ q => XS.iand X.here hx rfl (hb hby hd) rfl (by rw [hz]; exact q)) k
theorem o_ior (cx : own_Cx p s m meth c Z bytes maxL y ret) (X : own_Sd p l e R s m args below meth c n0 T h C S) {x w z : Int32} (hd : decode bytes pc = .ok (.ior, 1)) (hz : (x ||| w) = z) (k : own_Go p e below P (T.setTop (mkF m (pc + 1) Ls (.int z :: st)))) : own_Go p e below P (T.setTop (mkF m pc Ls (.int w :: .int x :: st))) := by
  obtain ⟨hx, hby, -⟩ := cx
  exact own_st (fun _ q => XS.ior X.here hx rfl (hb hby hd) rfl (by rw [hz]; exact q)) k
theorem o_ixor (cx : own_Cx p s m meth c Z bytes maxL y ret) (X : own_Sd p l e R s m args below meth c n0 T h C S) {x w z : Int32} (hd : decode bytes pc = .ok (.ixor, 1)) (hz : (x ^^^ w) = z) (k : own_Go p e below P (T.setTop (mkF m (pc + 1) Ls (.int z :: st)))) : own_Go p e below P (T.setTop (mkF m pc Ls (.int w :: .int x :: st))) := by
  obtain ⟨hx, hby, -⟩ := cx
  exact own_st (fun _ q => XS.ixor X.here hx rfl (hb hby hd) rfl (by rw [hz]; exact q)) k
theorem o_ishl (cx : own_Cx p s m meth c Z bytes maxL y ret) (X : own_Sd p l e R s m args below meth c n0 T h C S) {x w z : Int32} (hd : decode bytes pc = .ok (.ishl, 1)) (hz : (x <<< (w &&& 31)) = z) (k : own_Go p e below P (T.setTop (mkF m (pc + 1) Ls (.int z :: st)))) : own_Go p e below P (T.setTop (mkF m pc Ls (.int w :: .int x :: st))) := by
  obtain ⟨hx, hby, -⟩ := cx
  exact own_st (fun _ q => XS.ishl X.here hx rfl (hb hby hd) rfl (by rw [hz]; exact q)) k
theorem o_ishr (cx : own_Cx p s m meth c Z bytes maxL y ret) (X : own_Sd p l e R s m args below meth c n0 T h C S) {x w z : Int32} (hd : decode bytes pc = .ok (.ishr, 1)) (hz : (x >>> (w &&& 31)) = z) (k : own_Go p e below P (T.setTop (mkF m (pc + 1) Ls (.int z :: st)))) : own_Go p e below P (T.setTop (mkF m pc Ls (.int w :: .int x :: st))) := by
  obtain ⟨hx, hby, -⟩ := cx
  exact own_st (fun _ q => XS.ishr X.here hx rfl (hb hby hd) rfl (by rw [hz]; exact q)) k
theorem o_iushr (cx : own_Cx p s m meth c Z bytes maxL y ret) (X : own_Sd p l e R s m args below meth c n0 T h C S) {x w z : Int32} (hd : decode bytes pc = .ok (.iushr, 1)) (hz : ((x.toUInt32 >>> (w &&& 31).toUInt32).toInt32) = z) (k : own_Go p e below P (T.setTop (mkF m (pc + 1) Ls (.int z :: st)))) : own_Go p e below P (T.setTop (mkF m pc Ls (.int w :: .int x :: st))) := by
  obtain ⟨hx, hby, -⟩ := cx
  exact own_st (fun _ q => XS.iushr X.here hx rfl (hb hby hd) rfl (by rw [hz]; exact q)) k
theorem o_ladd (cx : own_Cx p s m meth c Z bytes maxL y ret) (X : own_Sd p l e R s m args below meth c n0 T h C S) {x w z : Int64} (hd : decode bytes pc = .ok (.ladd, 1)) (hz : (x + w) = z) (k : own_Go p e below P (T.setTop (mkF m (pc + 1) Ls (.long z :: st)))) : own_Go p e below P (T.setTop (mkF m pc Ls (.long w :: .long x :: st))) := by
  obtain ⟨hx, hby, -⟩ := cx
  exact own_st (fun _ q => XS.ladd X.here hx rfl (hb hby hd) rfl (by rw [hz]; exact q)) k
theorem o_lsub (cx : own_Cx p s m meth c Z bytes maxL y ret) (X : own_Sd p l e R s m args below meth c n0 T h C S) {x w z : Int64} (hd : decode bytes pc = .ok (.lsub, 1)) (hz : (x - w) = z) (k : own_Go p e below P (T.setTop (mkF m (pc + 1) Ls (.long z :: st)))) : own_Go p e below P (T.setTop (mkF m pc Ls (.long w :: .long x :: st))) := by
  obtain ⟨hx, hby, -⟩ := cx
  exact own_st (fun _ q => XS.lsub X.here hx rfl (hb hby hd) rfl (by rw [hz]; exact q)) k
theorem o_lmul (cx : own_Cx p s m meth c Z bytes maxL y ret) (X : own_Sd p l e R s m args below meth c n0 T h C S) {x w z : Int64} (hd : decode bytes pc = .ok (.lmul, 1)) (hz : (x * w) = z) (k : own_Go p e below P (T.setTop (mkF m (pc + 1) Ls (.long z :: st)))) : own_Go p e below P (T.setTop (mkF m pc Ls (.long w :: .long x :: st))) := by
  obtain ⟨hx, hby, -⟩ := cx
  exact own_st (fun _ q => XS.lmul X.here hx rfl (hb hby hd) rfl (by rw [hz]; exact q)) k
theorem o_land (cx : own_Cx p s m meth c Z bytes maxL y ret) (X : own_Sd p l e R s m args below meth c n0 T h C S) {x w z : Int64} (hd : decode bytes pc = .ok (.land, 1)) (hz : (x &&& w) = z) (k : own_Go p e below P (T.setTop (mkF m (pc + 1) Ls (.long z :: st)))) : own_Go p e below P (T.setTop (mkF m pc Ls (.long w :: .long x :: st))) := by
  obtain ⟨hx, hby, -⟩ := cx
  exact own_st (fun _ q => XS.land X.here hx rfl (hb hby hd) rfl (by rw [hz]; exact q)) k
theorem o_lor (cx : own_Cx p s m meth c Z bytes maxL y ret) (X : own_Sd p l e R s m args below meth c n0 T h C S) {x w z : Int64} (hd : decode bytes pc = .ok (.lor, 1)) (hz : (x ||| w) = z) (k : own_Go p e below P (T.setTop (mkF m (pc + 1) Ls (.long z :: st)))) : own_Go p e below P (T.setTop (mkF m pc Ls (.long w :: .long x :: st))) := by
  obtain ⟨hx, hby, -⟩ := cx
  exact own_st (fun _ q => XS.lor X.here hx rfl (hb hby hd) rfl (by rw [hz]; exact q)) k
theorem o_lxor (cx : own_Cx p s m meth c Z bytes maxL y ret) (X : own_Sd p l e R s m args below meth c n0 T h C S) {x w z : Int64} (hd : decode bytes pc = .ok (.lxor, 1)) (hz : (x ^^^ w) = z) (k : own_Go p e below P (T.setTop (mkF m (pc + 1) Ls (.long z :: st)))) : own_Go p e below P (T.setTop (mkF m pc Ls (.long w :: .long x :: st))) := by
  obtain ⟨hx, hby, -⟩ := cx
  exact own_st (fun _ q => XS.lxor X.here hx rfl (hb hby hd) rfl (by rw [hz]; exact q)) k
theorem o_lshl (cx : own_Cx p s m meth c Z bytes maxL y ret) (X : own_Sd p l e R s m args below meth c n0 T h C S) {x : Int64} {w : Int32} {z : Int64} (hd : decode bytes pc = .ok (.lshl, 1)) (hz : (x <<< (w &&& 0x3f).toInt64) = z) (k : own_Go p e below P (T.setTop (mkF m (pc + 1) Ls (.long z :: st)))) : own_Go p e below P (T.setTop (mkF m pc Ls (.int w :: .long x :: st))) := by
  obtain ⟨hx, hby, -⟩ := cx
  exact own_st (fun _ q => XS.lshl X.here hx rfl (hb hby hd) rfl (by rw [hz]; exact q)) k
theorem o_lshr (cx : own_Cx p s m meth c Z bytes maxL y ret) (X : own_Sd p l e R s m args below meth c n0 T h C S) {x : Int64} {w : Int32} {z : Int64} (hd : decode bytes pc = .ok (.lshr, 1)) (hz : (x >>> (w &&& 0x3f).toInt64) = z) (k : own_Go p e below P (T.setTop (mkF m (pc + 1) Ls (.long z :: st)))) : own_Go p e below P (T.setTop (mkF m pc Ls (.int w :: .long x :: st))) := by
  obtain ⟨hx, hby, -⟩ := cx
  exact own_st (fun _ q => XS.lshr X.here hx rfl (hb hby hd) rfl (by rw [hz]; exact q)) k
theorem o_lushr (cx : own_Cx p s m meth c Z bytes maxL y ret) (X : own_Sd p l e R s m args below meth c n0 T h C S) {x : Int64} {w : Int32} {z : Int64} (hd : decode bytes pc = .ok (.lushr, 1)) (hz : ((x.toUInt64 >>> (w &&& 0x3f).toInt64.toUInt64).toInt64) = z) (k : own_Go p e below P (T.setTop (mkF m (pc + 1) Ls (.long z :: st)))) : own_Go p e below P (T.setTop (mkF m pc Ls (.int w :: .long x :: st))) := by
  obtain ⟨hx, hby, -⟩ := cx
  exact own_st (fun _ q => XS.lushr X.here hx rfl (hb hby hd) rfl (by rw [hz]; exact q)) k
theorem o_ineg (cx : own_Cx p s m meth c Z bytes maxL y ret) (X : own_Sd p l e R s m args below meth c n0 T h C S) {x : Int32} {z : Int32} (hd : decode bytes pc = .ok (.ineg, 1)) (hz : (-x) = z) (k : own_Go p e below P (T.setTop (mkF m (pc + 1) Ls (.int z :: st)))) : own_Go p e below P (T.setTop (mkF m pc Ls (.int x :: st))) := by
  obtain ⟨hx, hby, -⟩ := cx
  exact own_st (fun _ q => XS.ineg X.here hx rfl (hb hby hd) rfl (by rw [hz]; exact q)) k
theorem o_lneg (cx : own_Cx p s m meth c Z bytes maxL y ret) (X : own_Sd p l e R s m args below meth c n0 T h C S) {x : Int64} {z : Int64} (hd : decode bytes pc = .ok (.lneg, 1)) (hz : (-x) = z) (k : own_Go p e below P (T.setTop (mkF m (pc + 1) Ls (.long z :: st)))) : own_Go p e below P (T.setTop (mkF m pc Ls (.long x :: st))) := by
  obtain ⟨hx, hby, -⟩ := cx
  exact own_st (fun _ q => XS.lneg X.here hx rfl (hb hby hd) rfl (by rw [hz]; exact q)) k
theorem o_i2l (cx : own_Cx p s m meth c Z bytes maxL y ret) (X : own_Sd p l e R s m args below meth c n0 T h C S) {x : Int32} {z : Int64} (hd : decode bytes pc = .ok (.i2l, 1)) (hz : (x.toInt64) = z) (k : own_Go p e below P (T.setTop (mkF m (pc + 1) Ls (.long z :: st)))) : own_Go p e below P (T.setTop (mkF m pc Ls (.int x :: st))) := by
  obtain ⟨hx, hby, -⟩ := cx
  exact own_st (fun _ q => XS.i2l X.here hx rfl (hb hby hd) rfl (by rw [hz]; exact q)) k
theorem o_l2i (cx : own_Cx p s m meth c Z bytes maxL y ret) (X : own_Sd p l e R s m args below meth c n0 T h C S) {x : Int64} {z : Int32} (hd : decode bytes pc = .ok (.l2i, 1)) (hz : (x.toInt32) = z) (k : own_Go p e below P (T.setTop (mkF m (pc + 1) Ls (.int z :: st)))) : own_Go p e below P (T.setTop (mkF m pc Ls (.long x :: st))) := by
  obtain ⟨hx, hby, -⟩ := cx
  exact own_st (fun _ q => XS.l2i X.here hx rfl (hb hby hd) rfl (by rw [hz]; exact q)) k
theorem o_i2b (cx : own_Cx p s m meth c Z bytes maxL y ret) (X : own_Sd p l e R s m args below meth c n0 T h C S) {x : Int32} {z : Int32} (hd : decode bytes pc = .ok (.i2b, 1)) (hz : (x.toInt8.toInt32) = z) (k : own_Go p e below P (T.setTop (mkF m (pc + 1) Ls (.int z :: st)))) : own_Go p e below P (T.setTop (mkF m pc Ls (.int x :: st))) := by
  obtain ⟨hx, hby, -⟩ := cx
  exact own_st (fun _ q => XS.i2b X.here hx rfl (hb hby hd) rfl (by rw [hz]; exact q)) k
theorem o_i2s (cx : own_Cx p s m meth c Z bytes maxL y ret) (X : own_Sd p l e R s m args below meth c n0 T h C S) {x : Int32} {z : Int32} (hd : decode bytes pc = .ok (.i2s, 1)) (hz : (x.toInt16.toInt32) = z) (k : own_Go p e below P (T.setTop (mkF m (pc + 1) Ls (.int z :: st)))) : own_Go p e below P (T.setTop (mkF m pc Ls (.int x :: st))) := by
  obtain ⟨hx, hby, -⟩ := cx
  exact own_st (fun _ q => XS.i2s X.here hx rfl (hb hby hd) rfl (by rw [hz]; exact q)) k
theorem o_i2c (cx : own_Cx p s m meth c Z bytes maxL y ret) (X : own_Sd p l e R s m args below meth c n0 T h C S) {x : Int32} {z : Int32} (hd : decode bytes pc = .ok (.i2c, 1)) (hz : (x.toUInt32.toUInt16.toUInt32.toInt32) = z) (k : own_Go p e below P (T.setTop (mkF m (pc + 1) Ls (.int z :: st)))) : own_Go p e below P (T.setTop (mkF m pc Ls (.int x :: st))) := by
  obtain ⟨hx, hby, -⟩ := cx
  exact own_st (fun _ q => XS.i2c X.here hx rfl (hb hby hd) rfl (by rw [hz]; exact q)) k
theorem o_lcmp (cx : own_Cx p s m meth c Z bytes maxL y ret) (X : own_Sd p l e R s m args below meth c n0 T h C S) {x w : Int64} {z : Int32} (hd : decode bytes pc = .ok (.lcmp, 1)) (hz : lcmpW x w = z) (k : own_Go p e below P (T.setTop (mkF m (pc + 1) Ls (.int z :: st)))) : own_Go p e below P (T.setTop (mkF m pc Ls (.long w :: .long x :: st))) := by
  obtain ⟨hx, hby, -⟩ := cx
  exact own_st (fun _ q => XS.lcmp X.here hx rfl (hb hby hd) rfl (by rw [← hz] at q; exact q)) k
theorem o_irem (cx : own_Cx p s m meth c Z bytes maxL y ret) (X : own_Sd p l e R s m args below meth c n0 T h C S) {x w z : Int32} (hd : decode bytes pc = .ok (.irem, 1)) (hw : w ≠ 0) (hz : x % w = z) (k : own_Go p e below P (T.setTop (mkF m (pc + 1) Ls (.int z :: st)))) : own_Go p e below P (T.setTop (mkF m pc Ls (.int w :: .int x :: st))) := by
  obtain ⟨hx, hby, -⟩ := cx
  exact own_st (fun _ q => by obtain ⟨_, X, _⟩ := X; exact iremM X hx rfl (hb hby hd) rfl hw (by rw [hz]; exact q)) k
theorem o_lrem (cx : own_Cx p s m meth c Z bytes maxL y ret) (X : own_Sd p l e R s m args below meth c n0 T h C S) {x w z : Int64} (hd : decode bytes pc = .ok (.lrem, 1)) (hw : w ≠ 0) (hz : x % w = z) (k : own_Go p e below P (T.setTop (mkF m (pc + 1) Ls (.long z :: st)))) : own_Go p e below P (T.setTop (mkF m pc Ls (.long w :: .long x :: st))) := by
  obtain ⟨hx, hby, -⟩ := cx
  exact own_st (fun _ q => XS.lrem X.here hx rfl (hb hby hd) rfl hw (by rw [lrem_mod, hz]; exact q)) k
theorem o_iinc (cx : own_Cx p s m meth c Z bytes maxL y ret) (X : own_Sd p l e R s m args below meth c n0 T h C S) {k : Nat} {i : Int} {x z : Int32} (hd : decode bytes pc = .ok (.iinc k i, 3)) (hl : Ls[k]? = some (.val (.int x))) (hz : x + Int32.ofInt i = z) (hl' : storeLocals Ls k (.int z) = some Ls') (k : own_Go p e below P (T.setTop (mkF m (pc + 3) Ls' st))) : own_Go p e below P (T.setTop (mkF m pc Ls st)) := by
  obtain ⟨hx, hby, -⟩ := cx
  exact own_st (fun _ q => XS.iinc X.here hx rfl (hb hby hd) hl (by rw [hz]; exact hl') q) k
theorem o_dup (cx : own_Cx p s m meth c Z bytes maxL y ret) (X : own_Sd p l e R s m args below meth c n0 T h C S) {v : Value} (hd : decode bytes pc = .ok (.dup, 1)) (hc : v.category = 1) (k : own_Go p e below P (T.setTop (mkF m (pc + 1) Ls (v :: v :: st)))) : own_Go p e below P (T.setTop (mkF m pc Ls (v :: st))) := by
  obtain ⟨hx, hby, -⟩ := cx
  exact own_st (fun _ q => XS.dup X.here hx rfl (hb hby hd) rfl hc q) k
theorem o_pop (cx : own_Cx p s m meth c Z bytes maxL y ret) (X : own_Sd p l e R s m args below meth c n0 T h C S) {v : Value} (hd : decode bytes pc = .ok (.pop, 1)) (hc : v.category = 1) (k : own_Go p e below P (T.setTop (mkF m (pc + 1) Ls st))) : own_Go p e below P (T.setTop (mkF m pc Ls (v :: st))) := by
  obtain ⟨hx, hby, -⟩ := cx
  exact own_st (fun _ q => XS.pop X.here hx rfl (hb hby hd) rfl hc q) k
theorem o_dup_x1 (cx : own_Cx p s m meth c Z bytes maxL y ret) (X : own_Sd p l e R s m args below meth c n0 T h C S) {v w : Value} (hd : decode bytes pc = .ok (.dup_x1, 1)) (hc : v.category = 1) (hc' : w.category = 1) (k : own_Go p e below P (T.setTop (mkF m (pc + 1) Ls (v :: w :: v :: st)))) : own_Go p e below P (T.setTop (mkF m pc Ls (v :: w :: st))) := by
  obtain ⟨hx, hby, -⟩ := cx
  exact own_st (fun _ q => XS.dupX1 X.here hx rfl (hb hby hd) rfl hc hc' q) k
theorem o_dup2 (cx : own_Cx p s m meth c Z bytes maxL y ret) (X : own_Sd p l e R s m args below meth c n0 T h C S) {v w : Value} (hd : decode bytes pc = .ok (.dup2, 1)) (hc : v.category = 1) (hc' : w.category = 1) (k : own_Go p e below P (T.setTop (mkF m (pc + 1) Ls (v :: w :: v :: w :: st)))) : own_Go p e below P (T.setTop (mkF m pc Ls (v :: w :: st))) := by
  obtain ⟨hx, hby, -⟩ := cx
  exact own_st (fun _ q => Jvm.Free.XT.dup2 X.here hx rfl (hb hby hd) rfl hc hc' q) k
theorem o_dup_x2 (cx : own_Cx p s m meth c Z bytes maxL y ret) (X : own_Sd p l e R s m args below meth c n0 T h C S) {x w z : Value} (hd : decode bytes pc = .ok (.dup_x2, 1)) (h1 : x.category = 1) (h2 : w.category = 1) (h3 : z.category = 1) (k : own_Go p e below P (T.setTop (mkF m (pc + 1) Ls (x :: w :: z :: x :: st)))) : own_Go p e below P (T.setTop (mkF m pc Ls (x :: w :: z :: st))) := by
  obtain ⟨hx, hby, -⟩ := cx
  exact own_dupX2 X hx (g := mkF m pc Ls (x :: w :: z :: st)) (hb hby hd) rfl h1 h2 h3 rfl k
theorem o_goto (cx : own_Cx p s m meth c Z bytes maxL y ret) (X : own_Sd p l e R s m args below meth c n0 T h C S) {o : Int} (n : Nat) (hd : decode bytes pc = .ok (.goto o, 3)) (ho : 0 ≤ (pc : Int) + o) (hp : ((pc : Int) + o).toNat = n) (k : own_Go p e below P (T.setTop (mkF m n Ls st))) : own_Go p e below P (T.setTop (mkF m pc Ls st)) := by
  obtain ⟨hx, hby, -⟩ := cx
  exact own_st (fun _ q => XS.goto X.here hx rfl rfl (hb hby hd) ho hp q) k
theorem o_ifYes (cx : own_Cx p s m meth c Z bytes maxL y ret) (X : own_Sd p l e R s m args below meth c n0 T h C S) {cd : ClassFile.Cond} {x : Int32} {o : Int} (n : Nat) (hd : decode bytes pc = .ok (.ifCond cd o, 3)) (hc : ifCond.holds cd x = true) (ho : 0 ≤ (pc : Int) + o) (hp : ((pc : Int) + o).toNat = n) (k : own_Go p e below P (T.setTop (mkF m n Ls st))) : own_Go p e below P (T.setTop (mkF m pc Ls (.int x :: st))) := by
  obtain ⟨hx, hby, -⟩ := cx
  exact own_st (fun _ q => XS.ifYes X.here hx rfl rfl (hb hby hd) rfl hc ho hp q) k
theorem o_ifNo (cx : own_Cx p s m meth c Z bytes maxL y ret) (X : own_Sd p l e R s m args below meth c n0 T h C S) {cd : ClassFile.Cond} {x : Int32} {o : Int} (hd : decode bytes pc = .ok (.ifCond cd o, 3)) (hc : ifCond.holds cd x = false) (k : own_Go p e below P (T.setTop (mkF m (pc + 3) Ls st))) : own_Go p e below P (T.setTop (mkF m pc Ls (.int x :: st))) := by
  obtain ⟨hx, hby, -⟩ := cx
  exact own_st (fun _ q => XS.ifNo X.here hx rfl (hb hby hd) rfl hc q) k
theorem o_icmpYes (cx : own_Cx p s m meth c Z bytes maxL y ret) (X : own_Sd p l e R s m args below meth c n0 T h C S) {cd : ClassFile.Cond} {x w : Int32} {o : Int} (n : Nat) (hd : decode bytes pc = .ok (.if_icmp cd o, 3)) (hc : if_icmp.holds cd x w = true) (ho : 0 ≤ (pc : Int) + o) (hp : ((pc : Int) + o).toNat = n) (k : own_Go p e below P (T.setTop (mkF m n Ls st))) : own_Go p e below P (T.setTop (mkF m pc Ls (.int w :: .int x :: st))) := by
  obtain ⟨hx, hby, -⟩ := cx
  exact own_st (fun _ q => XS.icmpYes X.here hx rfl rfl (hb hby hd) rfl hc ho hp q) k
theorem o_icmpNo (cx : own_Cx p s m meth c Z bytes maxL y ret) (X : own_Sd p l e R s m args below meth c n0 T h C S) {cd : ClassFile.Cond} {x w : Int32} {o : Int} (hd : decode bytes pc = .ok (.if_icmp cd o, 3)) (hc : if_icmp.holds cd x w = false) (k : own_Go p e below P (T.setTop (mkF m (pc + 3) Ls st))) : own_Go p e below P (T.setTop (mkF m pc Ls (.int w :: .int x :: st))) := by
  obtain ⟨hx, hby, -⟩ := cx
  exact own_st (fun _ q => XS.icmpNo X.here hx rfl (hb hby hd) rfl hc q) k
theorem o_ifnullYes (cx : own_Cx p s m meth c Z bytes maxL y ret) (X : own_Sd p l e R s m args below meth c n0 T h C S) {o : Int} (n : Nat) (hd : decode bytes pc = .ok (.ifnull o, 3)) (ho : 0 ≤ (pc : Int) + o) (hp : ((pc : Int) + o).toNat = n) (k : own_Go p e below P (T.setTop (mkF m n Ls st))) : own_Go p e below P (T.setTop (mkF m pc Ls (.null :: st))) := by
  obtain ⟨hx, hby, -⟩ := cx
  exact own_st (fun _ q => XS.ifnullYes X.here hx rfl rfl (hb hby hd) rfl ho hp q) k
theorem o_ifnullNo (cx : own_Cx p s m meth c Z bytes maxL y ret) (X : own_Sd p l e R s m args below meth c n0 T h C S) {o : Int} {b : Addr} (hd : decode bytes pc = .ok (.ifnull o, 3))  (k : own_Go p e below P (T.setTop (mkF m (pc + 3) Ls st))) : own_Go p e below P (T.setTop (mkF m pc Ls (.ref b :: st))) := by
  obtain ⟨hx, hby, -⟩ := cx
  exact own_st (fun _ q => XS.ifnullNo X.here hx rfl (hb hby hd) rfl q) k
theorem o_ifnonnullYes (cx : own_Cx p s m meth c Z bytes maxL y ret) (X : own_Sd p l e R s m args below meth c n0 T h C S) {o : Int} (n : Nat) {b : Addr} (hd : decode bytes pc = .ok (.ifnonnull o, 3)) (ho : 0 ≤ (pc : Int) + o) (hp : ((pc : Int) + o).toNat = n) (k : own_Go p e below P (T.setTop (mkF m n Ls st))) : own_Go p e below P (T.setTop (mkF m pc Ls (.ref b :: st))) := by
  obtain ⟨hx, hby, -⟩ := cx
  exact own_st (fun _ q => XS.ifnonnullYes X.here hx rfl rfl (hb hby hd) rfl ho hp q) k
theorem o_ifnonnullNo (cx : own_Cx p s m meth c Z bytes maxL y ret) (X : own_Sd p l e R s m args below meth c n0 T h C S) {o : Int} (hd : decode bytes pc = .ok (.ifnonnull o, 3))  (k : own_Go p e below P (T.setTop (mkF m (pc + 3) Ls st))) : own_Go p e below P (T.setTop (mkF m pc Ls (.null :: st))) := by
  obtain ⟨hx, hby, -⟩ := cx
  exact own_st (fun _ q => XS.ifnonnullNo X.here hx rfl (hb hby hd) rfl q) k
theorem o_acmp (cx : own_Cx p s m meth c Z bytes maxL y ret) (X : own_Sd p l e R s m args below meth c n0 T h C S) {cd : ACond} {x w : Value} {o : Int} (n : Nat) (same : Bool) (hd : decode bytes pc = .ok (.if_acmp cd o, 3)) (h1 : x.isRef = true) (h2 : w.isRef = true) (hsame : decide (x = w) = same) (ho : 0 ≤ (pc : Int) + o) (hp : n = if acV cd same then ((pc : Int) + o).toNat else pc + 3) (k : own_Go p e below P (T.setTop (mkF m n Ls st))) : own_Go p e below P (T.setTop (mkF m pc Ls (w :: x :: st))) := by
  obtain ⟨hx, hby, hml, hown, hnm, hret, hlk, hZ⟩ := cx
  exact own_acmp X hx (g := mkF m pc Ls (w :: x :: st)) rfl h1 h2 rfl (hb hby hd) rfl hsame ho hp k
theorem o_ldc (cx : own_Cx p s m meth c Z bytes maxL y ret) (X : own_Sd p l e R s m args below meth c n0 T h C S) {j : Nat} {z : Int32} (hd : decode bytes pc = .ok (.ldc j, 2)) (w : (Jvm.Cond.constant y.cls j z).before a0 Z = true) (k : own_Go p e below P (T.setTop (mkF m (pc + 2) Ls (.int z :: st)))) : own_Go p e below P (T.setTop (mkF m pc Ls st)) := by
  obtain ⟨hx, hby, hml, hown, hnm, hret, hlk, hZ⟩ := cx
  exact own_ldc X hx hZ hown w (g := mkF m pc Ls st) rfl (hb hby hd) k
theorem o_ldc2 (cx : own_Cx p s m meth c Z bytes maxL y ret) (X : own_Sd p l e R s m args below meth c n0 T h C S) {j : Nat} {z : Int64} (hd : decode bytes pc = .ok (.ldc2_w j, 3)) (w : (Jvm.Cond.constantLong y.cls j z).before a0 Z = true) (k : own_Go p e below P (T.setTop (mkF m (pc + 3) Ls (.long z :: st)))) : own_Go p e below P (T.setTop (mkF m pc Ls st)) := by
  obtain ⟨hx, hby, hml, hown, hnm, hret, hlk, hZ⟩ := cx
  exact own_ldc2 X hx hZ hown w (g := mkF m pc Ls st) rfl (hb hby hd) k
theorem o_getF (cx : own_Cx p s m meth c Z bytes maxL y ret) (X : own_Sd p l e R s m args below meth c n0 T h C S) {O n d : String} {j : Nat} (hd : decode bytes pc = .ok (.getfield j, 3)) (w : (Jvm.Cond.fieldLink y.cls j O n d).before a0 Z = true) (F : Fld Z h a O n d v) (k : ∀ T', own_Sd p l e R s m args below meth c n0 T' h C S → own_Go p e below P (T'.setTop (mkF m (pc + 3) Ls (v :: st)))) : own_Go p e below P (T.setTop (mkF m pc Ls (.ref a :: st))) := by
  obtain ⟨hx, hby, hml, hown, hnm, hret, hlk, hZ⟩ := cx
  exact own_getF X hx hZ hown w F (g := mkF m pc Ls (.ref a :: st)) rfl rfl (hb hby hd) k
theorem o_putF (cx : own_Cx p s m meth c Z bytes maxL y ret) (X : own_Sd p l e R s m args below meth c n0 T h C S) {O n d K : String} {j kk : Nat} {v' old : Value} (hd : decode bytes pc = .ok (.putfield j, 3)) (w : (Jvm.Cond.fieldLink y.cls j O n d).before a0 Z = true) (F : Fld Z h a O n d old) (E : Exa Z h a K) (L : (Jvm.Cond.lays K O n d).before a0 Z = true ∨ ((Jvm.Cond.laysFinal K O n d).before a0 Z = true ∧ y.cls = O ∧ y.name = "<init>")) (wi : (Jvm.Cond.instantiable K kk).before a0 Z = true) (hty : parseFieldDescriptor d = some ty) (hn : narrow ty v = v') (hf : fits ty v' = true) (ga : n0 ≤ a) (k : ∀ T' h', own_Sd p l e R s m args below meth c n0 T' h' C S → Wr h h' a (Jvm.RoadKit.slotOf Z O n d) v' → own_Go p e below P (T'.setTop (mkF m (pc + 3) Ls st))) : own_Go p e below P (T.setTop (mkF m pc Ls (v :: .ref a :: st))) := by
  obtain ⟨hx, hby, hml, hown, hnm, hret, hlk, hZ⟩ := cx
  exact own_putF X hx hZ hown w F E (by rw [hnm]; exact L) wi hty hn hf ga (g := mkF m pc Ls (v :: .ref a :: st)) rfl rfl (hb hby hd) k
theorem o_newO (cx : own_Cx p s m meth c Z bytes maxL y ret) (X : own_Sd p l e R s m args below meth c n0 T h C S) {K : String} {j n : Nat} (hd : decode bytes pc = .ok (.new j, 3)) (w : (Jvm.Cond.classLink y.cls j K).before a0 Z = true) (wi : (Jvm.Cond.instantiable K n).before a0 Z = true) (wz : (Jvm.Cond.initialized K).before a0 Z = true) (hc : C + 1 ≤ R.cells) (hl : S + n ≤ R.slots) (k : ∀ T' h' b, b = h.size → n0 ≤ b → own_Sd p l e R s m args below meth c n0 T' h' (C + 1) (S + n) → Ext h h' → Exa Z h' b K → (∀ {O nm d : String} {ty : FieldType}, Laid Z a0 K O nm d → parseFieldDescriptor d = some ty → Fld Z h' b O nm d (defaultValue ty)) → own_Go p e below P (T'.setTop (mkF m (pc + 3) Ls (.ref b :: st)))) : own_Go p e below P (T.setTop (mkF m pc Ls st)) := by
  obtain ⟨hx, hby, hml, hown, hnm, hret, hlk, hZ⟩ := cx
  exact own_newO X hx hZ hown w wi wz (g := mkF m pc Ls st) rfl (hb hby hd) hc hl k
theorem o_initO (cx : own_Cx p s m meth c Z bytes maxL y ret) (X : own_Sd p l e R s m args below meth c n0 T h C S) {j : Nat} (hd : decode bytes pc = .ok (.invokespecial j, 3)) (w1 : (Jvm.Cond.methodLink y.cls j Lib.objectInit).before a0 Z = true) (w2 : (Jvm.Cond.instanceMethod Lib.objectInit).before a0 Z = true) (w3 : (Jvm.Cond.code Lib.objectInit ⟨#[0xb1]⟩ 1 none).before a0 Z = true) (hsz : Ls.size = maxL) (hf : 1 ≤ R.frames) (W : Nat) (hW : (st.map fun v => v.category).sum = W) (hl : W + 12 ≤ R.locals) (k : ∀ T', own_Sd p l e R s m args below meth c n0 T' h C S → own_Go p e below P (T'.setTop (mkF m (pc + 3) Ls st))) : own_Go p e below P (T.setTop (mkF m pc Ls (.ref a :: st))) := by
  obtain ⟨hx, hby, hml, hown, hnm, hret, hlk, hZ⟩ := cx
  exact own_initO X hx hZ hown w1 w2 w3 (g := mkF m pc Ls (.ref a :: st)) rfl (by rw [hml]; exact hsz) rfl (hb hby hd) hf (W := W) (by show 2 * 0 + _ ≤ _; omega) hl k
theorem o_callS (cx : own_Cx p s m meth c Z bytes maxL y ret) (X : own_Sd p l e R s m args below meth c n0 T h C S) {y' : MethodName} {bytes' : ByteArray} {maxL' : Nat} {ret' : Option FieldType} {j : Nat} {stk : List Value} (hd : decode bytes pc = .ok (.invokestatic j, 3)) (w1 : (Jvm.Cond.methodLink y.cls j y').before a0 Z = true) (w2 : (Jvm.Cond.static y').before a0 Z = true) (w3 : (Jvm.Cond.initialized y'.cls).before a0 Z = true) (w4 : (Jvm.Cond.code y' bytes' maxL' ret').before a0 Z = true) (hy : y'.cls ≠ "java/lang/invoke/MethodHandle" ∧ y'.cls ≠ "java/lang/invoke/VarHandle") {rm : Room} {as' : Array Value}  (hM : own_Met l Z y' bytes' maxL' ret' rm as' h n0 Q) (hf : rm.frames + 1 ≤ R.frames) (W : Nat) (hW : (st.map fun v => v.category).sum = W) (hlo : W + (maxL' + 11) + rm.locals ≤ R.locals) (hsz : Ls.size = maxL) {argsL : List Value} (hlen : ∀ sig, parseMethodDescriptor y'.desc = some sig → argsL.length = sig.parameters.length) (has : argsL.toArray = as') (hstk : stk = argsL.reverse ++ st) (hc : C + rm.cells ≤ R.cells) (hs : S + rm.slots ≤ R.slots) (k : ∀ v T' h', own_Sd p l e R s m args below meth c n0 T' h' (C + rm.cells) (S + rm.slots) → Q v h' → own_Go p e below P (T'.setTop (mkF m (pc + 3) Ls (v.toList ++ st)))) : own_Go p e below P (T.setTop (mkF m pc Ls stk)) := by
  obtain ⟨hx, hby, hml, hown, hnm, hret, hlk, hZ⟩ := cx
  exact own_callS X hx hZ hown w1 w2 w3 w4 hy hM hf (W := W) hlo (g := mkF m pc Ls stk) rfl (by rw [hml]; exact hsz) hlen has hstk (by show 2 * 0 + _ ≤ _; omega) (hb hby hd) hc hs k
theorem o_callC (cx : own_Cx p s m meth c Z bytes maxL y ret) (X : own_Sd p l e R s m args below meth c n0 T h C S) {y' : MethodName} {bytes' : ByteArray} {maxL' : Nat} {j : Nat} {stk : List Value} (hd : decode bytes pc = .ok (.invokespecial j, 3)) (w1 : (Jvm.Cond.methodLink y.cls j y').before a0 Z = true) (w2 : (Jvm.Cond.instanceMethod y').before a0 Z = true) (w3 : (Jvm.Cond.initialized y'.cls).before a0 Z = true) (w4 : (Jvm.Cond.code y' bytes' maxL' none).before a0 Z = true) (hy : y'.cls ≠ "java/lang/invoke/MethodHandle" ∧ y'.cls ≠ "java/lang/invoke/VarHandle") (hy1 : y'.name = "<init>") {rm : Room} {as' : Array Value}  (hM : own_Met l Z y' bytes' maxL' none rm as' h n0 Q) (hf : rm.frames + 1 ≤ R.frames) (W : Nat) (hW : (st.map fun v => v.category).sum = W) (hlo : W + (maxL' + 11) + rm.locals ≤ R.locals) (hsz : Ls.size = maxL) {argsL : List Value} (hlen : ∀ sig, parseMethodDescriptor y'.desc = some sig → argsL.length = sig.parameters.length) (has : (.ref a :: argsL).toArray = as') (hstk : stk = argsL.reverse ++ .ref a :: st) (hc : C + rm.cells ≤ R.cells) (hs : S + rm.slots ≤ R.slots) (k : ∀ v T' h', own_Sd p l e R s m args below meth c n0 T' h' (C + rm.cells) (S + rm.slots) → Q v h' → own_Go p e below P (T'.setTop (mkF m (pc + 3) Ls (v.toList ++ st)))) : own_Go p e below P (T.setTop (mkF m pc Ls stk)) := by
  obtain ⟨hx, hby, hml, hown, hnm, hret, hlk, hZ⟩ := cx
  exact own_callC X hx hZ hy1 hown w1 w2 w3 w4 hy hM hf (W := W) hlo (g := mkF m pc Ls stk) rfl (by rw [hml]; exact hsz) hlen has hstk (by show 2 * 0 + _ ≤ _; omega) (hb hby hd) hc hs k
theorem o_callV (cx : own_Cx p s m meth c Z bytes maxL y ret) (X : own_Sd p l e R s m args below meth c n0 T h C S) {y' : MethodName} {bytes' : ByteArray} {maxL' : Nat} {ret' : Option FieldType} {j : Nat} {stk : List Value} {K : String} (hd : decode bytes pc = .ok (.invokevirtual j, 3)) (w1 : (Jvm.Cond.methodLink y.cls j y').before a0 Z = true) (w2 : (Jvm.Cond.declares y').before a0 Z = true) (w5 : (Jvm.Cond.selects K y' y').before a0 Z = true) (w6 : (Jvm.Cond.instanceMethod y').before a0 Z = true) (w3 : (Jvm.Cond.initialized y'.cls).before a0 Z = true) (w4 : (Jvm.Cond.code y' bytes' maxL' ret').before a0 Z = true) (hy : y'.cls ≠ "java/lang/invoke/MethodHandle" ∧ y'.cls ≠ "java/lang/invoke/VarHandle") (E : Exa Z h a K) {rm : Room} {as' : Array Value}  (hM : own_Met l Z y' bytes' maxL' ret' rm as' h n0 Q) (hf : rm.frames + 1 ≤ R.frames) (W : Nat) (hW : (st.map fun v => v.category).sum = W) (hlo : W + (maxL' + 11) + rm.locals ≤ R.locals) (hsz : Ls.size = maxL) {argsL : List Value} (hlen : ∀ sig, parseMethodDescriptor y'.desc = some sig → argsL.length = sig.parameters.length) (has : (.ref a :: argsL).toArray = as') (hstk : stk = argsL.reverse ++ .ref a :: st) (hc : C + rm.cells ≤ R.cells) (hs : S + rm.slots ≤ R.slots) (k : ∀ v T' h', own_Sd p l e R s m args below meth c n0 T' h' (C + rm.cells) (S + rm.slots) → Q v h' → own_Go p e below P (T'.setTop (mkF m (pc + 3) Ls (v.toList ++ st)))) : own_Go p e below P (T.setTop (mkF m pc Ls stk)) := by
  obtain ⟨hx, hby, hml, hown, hnm, hret, hlk, hZ⟩ := cx
  exact own_callV X hx hZ hown w1 w2 w5 w6 w3 w4 hy E hM hf (W := W) hlo (g := mkF m pc Ls stk) rfl (by rw [hml]; exact hsz) hlen has hstk (by show 2 * 0 + _ ≤ _; omega) (hb hby hd) hc hs k
theorem o_callP (cx : own_Cx p s m meth c Z bytes maxL y ret) (X : own_Sd p l e R s m args below meth c n0 T h C S) {y' : MethodName} {bytes' : ByteArray} {maxL' : Nat} {ret' : Option FieldType} {j : Nat} {stk : List Value} {K K' : String} {y2 : MethodName} (hd : decode bytes pc = .ok (.invokevirtual j, 3)) (w1 : (Jvm.Cond.methodLink y.cls j y').before a0 Z = true) (w7 : (Jvm.Cond.privateMethod y').before a0 Z = true) (w5 : (Jvm.Cond.selects K y2 y2).before a0 Z = true) (hyy : y2.cls = y'.cls) (w6 : (Jvm.Cond.instanceMethod y').before a0 Z = true) (w3 : (Jvm.Cond.initialized y'.cls).before a0 Z = true) (w4 : (Jvm.Cond.code y' bytes' maxL' ret').before a0 Z = true) (hy : y'.cls ≠ "java/lang/invoke/MethodHandle" ∧ y'.cls ≠ "java/lang/invoke/VarHandle") (E : Exa Z h a K') {rm : Room} {as' : Array Value}  (hM : own_Met l Z y' bytes' maxL' ret' rm as' h n0 Q) (hf : rm.frames + 1 ≤ R.frames) (W : Nat) (hW : (st.map fun v => v.category).sum = W) (hlo : W + (maxL' + 11) + rm.locals ≤ R.locals) (hsz : Ls.size = maxL) {argsL : List Value} (hlen : ∀ sig, parseMethodDescriptor y'.desc = some sig → argsL.length = sig.parameters.length) (has : (.ref a :: argsL).toArray = as') (hstk : stk = argsL.reverse ++ .ref a :: st) (hc : C + rm.cells ≤ R.cells) (hs : S + rm.slots ≤ R.slots) (k : ∀ v T' h', own_Sd p l e R s m args below meth c n0 T' h' (C + rm.cells) (S + rm.slots) → Q v h' → own_Go p e below P (T'.setTop (mkF m (pc + 3) Ls (v.toList ++ st)))) : own_Go p e below P (T.setTop (mkF m pc Ls stk)) := by
  obtain ⟨hx, hby, hml, hown, hnm, hret, hlk, hZ⟩ := cx
  exact own_callP X hx hZ hown w1 w7 w5 hyy w6 w3 w4 hy E hM hf (W := W) hlo (g := mkF m pc Ls stk) rfl (by rw [hml]; exact hsz) hlen has hstk (by show 2 * 0 + _ ≤ _; omega) (hb hby hd) hc hs k
theorem o_callSp (cx : own_Cx p s m meth c Z bytes maxL y ret) (X : own_Sd p l e R s m args below meth c n0 T h C S) {y' : MethodName} {bytes' : ByteArray} {maxL' : Nat} {ret' : Option FieldType} {j : Nat} {stk : List Value} (hd : decode bytes pc = .ok (.invokestatic j, 3)) (w1 : (Jvm.Cond.methodLink y.cls j y').before a0 Z = true) (w2 : (Jvm.Cond.static y').before a0 Z = true) (w3 : (Jvm.Cond.initialized y'.cls).before a0 Z = true) (w4 : (Jvm.Cond.code y' bytes' maxL' ret').before a0 Z = true) (hy : y'.cls ≠ "java/lang/invoke/MethodHandle" ∧ y'.cls ≠ "java/lang/invoke/VarHandle") {rm : Room} {as' : Array Value} {r : Option Value} (hM : own_Met l Z y' bytes' maxL' ret' rm as' h n0 (fun v' h' => v' = r ∧ h' = h)) (hf : rm.frames + 1 ≤ R.frames) (W : Nat) (hW : (st.map fun v => v.category).sum = W) (hlo : W + (maxL' + 11) + rm.locals ≤ R.locals) (hsz : Ls.size = maxL) {argsL : List Value} (hlen : ∀ sig, parseMethodDescriptor y'.desc = some sig → argsL.length = sig.parameters.length) (has : argsL.toArray = as') (hstk : stk = argsL.reverse ++ st) (hc : C + rm.cells ≤ R.cells) (hs : S + rm.slots ≤ R.slots) (k : ∀ T', own_Sd p l e R s m args below meth c n0 T' h (C + rm.cells) (S + rm.slots) → own_Go p e below P (T'.setTop (mkF m (pc + 3) Ls (r.toList ++ st)))) : own_Go p e below P (T.setTop (mkF m pc Ls stk)) := by
  obtain ⟨hx, hby, hml, hown, hnm, hret, hlk, hZ⟩ := cx
  exact own_callSp X hx hZ hown w1 w2 w3 w4 hy hM hf (W := W) hlo (g := mkF m pc Ls stk) rfl (by rw [hml]; exact hsz) hlen has hstk (by show 2 * 0 + _ ≤ _; omega) (hb hby hd) hc hs k
theorem o_callCp (cx : own_Cx p s m meth c Z bytes maxL y ret) (X : own_Sd p l e R s m args below meth c n0 T h C S) {y' : MethodName} {bytes' : ByteArray} {maxL' : Nat} {j : Nat} {stk : List Value} (hd : decode bytes pc = .ok (.invokespecial j, 3)) (w1 : (Jvm.Cond.methodLink y.cls j y').before a0 Z = true) (w2 : (Jvm.Cond.instanceMethod y').before a0 Z = true) (w3 : (Jvm.Cond.initialized y'.cls).before a0 Z = true) (w4 : (Jvm.Cond.code y' bytes' maxL' none).before a0 Z = true) (hy : y'.cls ≠ "java/lang/invoke/MethodHandle" ∧ y'.cls ≠ "java/lang/invoke/VarHandle") (hy1 : y'.name = "<init>") {rm : Room} {as' : Array Value} {r : Option Value} (hM : own_Met l Z y' bytes' maxL' none rm as' h n0 (fun v' h' => v' = r ∧ h' = h)) (hf : rm.frames + 1 ≤ R.frames) (W : Nat) (hW : (st.map fun v => v.category).sum = W) (hlo : W + (maxL' + 11) + rm.locals ≤ R.locals) (hsz : Ls.size = maxL) {argsL : List Value} (hlen : ∀ sig, parseMethodDescriptor y'.desc = some sig → argsL.length = sig.parameters.length) (has : (.ref a :: argsL).toArray = as') (hstk : stk = argsL.reverse ++ .ref a :: st) (hc : C + rm.cells ≤ R.cells) (hs : S + rm.slots ≤ R.slots) (k : ∀ T', own_Sd p l e R s m args below meth c n0 T' h (C + rm.cells) (S + rm.slots) → own_Go p e below P (T'.setTop (mkF m (pc + 3) Ls (r.toList ++ st)))) : own_Go p e below P (T.setTop (mkF m pc Ls stk)) := by
  obtain ⟨hx, hby, hml, hown, hnm, hret, hlk, hZ⟩ := cx
  exact own_callCp X hx hZ hy1 hown w1 w2 w3 w4 hy hM hf (W := W) hlo (g := mkF m pc Ls stk) rfl (by rw [hml]; exact hsz) hlen has hstk (by show 2 * 0 + _ ≤ _; omega) (hb hby hd) hc hs k
theorem o_callVp (cx : own_Cx p s m meth c Z bytes maxL y ret) (X : own_Sd p l e R s m args below meth c n0 T h C S) {y' : MethodName} {bytes' : ByteArray} {maxL' : Nat} {ret' : Option FieldType} {j : Nat} {stk : List Value} {K : String} (hd : decode bytes pc = .ok (.invokevirtual j, 3)) (w1 : (Jvm.Cond.methodLink y.cls j y').before a0 Z = true) (w2 : (Jvm.Cond.declares y').before a0 Z = true) (w5 : (Jvm.Cond.selects K y' y').before a0 Z = true) (w6 : (Jvm.Cond.instanceMethod y').before a0 Z = true) (w3 : (Jvm.Cond.initialized y'.cls).before a0 Z = true) (w4 : (Jvm.Cond.code y' bytes' maxL' ret').before a0 Z = true) (hy : y'.cls ≠ "java/lang/invoke/MethodHandle" ∧ y'.cls ≠ "java/lang/invoke/VarHandle") (E : Exa Z h a K) {rm : Room} {as' : Array Value} {r : Option Value} (hM : own_Met l Z y' bytes' maxL' ret' rm as' h n0 (fun v' h' => v' = r ∧ h' = h)) (hf : rm.frames + 1 ≤ R.frames) (W : Nat) (hW : (st.map fun v => v.category).sum = W) (hlo : W + (maxL' + 11) + rm.locals ≤ R.locals) (hsz : Ls.size = maxL) {argsL : List Value} (hlen : ∀ sig, parseMethodDescriptor y'.desc = some sig → argsL.length = sig.parameters.length) (has : (.ref a :: argsL).toArray = as') (hstk : stk = argsL.reverse ++ .ref a :: st) (hc : C + rm.cells ≤ R.cells) (hs : S + rm.slots ≤ R.slots) (k : ∀ T', own_Sd p l e R s m args below meth c n0 T' h (C + rm.cells) (S + rm.slots) → own_Go p e below P (T'.setTop (mkF m (pc + 3) Ls (r.toList ++ st)))) : own_Go p e below P (T.setTop (mkF m pc Ls stk)) := by
  obtain ⟨hx, hby, hml, hown, hnm, hret, hlk, hZ⟩ := cx
  exact own_callVp X hx hZ hown w1 w2 w5 w6 w3 w4 hy E hM hf (W := W) hlo (g := mkF m pc Ls stk) rfl (by rw [hml]; exact hsz) hlen has hstk (by show 2 * 0 + _ ≤ _; omega) (hb hby hd) hc hs k
theorem o_callPp (cx : own_Cx p s m meth c Z bytes maxL y ret) (X : own_Sd p l e R s m args below meth c n0 T h C S) {y' : MethodName} {bytes' : ByteArray} {maxL' : Nat} {ret' : Option FieldType} {j : Nat} {stk : List Value} {K K' : String} {y2 : MethodName} (hd : decode bytes pc = .ok (.invokevirtual j, 3)) (w1 : (Jvm.Cond.methodLink y.cls j y').before a0 Z = true) (w7 : (Jvm.Cond.privateMethod y').before a0 Z = true) (w5 : (Jvm.Cond.selects K y2 y2).before a0 Z = true) (hyy : y2.cls = y'.cls) (w6 : (Jvm.Cond.instanceMethod y').before a0 Z = true) (w3 : (Jvm.Cond.initialized y'.cls).before a0 Z = true) (w4 : (Jvm.Cond.code y' bytes' maxL' ret').before a0 Z = true) (hy : y'.cls ≠ "java/lang/invoke/MethodHandle" ∧ y'.cls ≠ "java/lang/invoke/VarHandle") (E : Exa Z h a K') {rm : Room} {as' : Array Value} {r : Option Value} (hM : own_Met l Z y' bytes' maxL' ret' rm as' h n0 (fun v' h' => v' = r ∧ h' = h)) (hf : rm.frames + 1 ≤ R.frames) (W : Nat) (hW : (st.map fun v => v.category).sum = W) (hlo : W + (maxL' + 11) + rm.locals ≤ R.locals) (hsz : Ls.size = maxL) {argsL : List Value} (hlen : ∀ sig, parseMethodDescriptor y'.desc = some sig → argsL.length = sig.parameters.length) (has : (.ref a :: argsL).toArray = as') (hstk : stk = argsL.reverse ++ .ref a :: st) (hc : C + rm.cells ≤ R.cells) (hs : S + rm.slots ≤ R.slots) (k : ∀ T', own_Sd p l e R s m args below meth c n0 T' h (C + rm.cells) (S + rm.slots) → own_Go p e below P (T'.setTop (mkF m (pc + 3) Ls (r.toList ++ st)))) : own_Go p e below P (T.setTop (mkF m pc Ls stk)) := by
  obtain ⟨hx, hby, hml, hown, hnm, hret, hlk, hZ⟩ := cx
  exact own_callPp X hx hZ hown w1 w7 w5 hyy w6 w3 w4 hy E hM hf (W := W) hlo (g := mkF m pc Ls stk) rfl (by rw [hml]; exact hsz) hlen has hstk (by show 2 * 0 + _ ≤ _; omega) (hb hby hd) hc hs k
theorem o_retI (cx : own_Cx p s m meth c Z bytes maxL y (some .int)) (X : own_Sd p l e R s m args below meth c n0 T h C S) {z : Int32} (hd : decode bytes pc = .ok (.ireturn, 1)) (q : Q (some (.int z)) h) (hC : C ≤ R.cells) (hS : S ≤ R.slots) : own_Go p e below (own_End below s R n0 Q) (T.setTop (mkF m pc Ls (.int z :: st))) := by
  obtain ⟨hx, hby, hml, hown, hnm, hret, hlk, hZ⟩ := cx
  exact own_retI X hx hret hlk (hb hby hd) hC hS q
theorem o_retN {t : FieldType} (cx : own_Cx p s m meth c Z bytes maxL y (some t)) (X : own_Sd p l e R s m args below meth c n0 T h C S) {z z' : Int32} (hd : decode bytes pc = .ok (.ireturn, 1)) (ht : t = .boolean ∨ t = .byte ∨ t = .char ∨ t = .short) (hz : nar t z = z') (q : Q (some (.int z')) h) (hC : C ≤ R.cells) (hS : S ≤ R.slots) : own_Go p e below (own_End below s R n0 Q) (T.setTop (mkF m pc Ls (.int z :: st))) := by
  obtain ⟨hx, hby, hml, hown, hnm, hret, hlk, hZ⟩ := cx
  exact own_retN X hx hret ht hlk (hb hby hd) hC hS (by rw [hz]; exact q)
theorem o_retJ (cx : own_Cx p s m meth c Z bytes maxL y (some .long)) (X : own_Sd p l e R s m args below meth c n0 T h C S) {z : Int64} (hd : decode bytes pc = .ok (.lreturn, 1)) (q : Q (some (.long z)) h) (hC : C ≤ R.cells) (hS : S ≤ R.slots) : own_Go p e below (own_End below s R n0 Q) (T.setTop (mkF m pc Ls (.long z :: st))) := by
  obtain ⟨hx, hby, hml, hown, hnm, hret, hlk, hZ⟩ := cx
  exact own_retJ X hx hret hlk (hb hby hd) hC hS q
theorem o_retA {t : FieldType} (cx : own_Cx p s m meth c Z bytes maxL y (some t)) (X : own_Sd p l e R s m args below meth c n0 T h C S) {w : Value} (hd : decode bytes pc = .ok (.areturn, 1)) (ht : t.isReference = true) (hw : w.isRef = true) (hn : narrow t w = w) (q : Q (some w) h) (hC : C ≤ R.cells) (hS : S ≤ R.slots) : own_Go p e below (own_End below s R n0 Q) (T.setTop (mkF m pc Ls (w :: st))) := by
  obtain ⟨hx, hby, hml, hown, hnm, hret, hlk, hZ⟩ := cx
  exact own_retA X hx hret ht hlk hw hn (hb hby hd) hC hS q
theorem o_retV (cx : own_Cx p s m meth c Z bytes maxL y none) (X : own_Sd p l e R s m args below meth c n0 T h C S)  (hd : decode bytes pc = .ok (.return_, 1)) (q : Q none h) (hC : C ≤ R.cells) (hS : S ≤ R.slots) : own_Go p e below (own_End below s R n0 Q) (T.setTop (mkF m pc Ls [])) := by
  obtain ⟨hx, hby, hml, hown, hnm, hret, hlk, hZ⟩ := cx
  exact own_retV X hx hret hlk (hb hby hd) hC hS q
end OwnS
section OwnA
variable {p : Program} {l : Launch} {e : Env} {R : Room} {s : State} {m : MethodId} {args : Array Value} {below : List Frame} {meth : Method} {c : Code} {T : State} {n0 C S : Nat} {Z : State} {a0 : Array Value} {h h' : Heap} {P : State → Outcome → Prop} {a b : Addr} {ty : FieldType} {vs : List Value} {v : Value} {sl i : Nat} {wsA : List Addr}
/-- an array with just these elements -/
def own_Ar (Z : State) (h : Heap) (a : Addr) (ty : FieldType) (vs : List Value) : Prop := ∃ cl : Cell, Arr Z h a cl ty ∧ cl.slots = vs.toArray ∧ vs.length < 2 ^ 31
theorem own_Ar.lt (F : own_Ar Z h a ty vs) : a < h.size := by obtain ⟨_, A, _⟩ := F; exact A.lt
theorem own_Ar.ext (F : own_Ar Z h a ty vs) (E : Ext h h') : own_Ar Z h' a ty vs := by obtain ⟨c, A, r⟩ := F; exact ⟨c, A.ext E, r⟩
theorem own_Ar.other (F : own_Ar Z h b ty vs) (W : Wr h h' a sl v) (q : b ≠ a) : own_Ar Z h' b ty vs := by obtain ⟨c, A, r⟩ := F; exact ⟨c, A.other W q, r⟩
theorem own_Ar.keep (F : own_Ar Z h a ty vs) (K : Keep h h' wsA) (q : a ∉ wsA) : own_Ar Z h' a ty vs := by obtain ⟨c, A, r⟩ := F; exact ⟨c, ⟨K.2.1 a c A.1 q, A.2⟩, r⟩
theorem own_Ar.set (F : own_Ar Z h a ty vs) (W : Wr h h' a i v) : own_Ar Z h' a ty (vs.set i v) := by
  obtain ⟨cl, A, e, hl⟩ := F
  exact ⟨_, A.same W, by simp [Cell.setSlot, e], by simpa using hl⟩
theorem own_newP (X : own_Sd p l e R s m args below meth c n0 T h C S) (hx : p.tables.exec = Jvm.exec) (hZ : Z.Warmed39 s.vm) {aty : ArrayType} (w : (Cond.arrayClass (newarray.typeOf aty)).before a0 Z = true) {g : JFrame} (hg : g.method = m) (hd : decode c.code g.pc = .ok (.newarray aty, 2)) {n : Int32} {rest : List Value} (hs : g.stack = .int n :: rest)
    (hn : ¬ n < 0) {N cap : Nat} (hN : n.toNatClampNeg = N) (hcap : N ≤ cap) (hb : cap * 8 ≤ 536870912) (hc : C + 1 ≤ R.cells) (hl : S + cap ≤ R.slots)
    (k : ∀ T' h' b, b = h.size → n0 ≤ b → own_Sd p l e R s m args below meth c n0 T' h' (C + 1) (S + cap) → Ext h h' → own_Ar Z h' b (newarray.typeOf aty) (List.replicate N (defaultValue (newarray.typeOf aty))) → own_Go p e below P (T'.setTop { g with pc := g.pc + 2, stack := .ref b :: rest })) : own_Go p e below P (T.setTop g) := by
  have hn0 := X.ge0
  obtain ⟨L, X, N', eT, r1, r2⟩ := X
  obtain ⟨T', h', cA, X', e', E, A, st⟩ := newP X hx hZ w eT hg hd hs hn (cap := cap) (by rw [hN]; exact hcap) hb hc hl
  refine own_st st (k T' h' h.size rfl hn0 ⟨L, X', N', e', r1, Nat.le_trans r2 E.1⟩ E ⟨_, A, ?_, ?_⟩)
  · simp [newA, hN]
  · have := (back32 hn).2; rw [List.length_replicate]; omega
theorem own_inb {cl : Cell} (e : cl.slots = vs.toArray) {j : Int32} (hj : ¬ j < 0) (hi : j.toNatClampNeg = i) (hl : i < vs.length) : ¬ (j < 0 ∨ cl.slots.size ≤ j.toNatClampNeg) := by
  rw [e, hi]; intro q; rcases q with q | q
  · exact hj q
  · simp at q; omega
theorem own_stB (X : own_Sd p l e R s m args below meth c n0 T h C S) (hx : p.tables.exec = Jvm.exec) (hZ : Z.Warmed39 s.vm) (A : own_Ar Z h a .byte vs) {j x x' : Int32} (hj : ¬ j < 0) (hi : j.toNatClampNeg = i) (hl : i < vs.length) (hv : x.toInt8.toInt32 = x') (ga : n0 ≤ a) {g : JFrame} (hg : g.method = m) {rest : List Value} (hs : g.stack = .int x :: .int j :: .ref a :: rest) (hd : decode c.code g.pc = .ok (.bastore, 1))
    (k : ∀ T' h', own_Sd p l e R s m args below meth c n0 T' h' C S → Wr h h' a i (.int x') → own_Ar Z h' a .byte (vs.set i (.int x')) → own_Go p e below P (T'.setTop { g with pc := g.pc + 1, stack := rest })) : own_Go p e below P (T.setTop g) := by
  obtain ⟨L, X, N, eT, r1, r2⟩ := X
  have A0 := A
  obtain ⟨cl, A1, e1, hl1⟩ := A
  obtain ⟨T', h', X', e', W, st⟩ := stB X hx hZ eT A1 (own_inb e1 hj hi hl) hg hs hd
  have W' : Wr h h' a i (.int x') := by rw [← hi, ← hv]; exact W
  exact own_st st (k T' h' ⟨_, X', Fr.snoc X' N ga, e', r1, by rw [W.size]; exact r2⟩ W' (A0.set W'))
theorem own_stI (X : own_Sd p l e R s m args below meth c n0 T h C S) (hx : p.tables.exec = Jvm.exec) (hZ : Z.Warmed39 s.vm) (A : own_Ar Z h a .int vs) {j x : Int32} (hj : ¬ j < 0) (hi : j.toNatClampNeg = i) (hl : i < vs.length) (ga : n0 ≤ a) {g : JFrame} (hg : g.method = m) {rest : List Value} (hs : g.stack = .int x :: .int j :: .ref a :: rest) (hd : decode c.code g.pc = .ok (.iastore, 1))
    (k : ∀ T' h', own_Sd p l e R s m args below meth c n0 T' h' C S → Wr h h' a i (.int x) → own_Ar Z h' a .int (vs.set i (.int x)) → own_Go p e below P (T'.setTop { g with pc := g.pc + 1, stack := rest })) : own_Go p e below P (T.setTop g) := by
  obtain ⟨L, X, N, eT, r1, r2⟩ := X
  have A0 := A
  obtain ⟨cl, A1, e1, hl1⟩ := A
  obtain ⟨T', h', X', e', W, st⟩ := stI X hx hZ eT A1 (own_inb e1 hj hi hl) hg hs hd
  have W' : Wr h h' a i (.int x) := by rw [← hi]; exact W
  exact own_st st (k T' h' ⟨_, X', Fr.snoc X' N ga, e', r1, by rw [W.size]; exact r2⟩ W' (A0.set W'))
theorem own_stJ (X : own_Sd p l e R s m args below meth c n0 T h C S) (hx : p.tables.exec = Jvm.exec) (hZ : Z.Warmed39 s.vm) (A : own_Ar Z h a .long vs) {j : Int32} {x : Int64} (hj : ¬ j < 0) (hi : j.toNatClampNeg = i) (hl : i < vs.length) (ga : n0 ≤ a) {g : JFrame} (hg : g.method = m) {rest : List Value} (hs : g.stack = .long x :: .int j :: .ref a :: rest) (hd : decode c.code g.pc = .ok (.lastore, 1))
    (k : ∀ T' h', own_Sd p l e R s m args below meth c n0 T' h' C S → Wr h h' a i (.long x) → own_Ar Z h' a .long (vs.set i (.long x)) → own_Go p e below P (T'.setTop { g with pc := g.pc + 1, stack := rest })) : own_Go p e below P (T.setTop g) := by
  obtain ⟨L, X, N, eT, r1, r2⟩ := X
  have A0 := A
  obtain ⟨cl, A1, e1, hl1⟩ := A
  obtain ⟨T', h', X', e', W, st⟩ := stJ X hx hZ eT A1 (own_inb e1 hj hi hl) hg hs hd
  have W' : Wr h h' a i (.long x) := by rw [← hi]; exact W
  exact own_st st (k T' h' ⟨_, X', Fr.snoc X' N ga, e', r1, by rw [W.size]; exact r2⟩ W' (A0.set W'))
theorem own_at {cl : Cell} (e : cl.slots = vs.toArray) {j : Int32} (hi : j.toNatClampNeg = i) (hv : vs[i]? = some v) : cl.slots[j.toNatClampNeg]? = some v := by rw [e, hi]; simpa using hv
theorem own_ltl (hv : vs[i]? = some v) : i < vs.length := (List.getElem?_eq_some_iff.mp hv).1
theorem own_ldB (X : own_Sd p l e R s m args below meth c n0 T h C S) (hx : p.tables.exec = Jvm.exec) (hZ : Z.Warmed39 s.vm) (A : own_Ar Z h a .byte vs) {j : Int32} (hj : ¬ j < 0) (hi : j.toNatClampNeg = i) (hv : vs[i]? = some v) {g : JFrame} (hg : g.method = m) {rest : List Value} (hs : g.stack = .int j :: .ref a :: rest) (hd : decode c.code g.pc = .ok (.baload, 1))
    (k : own_Go p e below P (T.setTop { g with pc := g.pc + 1, stack := v :: rest })) : own_Go p e below P (T.setTop g) := by
  obtain ⟨L, X, N, eT, r⟩ := X
  obtain ⟨cl, A1, e1, hl1⟩ := A
  exact own_st (fun _ q => X.baloadBytes hx (by rw [eT]; exact A1.1) (State.isArrayOf_alike hZ.alike A1.2.1) A1.2.2 (own_inb e1 hj hi (own_ltl hv)) (own_at e1 hi hv) hg hs hd _ q) k
theorem own_ldI (X : own_Sd p l e R s m args below meth c n0 T h C S) (hx : p.tables.exec = Jvm.exec) (hZ : Z.Warmed39 s.vm) (A : own_Ar Z h a .int vs) {j : Int32} (hj : ¬ j < 0) (hi : j.toNatClampNeg = i) (hv : vs[i]? = some v) {g : JFrame} (hg : g.method = m) {rest : List Value} (hs : g.stack = .int j :: .ref a :: rest) (hd : decode c.code g.pc = .ok (.iaload, 1))
    (k : own_Go p e below P (T.setTop { g with pc := g.pc + 1, stack := v :: rest })) : own_Go p e below P (T.setTop g) := by
  obtain ⟨L, X, N, eT, r⟩ := X
  obtain ⟨cl, A1, e1, hl1⟩ := A
  exact own_st (fun _ q => X.iaload hx (by rw [eT]; exact A1.1) (State.isArrayOf_alike hZ.alike A1.2.1) A1.2.2 (own_inb e1 hj hi (own_ltl hv)) (own_at e1 hi hv) hg hs hd _ q) k
theorem own_ldJ (X : own_Sd p l e R s m args below meth c n0 T h C S) (hx : p.tables.exec = Jvm.exec) (hZ : Z.Warmed39 s.vm) (A : own_Ar Z h a .long vs) {j : Int32} (hj : ¬ j < 0) (hi : j.toNatClampNeg = i) (hv : vs[i]? = some v) {g : JFrame} (hg : g.method = m) {rest : List Value} (hs : g.stack = .int j :: .ref a :: rest) (hd : decode c.code g.pc = .ok (.laload, 1))
    (k : own_Go p e below P (T.setTop { g with pc := g.pc + 1, stack := v :: rest })) : own_Go p e below P (T.setTop g) := by
  obtain ⟨L, X, N, eT, r⟩ := X
  obtain ⟨cl, A1, e1, hl1⟩ := A
  exact own_st (fun _ q => X.laload hx (by rw [eT]; exact A1.1) (State.isArrayOf_alike hZ.alike A1.2.1) A1.2.2 (own_inb e1 hj hi (own_ltl hv)) (own_at e1 hi hv) hg hs hd _ q) k
theorem own_len (X : own_Sd p l e R s m args below meth c n0 T h C S) (hx : p.tables.exec = Jvm.exec) (hZ : Z.Warmed39 s.vm) (A : own_Ar Z h a ty vs) {z : Int32} (hz : vs.length.toInt32 = z) {g : JFrame} (hg : g.method = m) {rest : List Value} (hs : g.stack = .ref a :: rest) (hd : decode c.code g.pc = .ok (.arraylength, 1))
    (k : own_Go p e below P (T.setTop { g with pc := g.pc + 1, stack := .int z :: rest })) : own_Go p e below P (T.setTop g) := by
  obtain ⟨L, X, N, eT, r⟩ := X
  obtain ⟨cl, A1, e1, hl1⟩ := A
  have ez : cl.slots.size.toInt32 = z := by rw [e1, ← hz]; simp
  exact own_st (fun _ q => X.arraylength hx (by rw [eT]; exact A1.1) (State.isArrayOf_alike hZ.alike A1.2.1) hg hs hd _ (by rw [ez]; exact q)) k
theorem own_i8 (x : Int32) : x.toInt8.toInt32.toInt8.toInt32 = x.toInt8.toInt32 := by simp
end OwnA
section OwnT
variable {p : Program} {l : Launch} {e : Env} {R : Room} {s : State} {m : MethodId} {args : Array Value} {below : List Frame} {meth : Method} {c : Code} {T : State} {n0 C S : Nat} {Z : State} {a0 : Array Value} {h h' : Heap} {P : State → Outcome → Prop} {Q : Option Value → Heap → Prop} {a b : Addr} {ty : FieldType} {vs : List Value} {v : Value} {sl i : Nat}
variable {bytes : ByteArray} {maxL : Nat} {y : MethodName} {ret : Option FieldType} {pc : Nat} {Ls Ls' : Array Slot} {st : List Value}
theorem o_newP (cx : own_Cx p s m meth c Z bytes maxL y ret) (X : own_Sd p l e R s m args below meth c n0 T h C S) {aty : ArrayType} {n : Int32} (hd : decode bytes pc = .ok (.newarray aty, 2)) (w : (Jvm.Cond.arrayClass (newarray.typeOf aty)).before a0 Z = true) (hn : ¬ n < 0) (N cap : Nat) (hN : n.toNatClampNeg = N) (hcap : N ≤ cap) (hb8 : cap * 8 ≤ 536870912) (hc : C + 1 ≤ R.cells) (hl : S + cap ≤ R.slots) (k : ∀ T' h' b, b = h.size → n0 ≤ b → own_Sd p l e R s m args below meth c n0 T' h' (C + 1) (S + cap) → Ext h h' → own_Ar Z h' b (newarray.typeOf aty) (List.replicate N (defaultValue (newarray.typeOf aty))) → own_Go p e below P (T'.setTop (mkF m (pc + 2) Ls (.ref b :: st)))) : own_Go p e below P (T.setTop (mkF m pc Ls (.int n :: st))) := by
  obtain ⟨hx, hby, hml, hown, hnm, hret, hlk, hZ⟩ := cx
  exact own_newP X hx hZ w (g := mkF m pc Ls (.int n :: st)) rfl (hb hby hd) rfl hn hN hcap hb8 hc hl k
theorem o_stB (cx : own_Cx p s m meth c Z bytes maxL y ret) (X : own_Sd p l e R s m args below meth c n0 T h C S) {j : Int32} {x x' : Int32} (hd : decode bytes pc = .ok (.bastore, 1)) (A : own_Ar Z h a .byte vs) (i : Nat) (hj : ¬ j < 0) (hi : j.toNatClampNeg = i) (hl : i < vs.length) (hv : x.toInt8.toInt32 = x') (ga : n0 ≤ a) (k : ∀ T' h', own_Sd p l e R s m args below meth c n0 T' h' C S → Wr h h' a i (.int x') → own_Ar Z h' a .byte (vs.set i (.int x')) → own_Go p e below P (T'.setTop (mkF m (pc + 1) Ls st))) : own_Go p e below P (T.setTop (mkF m pc Ls (.int x :: .int j :: .ref a :: st))) := by
  obtain ⟨hx, hby, hml, hown, hnm, hret, hlk, hZ⟩ := cx
  exact own_stB X hx hZ A hj hi hl hv ga (g := mkF m pc Ls (.int x :: .int j :: .ref a :: st)) rfl rfl (hb hby hd) k
theorem o_stI (cx : own_Cx p s m meth c Z bytes maxL y ret) (X : own_Sd p l e R s m args below meth c n0 T h C S) {j : Int32} {x : Int32} (hd : decode bytes pc = .ok (.iastore, 1)) (A : own_Ar Z h a .int vs) (i : Nat) (hj : ¬ j < 0) (hi : j.toNatClampNeg = i) (hl : i < vs.length)  (ga : n0 ≤ a) (k : ∀ T' h', own_Sd p l e R s m args below meth c n0 T' h' C S → Wr h h' a i (.int x) → own_Ar Z h' a .int (vs.set i (.int x)) → own_Go p e below P (T'.setTop (mkF m (pc + 1) Ls st))) : own_Go p e below P (T.setTop (mkF m pc Ls (.int x :: .int j :: .ref a :: st))) := by
  obtain ⟨hx, hby, hml, hown, hnm, hret, hlk, hZ⟩ := cx
  exact own_stI X hx hZ A hj hi hl ga (g := mkF m pc Ls (.int x :: .int j :: .ref a :: st)) rfl rfl (hb hby hd) k
theorem o_stJ (cx : own_Cx p s m meth c Z bytes maxL y ret) (X : own_Sd p l e R s m args below meth c n0 T h C S) {j : Int32} {x : Int64} (hd : decode bytes pc = .ok (.lastore, 1)) (A : own_Ar Z h a .long vs) (i : Nat) (hj : ¬ j < 0) (hi : j.toNatClampNeg = i) (hl : i < vs.length)  (ga : n0 ≤ a) (k : ∀ T' h', own_Sd p l e R s m args below meth c n0 T' h' C S → Wr h h' a i (.long x) → own_Ar Z h' a .long (vs.set i (.long x)) → own_Go p e below P (T'.setTop (mkF m (pc + 1) Ls st))) : own_Go p e below P (T.setTop (mkF m pc Ls (.long x :: .int j :: .ref a :: st))) := by
  obtain ⟨hx, hby, hml, hown, hnm, hret, hlk, hZ⟩ := cx
  exact own_stJ X hx hZ A hj hi hl ga (g := mkF m pc Ls (.long x :: .int j :: .ref a :: st)) rfl rfl (hb hby hd) k
theorem o_ldB (cx : own_Cx p s m meth c Z bytes maxL y ret) (X : own_Sd p l e R s m args below meth c n0 T h C S) {j : Int32} (hd : decode bytes pc = .ok (.baload, 1)) (A : own_Ar Z h a .byte vs) (i : Nat) (hj : ¬ j < 0) (hi : j.toNatClampNeg = i) (hv : vs[i]? = some v) (k : own_Go p e below P (T.setTop (mkF m (pc + 1) Ls (v :: st)))) : own_Go p e below P (T.setTop (mkF m pc Ls (.int j :: .ref a :: st))) := by
  obtain ⟨hx, hby, hml, hown, hnm, hret, hlk, hZ⟩ := cx
  exact own_ldB X hx hZ A hj hi hv (g := mkF m pc Ls (.int j :: .ref a :: st)) rfl rfl (hb hby hd) k
theorem o_ldI (cx : own_Cx p s m meth c Z bytes maxL y ret) (X : own_Sd p l e R s m args below meth c n0 T h C S) {j : Int32} (hd : decode bytes pc = .ok (.iaload, 1)) (A : own_Ar Z h a .int vs) (i : Nat) (hj : ¬ j < 0) (hi : j.toNatClampNeg = i) (hv : vs[i]? = some v) (k : own_Go p e below P (T.setTop (mkF m (pc + 1) Ls (v :: st)))) : own_Go p e below P (T.setTop (mkF m pc Ls (.int j :: .ref a :: st))) := by
  obtain ⟨hx, hby, hml, hown, hnm, hret, hlk, hZ⟩ := cx
  exact own_ldI X hx hZ A hj hi hv (g := mkF m pc Ls (.int j :: .ref a :: st)) rfl rfl (hb hby hd) k
theorem o_ldJ (cx : own_Cx p s m meth c Z bytes maxL y ret) (X : own_Sd p l e R s m args below meth c n0 T h C S) {j : Int32} (hd : decode bytes pc = .ok (.laload, 1)) (A : own_Ar Z h a .long vs) (i : Nat) (hj : ¬ j < 0) (hi : j.toNatClampNeg = i) (hv : vs[i]? = some v) (k : own_Go p e below P (T.setTop (mkF m (pc + 1) Ls (v :: st)))) : own_Go p e below P (T.setTop (mkF m pc Ls (.int j :: .ref a :: st))) := by
  obtain ⟨hx, hby, hml, hown, hnm, hret, hlk, hZ⟩ := cx
  exact own_ldJ X hx hZ A hj hi hv (g := mkF m pc Ls (.int j :: .ref a :: st)) rfl rfl (hb hby hd) k
theorem o_len (cx : own_Cx p s m meth c Z bytes maxL y ret) (X : own_Sd p l e R s m args below meth c n0 T h C S) {z : Int32} (hd : decode bytes pc = .ok (.arraylength, 1)) (A : own_Ar Z h a ty vs) (hz : vs.length.toInt32 = z) (k : own_Go p e below P (T.setTop (mkF m (pc + 1) Ls (.int z :: st)))) : own_Go p e below P (T.setTop (mkF m pc Ls (.ref a :: st))) := by
  obtain ⟨hx, hby, hml, hown, hnm, hret, hlk, hZ⟩ := cx
  exact own_len X hx hZ A hz (g := mkF m pc Ls (.ref a :: st)) rfl rfl (hb hby hd) k
end OwnT
section OwnC
variable {p : Program} {l : Launch} {e : Env} {R : Room} {s : State} {m : MethodId} {args : Array Value} {below : List Frame} {meth : Method} {c : Code} {T : State} {n0 C S : Nat} {Z : State} {a0 : Array Value} {h h' : Heap} {P : State → Outcome → Prop} {a b : Addr} {ty : FieldType} {vs vd : List Value}
variable {bytes : ByteArray} {maxL : Nat} {y : MethodName} {ret : Option FieldType} {pc : Nat} {Ls : Array Slot} {st : List Value}
theorem own_n32 {k : Nat} (hk : k < 2 ^ 31) : (k.toInt32).toNatClampNeg = k ∧ ¬ k.toInt32 < 0 := by
  have e : (k.toInt32).toInt = k := Int32.toInt_ofNat_of_lt hk
  refine ⟨?_, ?_⟩
  · show (k.toInt32).toInt.toNat = k
    rw [e]; omega
  · rw [Int32.lt_iff_toInt_lt, e]; have : (0 : Int32).toInt = 0 := by decide
    omega
theorem own_Ar.arv (F : own_Ar Z h a ty vs) (hf : ∀ v ∈ vs, fits ty v = true) : ∃ k, Arv Z h a k ty vs.length.toInt32 vs .null := by
  obtain ⟨cl, A, e, hl⟩ := F
  obtain ⟨q1, q2⟩ := own_n32 hl
  have hs : cl.slots.size = vs.length := by rw [e]; simp
  refine ⟨cl.cls, cl, A, rfl, by rw [hs, q1], q2, ?_, ?_⟩
  · intro k hk
    rw [hs] at hk
    rw [e]; simp [List.getD_eq_getElem?_getD, hk]
  · intro i hi
    rw [hs] at hi
    rw [show vs.getD i .null = vs[i] from by simp [List.getD_eq_getElem?_getD, hi]]
    exact hf _ (List.getElem_mem hi)
/-- System.arraycopy between two arrays of one primitive kind: what it leaves but for the second one -/
theorem o_cpy (cx : own_Cx p s m meth c Z bytes maxL y ret) (X : own_Sd p l e R s m args below meth c n0 T h C S) {j : Nat} {sp dp nn : Int32} (hd : decode bytes pc = .ok (.invokestatic j, 3)) (w1 : (Jvm.Cond.methodLink y.cls j Jvm.Stand.acN).before a0 Z = true) (w2 : (Jvm.Cond.native Jvm.Stand.acN).before a0 Z = true) (w3 : (Jvm.Cond.static Jvm.Stand.acN).before a0 Z = true) (w4 : (Jvm.Cond.initialized "java/lang/System").before a0 Z = true)
    (A : own_Ar Z h a ty vs) (B : own_Ar Z h b ty vd) (hA : ∀ v ∈ vs, fits ty v = true) (hB : ∀ v ∈ vd, fits ty v = true) (hty : refKind ty = false) (h1 : ¬ sp < 0) (h2 : ¬ dp < 0) (h3 : ¬ nn < 0) (h4 : sp.toNatClampNeg + nn.toNatClampNeg ≤ vs.length) (h5 : dp.toNatClampNeg + nn.toNatClampNeg ≤ vd.length) (ge : n0 ≤ b)
    (hsz : Ls.size = maxL) (hf : 1 ≤ R.frames) (W : Nat) (hW : (st.map fun v => v.category).sum = W) (hlo : W + (nativeFrameWords "java/lang/System" "arraycopy" 5 + 11) ≤ R.locals)
    (k : ∀ T' h', own_Sd p l e R s m args below meth c n0 T' h' C S → Keep h h' [b] → own_Go p e below P (T'.setTop (mkF m (pc + 3) Ls st))) : own_Go p e below P (T.setTop (mkF m pc Ls (.int nn :: .int dp :: .ref b :: .int sp :: .ref a :: st))) := by
  obtain ⟨hx, hby, hml, hown, hnm, hret, hlk, hZ⟩ := cx
  obtain ⟨L, X, N, eT, r1, r2⟩ := X
  have lA : vs.length < 2 ^ 31 := by obtain ⟨_, _, _, q⟩ := A; exact q
  have lB : vd.length < 2 ^ 31 := by obtain ⟨_, _, _, q⟩ := B; exact q
  obtain ⟨kA, VA⟩ := A.arv hA
  obtain ⟨kB, VB⟩ := B.arv hB
  obtain ⟨T', h', L', X', e', N', K, -, st'⟩ := cpA X hx hZ hown w1 w2 w3 w4 eT VA VB (Or.inl ⟨rfl, hty⟩) h1 h2 h3 (by rw [(own_n32 lA).1]; exact h4) (by rw [(own_n32 lB).1]; exact h5) rfl h5 N ge (g := mkF m pc Ls (.int nn :: .int dp :: .ref b :: .int sp :: .ref a :: st)) rfl (by rw [hml]; exact hsz) rfl (hb hby hd) hf (W := W) (by show 2 * 0 + _ ≤ _; omega) hlo
  exact own_st st' (k T' h' ⟨L', X', N', e', r1, Nat.le_trans r2 K.1⟩ K)
end OwnC
theorem own_r6 (y : Int32) : 0 ≤ ((y &&& (2147483647 : Int32)) % (6 : Int32)).toInt ∧ ((y &&& (2147483647 : Int32)) % (6 : Int32)).toInt ≤ 5 := by
  have h : 0 ≤ (y &&& (2147483647 : Int32)).toInt := by
    have e : (y &&& (2147483647 : Int32)).toInt = y.toInt % 2147483648 := c_mask y 2147483647 31 (by decide) (by decide)
    omega
  have e := (c_irem (y &&& (2147483647 : Int32)) 6 6 (by decide)).1 h
  omega
theorem own_suc {q : Int32} (h1 : 0 ≤ q.toInt) (h2 : q.toInt ≤ 5) : (q + (1 : Int32)).toInt = q.toInt + 1 := by
  have e := c_iadd q 1
  have l1 : (1 : Int32).toInt = 1 := by decide
  have r := rng32 (q + (1 : Int32))
  rw [l1] at e; omega
theorem own_nz {q : Int32} (h1 : 0 ≤ q.toInt) (h2 : q.toInt ≤ 5) : (q + (1 : Int32)) ≠ 0 := fun z => by
  have e := own_suc h1 h2
  rw [z] at e; have : (0 : Int32).toInt = 0 := by decide
  omega
theorem own_rq (y q : Int32) (h1 : 0 ≤ q.toInt) (h2 : q.toInt ≤ 5) : 0 ≤ ((y &&& (2147483647 : Int32)) % (q + (1 : Int32))).toInt ∧ ((y &&& (2147483647 : Int32)) % (q + (1 : Int32))).toInt ≤ q.toInt := by
  have h : 0 ≤ (y &&& (2147483647 : Int32)).toInt := by
    have e : (y &&& (2147483647 : Int32)).toInt = y.toInt % 2147483648 := c_mask y 2147483647 31 (by decide) (by decide)
    omega
  have e := own_suc h1 h2
  have e2 := (c_iremV (y &&& (2147483647 : Int32)) (q + (1 : Int32))).1 h (by omega)
  omega
theorem own_six {z : Int32} (h1 : 0 ≤ z.toInt) (h2 : z.toInt ≤ 5) : z = (0 : Int32) ∨ z = (1 : Int32) ∨ z = (2 : Int32) ∨ z = (3 : Int32) ∨ z = (4 : Int32) ∨ z = (5 : Int32) := by
  have l0 : (0 : Int32).toInt = 0 := by decide
  have l1 : (1 : Int32).toInt = 1 := by decide
  have l2 : (2 : Int32).toInt = 2 := by decide
  have l3 : (3 : Int32).toInt = 3 := by decide
  have l4 : (4 : Int32).toInt = 4 := by decide
  have l5 : (5 : Int32).toInt = 5 := by decide
  simp only [← Int32.toInt_inj, l0, l1, l2, l3, l4, l5]; omega
theorem own_cn {q : Int32} (h1 : 0 ≤ q.toInt) (h2 : q.toInt ≤ 5) : ¬ q < 0 ∧ q.toNatClampNeg ≤ 5 := by
  have l0 : (0 : Int32).toInt = 0 := by decide
  refine ⟨?_, ?_⟩
  · rw [Int32.lt_iff_toInt_lt, l0]; omega
  · show q.toInt.toNat ≤ 5
    omega
theorem own_sub0 (q : Int32) : (q - (0 : Int32)) = q := by
  have l0 : (0 : Int32).toInt = 0 := by decide
  have e := c_isub q 0
  have r := rng32 q; have r2 := rng32 (q - (0 : Int32))
  apply Int32.toInt_inj.mp; rw [l0] at e; omega
theorem d7_0 : decode prog_8_method_7_code 0 = .ok (.aload_n 0, 1) := by decide +kernel
theorem d7_1 : decode prog_8_method_7_code 1 = .ok (.getfield 17, 3) := by decide +kernel
theorem d7_4 : decode prog_8_method_7_code 4 = .ok (.iload_n 1, 1) := by decide +kernel
theorem d7_5 : decode prog_8_method_7_code 5 = .ok (.isub, 1) := by decide +kernel
theorem d7_6 : decode prog_8_method_7_code 6 = .ok (.istore 5, 2) := by decide +kernel
theorem d7_8 : decode prog_8_method_7_code 8 = .ok (.iload 5, 2) := by decide +kernel
theorem d7_10 : decode prog_8_method_7_code 10 = .ok (.iload 4, 2) := by decide +kernel
theorem d7_12 : decode prog_8_method_7_code 12 = .ok (.iload_n 3, 1) := by decide +kernel
theorem d7_13 : decode prog_8_method_7_code 13 = .ok (.isub, 1) := by decide +kernel
theorem d7_14 : decode prog_8_method_7_code 14 = .ok (.iadd, 1) := by decide +kernel
theorem d7_15 : decode prog_8_method_7_code 15 = .ok (.istore 6, 2) := by decide +kernel
theorem d7_17 : decode prog_8_method_7_code 17 = .ok (.iload 6, 2) := by decide +kernel
theorem d7_19 : decode prog_8_method_7_code 19 = .ok (.ifCond .le 60, 3) := by decide +kernel
theorem d7_22 : decode prog_8_method_7_code 22 = .ok (.aload_n 0, 1) := by decide +kernel
theorem d7_23 : decode prog_8_method_7_code 23 = .ok (.getfield 26, 3) := by decide +kernel
theorem d7_26 : decode prog_8_method_7_code 26 = .ok (.ifnonnull 13, 3) := by decide +kernel
theorem d7_29 : decode prog_8_method_7_code 29 = .ok (.aload_n 0, 1) := by decide +kernel
theorem d7_30 : decode prog_8_method_7_code 30 = .ok (.aload_n 0, 1) := by decide +kernel
theorem d7_31 : decode prog_8_method_7_code 31 = .ok (.getfield 13, 3) := by decide +kernel
theorem d7_34 : decode prog_8_method_7_code 34 = .ok (.newarray .byte, 2) := by decide +kernel
theorem d7_36 : decode prog_8_method_7_code 36 = .ok (.putfield 26, 3) := by decide +kernel
theorem d7_39 : decode prog_8_method_7_code 39 = .ok (.iload 5, 2) := by decide +kernel
theorem d7_41 : decode prog_8_method_7_code 41 = .ok (.ifCond .le 23, 3) := by decide +kernel
theorem d7_64 : decode prog_8_method_7_code 64 = .ok (.aload_n 2, 1) := by decide +kernel
theorem d7_65 : decode prog_8_method_7_code 65 = .ok (.iload_n 3, 1) := by decide +kernel
theorem d7_66 : decode prog_8_method_7_code 66 = .ok (.aload_n 0, 1) := by decide +kernel
theorem d7_67 : decode prog_8_method_7_code 67 = .ok (.getfield 26, 3) := by decide +kernel
theorem d7_70 : decode prog_8_method_7_code 70 = .ok (.iload 5, 2) := by decide +kernel
theorem d7_72 : decode prog_8_method_7_code 72 = .ok (.iload 4, 2) := by decide +kernel
theorem d7_74 : decode prog_8_method_7_code 74 = .ok (.iload_n 3, 1) := by decide +kernel
theorem d7_75 : decode prog_8_method_7_code 75 = .ok (.isub, 1) := by decide +kernel
theorem d7_76 : decode prog_8_method_7_code 76 = .ok (.invokestatic 29, 3) := by decide +kernel
theorem d7_79 : decode prog_8_method_7_code 79 = .ok (.aload_n 0, 1) := by decide +kernel
theorem d7_80 : decode prog_8_method_7_code 80 = .ok (.aload_n 0, 1) := by decide +kernel
theorem d7_81 : decode prog_8_method_7_code 81 = .ok (.getfield 26, 3) := by decide +kernel
theorem d7_84 : decode prog_8_method_7_code 84 = .ok (.putfield 20, 3) := by decide +kernel
theorem d7_87 : decode prog_8_method_7_code 87 = .ok (.aload_n 0, 1) := by decide +kernel
theorem d7_88 : decode prog_8_method_7_code 88 = .ok (.iconst 0, 1) := by decide +kernel
theorem d7_89 : decode prog_8_method_7_code 89 = .ok (.putfield 23, 3) := by decide +kernel
theorem d7_92 : decode prog_8_method_7_code 92 = .ok (.aload_n 0, 1) := by decide +kernel
theorem d7_93 : decode prog_8_method_7_code 93 = .ok (.iload 6, 2) := by decide +kernel
theorem d7_95 : decode prog_8_method_7_code 95 = .ok (.putfield 17, 3) := by decide +kernel
theorem d7_98 : decode prog_8_method_7_code 98 = .ok (.return_, 1) := by decide +kernel
theorem pn_7 : plainName "com/example/needlewise/needlewise/Carry" = true := by first | (simp [plainName, overriddenIn]; done) | decide +kernel
theorem ef_rkeep (m : MethodId) (aa : Addr) (fd : Addr) (kk : Int32) : entryFrame m #[(.ref aa), (.int (0 : Int32)), (.ref fd), (.int (0 : Int32)), (.int kk)] 7 = mkF m 0 #[.val (.ref aa), .val (.int (0 : Int32)), .val (.ref fd), .val (.int (0 : Int32)), .val (.int kk), .unset, .unset] [] := by first | (simp [entryFrame, mkF, argsToLocals, Value.category]; done) | rfl
set_option maxRecDepth 65536 in
set_option maxHeartbeats 40000000 in
theorem rkeep (l : Launch) (Z : State) (a0 : Array Value) (hw : ∀ d ∈ tables_1, d.before a0 Z = true) (aa : Addr) (fd : Addr) (pa : Addr) (cp : Int32) (kk : Int32) (v0 : Int32) (v1 : Int32) (v2 : Int32) (v3 : Int32) (v4 : Int32) (h0 : Heap) (n0 : Nat) (Z0 : n0 ≤ h0.size) (ga : n0 ≤ aa) (gf : n0 ≤ fd) (neq : aa ≠ fd) (E0 : Exa Z h0 aa "com/example/needlewise/needlewise/Carry") (F_pattern : Fld Z h0 aa "com/example/needlewise/needlewise/Carry" "pattern" "[B" (.ref pa)) (F_capacity : Fld Z h0 aa "com/example/needlewise/needlewise/Carry" "capacity" "I" (.int cp)) (F_held : Fld Z h0 aa "com/example/needlewise/needlewise/Carry" "held" "[B" .null) (F_offset : Fld Z h0 aa "com/example/needlewise/needlewise/Carry" "offset" "I" (.int (0 : Int32))) (F_count : Fld Z h0 aa "com/example/needlewise/needlewise/Carry" "count" "I" (.int (0 : Int32))) (F_seam : Fld Z h0 aa "com/example/needlewise/needlewise/Carry" "seam" "[B" .null) (Af : own_Ar Z h0 fd .byte [(.int v0), (.int v1), (.int v2), (.int v3), (.int v4)]) (hv0 : fits .byte (.int v0) = true) (hv1 : fits .byte (.int v1) = true) (hv2 : fits .byte (.int v2) = true) (hv3 : fits .byte (.int v3) = true) (hv4 : fits .byte (.int v4) = true) (hc0 : 0 ≤ cp.toInt) (hc5 : cp.toInt ≤ 5) (hk0 : 0 ≤ kk.toInt) (hk1 : kk.toInt ≤ cp.toInt) :
    own_Met l Z (⟨"com/example/needlewise/needlewise/Carry", "keep", "(I[BII)V"⟩ : MethodName) prog_8_method_7_code 7 none ({ frames := 1, cells := 1, slots := 5, locals := 60 } : Room) #[(.ref aa), (.int (0 : Int32)), (.ref fd), (.int (0 : Int32)), (.int kk)] h0 n0 (fun v' h' => ∃ u1 u2 u3 : Value, v' = none ∧ Keep h0 h' [aa] ∧ Exa Z h' aa "com/example/needlewise/needlewise/Carry" ∧ Fld Z h' aa "com/example/needlewise/needlewise/Carry" "pattern" "[B" (.ref pa) ∧ Fld Z h' aa "com/example/needlewise/needlewise/Carry" "held" "[B" u1 ∧ Fld Z h' aa "com/example/needlewise/needlewise/Carry" "offset" "I" u2 ∧ Fld Z h' aa "com/example/needlewise/needlewise/Carry" "count" "I" u3) := by
  refine own_body (plainFor_of_name pn_7) (fun m => ef_rkeep m aa fd kk) Z0 ?_
  intro p e s m below meth c T0 cx X0
  have KK := Keep.refl h0 [aa]
  obtain ⟨cn1, cn2⟩ := own_cn hc0 hc5
  have kn : ¬ kk < 0 := (own_cn hk0 (Int.le_trans hk1 hc5)).1
  have ks := own_sub0 kk
  show own_Go p e below _ (T0.setTop (mkF m 0 #[.val (.ref aa), .val (.int (0 : Int32)), .val (.ref fd), .val (.int (0 : Int32)), .val (.int kk), .unset, .unset] []))
  refine o_aloadN cx X0 d7_0 rfl rfl ?_
  refine o_getF cx X0 d7_1 (o_w hw 24 rfl) F_count fun T1 X2 => ?_
  refine o_iloadN cx X2 d7_4 rfl ?_
  refine o_isub cx X2 (z := (0 : Int32)) d7_5 rfl ?_
  refine o_istore cx X2 (Ls' := #[.val (.ref aa), .val (.int (0 : Int32)), .val (.ref fd), .val (.int (0 : Int32)), .val (.int kk), .val (.int (0 : Int32)), .unset]) d7_6 rfl ?_
  refine o_iload cx X2 d7_8 rfl ?_
  refine o_iload cx X2 d7_10 rfl ?_
  refine o_iloadN cx X2 d7_12 rfl ?_
  refine o_isub cx X2 d7_13 rfl ?_
  refine o_iadd cx X2 d7_14 rfl ?_
  refine o_istore cx X2 (Ls' := #[.val (.ref aa), .val (.int (0 : Int32)), .val (.ref fd), .val (.int (0 : Int32)), .val (.int kk), .val (.int (0 : Int32)), .val (.int ((0 : Int32) + (kk - (0 : Int32))))]) d7_15 rfl ?_
  refine o_iload cx X2 d7_17 rfl ?_
  by_cases hc3 : (0 : Int32) < ((0 : Int32) + (kk - (0 : Int32)))
  · refine o_ifNo cx X2 d7_19 ((if0 _ _).trans (tlt hc3).2.2.2) ?_
    refine o_aloadN cx X2 d7_22 rfl rfl ?_
    refine o_getF cx X2 d7_23 (o_w hw 46 rfl) F_seam fun T4 X5 => ?_
    refine o_ifnonnullNo cx X5 d7_26 ?_
    refine o_aloadN cx X5 d7_29 rfl rfl ?_
    refine o_aloadN cx X5 d7_30 rfl rfl ?_
    refine o_getF cx X5 d7_31 (o_w hw 13 rfl) F_capacity fun T6 X7 => ?_
    refine o_newP cx X7 d7_34 (o_w hw 0 rfl) cn1 (cp.toNatClampNeg) 5 rfl cn2 (by decide) (by decide) (by decide) fun T9 h11 b8 gb14 ge15 X10 E12 A13 => ?_
    have ne_aa_b8 : aa ≠ b8 := by rw [gb14]; exact Nat.ne_of_lt E0.lt
    have ne_fd_b8 : fd ≠ b8 := by rw [gb14]; exact Nat.ne_of_lt Af.lt
    have sz_b8 : h0.size ≤ b8 := by rw [gb14]; exact KK.1
    have E0 := E0.ext E12
    have F_pattern := F_pattern.ext E12
    have F_capacity := F_capacity.ext E12
    have F_held := F_held.ext E12
    have F_offset := F_offset.ext E12
    have F_count := F_count.ext E12
    have F_seam := F_seam.ext E12
    have Af := Af.ext E12
    have KK := KK.ext E12
    have A13 : own_Ar Z h11 b8 .byte (List.replicate (cp.toNatClampNeg) (.int (0 : Int32))) := A13
    refine o_putF cx X10 (v' := (.ref b8)) (ty := (.array .byte)) d7_36 (o_w hw 46 rfl) F_seam E0 (Or.inl (o_w hw 47 rfl)) (o_w hw 3 rfl) (by decide) rfl rfl ga fun T16 h18 X17 W19 => ?_
    have E0 := E0.wr W19
    have F_pattern := F_pattern.other W19 (Or.inr (slot_ne (Or.inr (o_w hw 12 rfl)) (Or.inl (o_w hw 47 rfl)) (by decide) (t := (.array .byte)) (t' := (.array .byte)) (by decide) (by decide)))
    have F_capacity := F_capacity.other W19 (Or.inr (slot_ne (Or.inr (o_w hw 14 rfl)) (Or.inl (o_w hw 47 rfl)) (by decide) (t := .int) (t' := (.array .byte)) (by decide) (by decide)))
    have F_held := F_held.other W19 (Or.inr (slot_ne (Or.inl (o_w hw 21 rfl)) (Or.inl (o_w hw 47 rfl)) (by decide) (t := (.array .byte)) (t' := (.array .byte)) (by decide) (by decide)))
    have F_offset := F_offset.other W19 (Or.inr (slot_ne (Or.inl (o_w hw 23 rfl)) (Or.inl (o_w hw 47 rfl)) (by decide) (t := .int) (t' := (.array .byte)) (by decide) (by decide)))
    have F_count := F_count.other W19 (Or.inr (slot_ne (Or.inl (o_w hw 25 rfl)) (Or.inl (o_w hw 47 rfl)) (by decide) (t := .int) (t' := (.array .byte)) (by decide) (by decide)))
    have F_seam := F_seam.same W19
    have Af := Af.other W19 (Ne.symm neq)
    have A13 := A13.other W19 (Ne.symm ne_aa_b8)
    have KK := KK.wr W19 (Or.inl (List.mem_of_getElem? (i := 0) rfl))
    refine o_iload cx X17 d7_39 rfl ?_
    refine o_ifYes cx X17 64 d7_41 (by decide) (by decide) (by decide) ?_
    refine o_aloadN cx X17 d7_64 rfl rfl ?_
    refine o_iloadN cx X17 d7_65 rfl ?_
    refine o_aloadN cx X17 d7_66 rfl rfl ?_
    refine o_getF cx X17 d7_67 (o_w hw 46 rfl) F_seam fun T20 X21 => ?_
    refine o_iload cx X21 d7_70 rfl ?_
    refine o_iload cx X21 d7_72 rfl ?_
    refine o_iloadN cx X21 d7_74 rfl ?_
    refine o_isub cx X21 d7_75 rfl ?_
    have hkl : kk.toNatClampNeg ≤ cp.toNatClampNeg := by
      show kk.toInt.toNat ≤ cp.toInt.toNat
      omega
    refine o_cpy cx X21 d7_76 (o_w hw 48 rfl) (o_w hw 51 rfl) (o_w hw 49 rfl) (o_w hw 50 rfl) Af A13 (by simp [hv0, hv1, hv2, hv3, hv4]) (by intro v hv; rw [List.eq_of_mem_replicate hv]; rfl) rfl (by decide) (by decide) (by rw [ks]; exact kn) (by rw [ks]; show 0 + kk.toNatClampNeg ≤ 5; omega) (by rw [ks, List.length_replicate]; show 0 + kk.toNatClampNeg ≤ _; omega) ge15 rfl (by decide) 0 rfl (by decide) fun T22 h24 X23 K25 => ?_
    have E0 := E0.keep K25
    have F_pattern := F_pattern.keep K25 (ninS ne_aa_b8 nin0)
    have F_capacity := F_capacity.keep K25 (ninS ne_aa_b8 nin0)
    have F_held := F_held.keep K25 (ninS ne_aa_b8 nin0)
    have F_offset := F_offset.keep K25 (ninS ne_aa_b8 nin0)
    have F_count := F_count.keep K25 (ninS ne_aa_b8 nin0)
    have F_seam := F_seam.keep K25 (ninS ne_aa_b8 nin0)
    have Af := Af.keep K25 (ninS ne_fd_b8 nin0)
    have KK := KK.trans K25 (allS (Or.inr sz_b8) all0)
    show own_Go p e below _ (T22.setTop (mkF m 79 #[.val (.ref aa), .val (.int (0 : Int32)), .val (.ref fd), .val (.int (0 : Int32)), .val (.int kk), .val (.int (0 : Int32)), .val (.int ((0 : Int32) + (kk - (0 : Int32))))] []))
    refine o_aloadN cx X23 d7_79 rfl rfl ?_
    refine o_aloadN cx X23 d7_80 rfl rfl ?_
    refine o_getF cx X23 d7_81 (o_w hw 46 rfl) F_seam fun T26 X27 => ?_
    refine o_putF cx X27 (v' := (.ref b8)) (ty := (.array .byte)) d7_84 (o_w hw 20 rfl) F_held E0 (Or.inl (o_w hw 21 rfl)) (o_w hw 3 rfl) (by decide) rfl rfl ga fun T28 h30 X29 W31 => ?_
    have E0 := E0.wr W31
    have F_pattern := F_pattern.other W31 (Or.inr (slot_ne (Or.inr (o_w hw 12 rfl)) (Or.inl (o_w hw 21 rfl)) (by decide) (t := (.array .byte)) (t' := (.array .byte)) (by decide) (by decide)))
    have F_capacity := F_capacity.other W31 (Or.inr (slot_ne (Or.inr (o_w hw 14 rfl)) (Or.inl (o_w hw 21 rfl)) (by decide) (t := .int) (t' := (.array .byte)) (by decide) (by decide)))
    have F_held := F_held.same W31
    have F_offset := F_offset.other W31 (Or.inr (slot_ne (Or.inl (o_w hw 23 rfl)) (Or.inl (o_w hw 21 rfl)) (by decide) (t := .int) (t' := (.array .byte)) (by decide) (by decide)))
    have F_count := F_count.other W31 (Or.inr (slot_ne (Or.inl (o_w hw 25 rfl)) (Or.inl (o_w hw 21 rfl)) (by decide) (t := .int) (t' := (.array .byte)) (by decide) (by decide)))
    have F_seam := F_seam.other W31 (Or.inr (slot_ne (Or.inl (o_w hw 47 rfl)) (Or.inl (o_w hw 21 rfl)) (by decide) (t := (.array .byte)) (t' := (.array .byte)) (by decide) (by decide)))
    have Af := Af.other W31 (Ne.symm neq)
    have KK := KK.wr W31 (Or.inl (List.mem_of_getElem? (i := 0) rfl))
    refine o_aloadN cx X29 d7_87 rfl rfl ?_
    refine o_iconst cx X29 (z := (0 : Int32)) d7_88 rfl ?_
    refine o_putF cx X29 (v' := (.int (0 : Int32))) (ty := .int) d7_89 (o_w hw 22 rfl) F_offset E0 (Or.inl (o_w hw 23 rfl)) (o_w hw 3 rfl) (by decide) rfl rfl ga fun T32 h34 X33 W35 => ?_
    have E0 := E0.wr W35
    have F_pattern := F_pattern.other W35 (Or.inr (slot_ne (Or.inr (o_w hw 12 rfl)) (Or.inl (o_w hw 23 rfl)) (by decide) (t := (.array .byte)) (t' := .int) (by decide) (by decide)))
    have F_capacity := F_capacity.other W35 (Or.inr (slot_ne (Or.inr (o_w hw 14 rfl)) (Or.inl (o_w hw 23 rfl)) (by decide) (t := .int) (t' := .int) (by decide) (by decide)))
    have F_held := F_held.other W35 (Or.inr (slot_ne (Or.inl (o_w hw 21 rfl)) (Or.inl (o_w hw 23 rfl)) (by decide) (t := (.array .byte)) (t' := .int) (by decide) (by decide)))
    have F_offset := F_offset.same W35
    have F_count := F_count.other W35 (Or.inr (slot_ne (Or.inl (o_w hw 25 rfl)) (Or.inl (o_w hw 23 rfl)) (by decide) (t := .int) (t' := .int) (by decide) (by decide)))
    have F_seam := F_seam.other W35 (Or.inr (slot_ne (Or.inl (o_w hw 47 rfl)) (Or.inl (o_w hw 23 rfl)) (by decide) (t := (.array .byte)) (t' := .int) (by decide) (by decide)))
    have Af := Af.other W35 (Ne.symm neq)
    have KK := KK.wr W35 (Or.inl (List.mem_of_getElem? (i := 0) rfl))
    refine o_aloadN cx X33 d7_92 rfl rfl ?_
    refine o_iload cx X33 d7_93 rfl ?_
    refine o_putF cx X33 (v' := (.int ((0 : Int32) + (kk - (0 : Int32))))) (ty := .int) d7_95 (o_w hw 24 rfl) F_count E0 (Or.inl (o_w hw 25 rfl)) (o_w hw 3 rfl) (by decide) rfl rfl ga fun T36 h38 X37 W39 => ?_
    have E0 := E0.wr W39
    have F_pattern := F_pattern.other W39 (Or.inr (slot_ne (Or.inr (o_w hw 12 rfl)) (Or.inl (o_w hw 25 rfl)) (by decide) (t := (.array .byte)) (t' := .int) (by decide) (by decide)))
    have F_capacity := F_capacity.other W39 (Or.inr (slot_ne (Or.inr (o_w hw 14 rfl)) (Or.inl (o_w hw 25 rfl)) (by decide) (t := .int) (t' := .int) (by decide) (by decide)))
    have F_held := F_held.other W39 (Or.inr (slot_ne (Or.inl (o_w hw 21 rfl)) (Or.inl (o_w hw 25 rfl)) (by decide) (t := (.array .byte)) (t' := .int) (by decide) (by decide)))
    have F_offset := F_offset.other W39 (Or.inr (slot_ne (Or.inl (o_w hw 23 rfl)) (Or.inl (o_w hw 25 rfl)) (by decide) (t := .int) (t' := .int) (by decide) (by decide)))
    have F_count := F_count.same W39
    have F_seam := F_seam.other W39 (Or.inr (slot_ne (Or.inl (o_w hw 47 rfl)) (Or.inl (o_w hw 25 rfl)) (by decide) (t := (.array .byte)) (t' := .int) (by decide) (by decide)))
    have Af := Af.other W39 (Ne.symm neq)
    have KK := KK.wr W39 (Or.inl (List.mem_of_getElem? (i := 0) rfl))
    exact o_retV cx X37 d7_98 ⟨_, _, _, rfl, KK, E0, F_pattern, F_held, F_offset, F_count⟩ (by decide) (by decide)
  · refine o_ifYes cx X2 79 d7_19 ((if0 _ _).trans (flt hc3).2.2.2) (by decide) (by decide) ?_
    refine o_aloadN cx X2 d7_79 rfl rfl ?_
    refine o_aloadN cx X2 d7_80 rfl rfl ?_
    refine o_getF cx X2 d7_81 (o_w hw 46 rfl) F_seam fun T40 X41 => ?_
    refine o_putF cx X41 (v' := .null) (ty := (.array .byte)) d7_84 (o_w hw 20 rfl) F_held E0 (Or.inl (o_w hw 21 rfl)) (o_w hw 3 rfl) (by decide) rfl rfl ga fun T42 h44 X43 W45 => ?_
    have E0 := E0.wr W45
    have F_pattern := F_pattern.other W45 (Or.inr (slot_ne (Or.inr (o_w hw 12 rfl)) (Or.inl (o_w hw 21 rfl)) (by decide) (t := (.array .byte)) (t' := (.array .byte)) (by decide) (by decide)))
    have F_capacity := F_capacity.other W45 (Or.inr (slot_ne (Or.inr (o_w hw 14 rfl)) (Or.inl (o_w hw 21 rfl)) (by decide) (t := .int) (t' := (.array .byte)) (by decide) (by decide)))
    have F_held := F_held.same W45
    have F_offset := F_offset.other W45 (Or.inr (slot_ne (Or.inl (o_w hw 23 rfl)) (Or.inl (o_w hw 21 rfl)) (by decide) (t := .int) (t' := (.array .byte)) (by decide) (by decide)))
    have F_count := F_count.other W45 (Or.inr (slot_ne (Or.inl (o_w hw 25 rfl)) (Or.inl (o_w hw 21 rfl)) (by decide) (t := .int) (t' := (.array .byte)) (by decide) (by decide)))
    have F_seam := F_seam.other W45 (Or.inr (slot_ne (Or.inl (o_w hw 47 rfl)) (Or.inl (o_w hw 21 rfl)) (by decide) (t := (.array .byte)) (t' := (.array .byte)) (by decide) (by decide)))
    have Af := Af.other W45 (Ne.symm neq)
    have KK := KK.wr W45 (Or.inl (List.mem_of_getElem? (i := 0) rfl))
    refine o_aloadN cx X43 d7_87 rfl rfl ?_
    refine o_iconst cx X43 (z := (0 : Int32)) d7_88 rfl ?_
    refine o_putF cx X43 (v' := (.int (0 : Int32))) (ty := .int) d7_89 (o_w hw 22 rfl) F_offset E0 (Or.inl (o_w hw 23 rfl)) (o_w hw 3 rfl) (by decide) rfl rfl ga fun T46 h48 X47 W49 => ?_
    have E0 := E0.wr W49
    have F_pattern := F_pattern.other W49 (Or.inr (slot_ne (Or.inr (o_w hw 12 rfl)) (Or.inl (o_w hw 23 rfl)) (by decide) (t := (.array .byte)) (t' := .int) (by decide) (by decide)))
    have F_capacity := F_capacity.other W49 (Or.inr (slot_ne (Or.inr (o_w hw 14 rfl)) (Or.inl (o_w hw 23 rfl)) (by decide) (t := .int) (t' := .int) (by decide) (by decide)))
    have F_held := F_held.other W49 (Or.inr (slot_ne (Or.inl (o_w hw 21 rfl)) (Or.inl (o_w hw 23 rfl)) (by decide) (t := (.array .byte)) (t' := .int) (by decide) (by decide)))
    have F_offset := F_offset.same W49
    have F_count := F_count.other W49 (Or.inr (slot_ne (Or.inl (o_w hw 25 rfl)) (Or.inl (o_w hw 23 rfl)) (by decide) (t := .int) (t' := .int) (by decide) (by decide)))
    have F_seam := F_seam.other W49 (Or.inr (slot_ne (Or.inl (o_w hw 47 rfl)) (Or.inl (o_w hw 23 rfl)) (by decide) (t := (.array .byte)) (t' := .int) (by decide) (by decide)))
    have Af := Af.other W49 (Ne.symm neq)
    have KK := KK.wr W49 (Or.inl (List.mem_of_getElem? (i := 0) rfl))
    refine o_aloadN cx X47 d7_92 rfl rfl ?_
    refine o_iload cx X47 d7_93 rfl ?_
    refine o_putF cx X47 (v' := (.int ((0 : Int32) + (kk - (0 : Int32))))) (ty := .int) d7_95 (o_w hw 24 rfl) F_count E0 (Or.inl (o_w hw 25 rfl)) (o_w hw 3 rfl) (by decide) rfl rfl ga fun T50 h52 X51 W53 => ?_
    have E0 := E0.wr W53
    have F_pattern := F_pattern.other W53 (Or.inr (slot_ne (Or.inr (o_w hw 12 rfl)) (Or.inl (o_w hw 25 rfl)) (by decide) (t := (.array .byte)) (t' := .int) (by decide) (by decide)))
    have F_capacity := F_capacity.other W53 (Or.inr (slot_ne (Or.inr (o_w hw 14 rfl)) (Or.inl (o_w hw 25 rfl)) (by decide) (t := .int) (t' := .int) (by decide) (by decide)))
    have F_held := F_held.other W53 (Or.inr (slot_ne (Or.inl (o_w hw 21 rfl)) (Or.inl (o_w hw 25 rfl)) (by decide) (t := (.array .byte)) (t' := .int) (by decide) (by decide)))
    have F_offset := F_offset.other W53 (Or.inr (slot_ne (Or.inl (o_w hw 23 rfl)) (Or.inl (o_w hw 25 rfl)) (by decide) (t := .int) (t' := .int) (by decide) (by decide)))
    have F_count := F_count.same W53
    have F_seam := F_seam.other W53 (Or.inr (slot_ne (Or.inl (o_w hw 47 rfl)) (Or.inl (o_w hw 25 rfl)) (by decide) (t := (.array .byte)) (t' := .int) (by decide) (by decide)))
    have Af := Af.other W53 (Ne.symm neq)
    have KK := KK.wr W53 (Or.inl (List.mem_of_getElem? (i := 0) rfl))
    exact o_retV cx X51 d7_98 ⟨_, _, _, rfl, KK, E0, F_pattern, F_held, F_offset, F_count⟩ (by decide) (by decide)
theorem d1_0 : decode prog_8_method_1_code 0 = .ok (.aload_n 0, 1) := by decide +kernel
theorem d1_1 : decode prog_8_method_1_code 1 = .ok (.invokespecial 1, 3) := by decide +kernel
theorem d1_4 : decode prog_8_method_1_code 4 = .ok (.aload_n 0, 1) := by decide +kernel
theorem d1_5 : decode prog_8_method_1_code 5 = .ok (.aload_n 1, 1) := by decide +kernel
theorem d1_6 : decode prog_8_method_1_code 6 = .ok (.putfield 7, 3) := by decide +kernel
theorem d1_9 : decode prog_8_method_1_code 9 = .ok (.aload_n 0, 1) := by decide +kernel
theorem d1_10 : decode prog_8_method_1_code 10 = .ok (.iload_n 2, 1) := by decide +kernel
theorem d1_11 : decode prog_8_method_1_code 11 = .ok (.putfield 13, 3) := by decide +kernel
theorem d1_14 : decode prog_8_method_1_code 14 = .ok (.return_, 1) := by decide +kernel
theorem ef_ra1_1 (m : MethodId) (ob0 : Addr) (ob1 : Addr) (q0 : Int32) : entryFrame m #[(.ref ob0), (.ref ob1), (.int q0)] 3 = mkF m 0 #[.val (.ref ob0), .val (.ref ob1), .val (.int q0)] [] := by first | (simp [entryFrame, mkF, argsToLocals, Value.category]; done) | rfl
set_option maxRecDepth 65536 in
set_option maxHeartbeats 40000000 in
theorem ra1_1 (l : Launch) (Z : State) (a0 : Array Value) (hw : ∀ d ∈ tables_1, d.before a0 Z = true) (ob0 : Addr) (ob1 : Addr) (q0 : Int32) (q1 : Int32) (q2 : Int32) (q3 : Int32) (q4 : Int32) (q5 : Int32) (h0 : Heap) (n0 : Nat) (Z0 : n0 ≤ h0.size) (ga0 : n0 ≤ ob0) (ga1 : n0 ≤ ob1) (ne_0_1 : ob0 ≠ ob1) (G0 : Exa Z h0 ob0 "com/example/needlewise/needlewise/Carry") (G1 : Fld Z h0 ob0 "com/example/needlewise/needlewise/Carry" "pattern" "[B" .null) (G2 : Fld Z h0 ob0 "com/example/needlewise/needlewise/Carry" "capacity" "I" (.int (0 : Int32))) (G3 : Fld Z h0 ob0 "com/example/needlewise/needlewise/Carry" "held" "[B" .null) (G4 : Fld Z h0 ob0 "com/example/needlewise/needlewise/Carry" "offset" "I" (.int (0 : Int32))) (G5 : Fld Z h0 ob0 "com/example/needlewise/needlewise/Carry" "count" "I" (.int (0 : Int32))) (G6 : Fld Z h0 ob0 "com/example/needlewise/needlewise/Carry" "seam" "[B" .null) (G7 : own_Ar Z h0 ob1 .byte [(.int q1), (.int q2), (.int q3), (.int q4), (.int q5)]) :
    own_Met l Z (⟨"com/example/needlewise/needlewise/Carry", "<init>", "([BI)V"⟩ : MethodName) prog_8_method_1_code 3 none ({ frames := 1, cells := 0, slots := 0, locals := 12 } : Room) #[(.ref ob0), (.ref ob1), (.int q0)] h0 n0 (fun v' h' => v' = none ∧ Keep h0 h' [ob0] ∧ Exa Z h' ob0 "com/example/needlewise/needlewise/Carry" ∧ Fld Z h' ob0 "com/example/needlewise/needlewise/Carry" "pattern" "[B" (.ref ob1) ∧ Fld Z h' ob0 "com/example/needlewise/needlewise/Carry" "capacity" "I" (.int q0) ∧ Fld Z h' ob0 "com/example/needlewise/needlewise/Carry" "held" "[B" .null ∧ Fld Z h' ob0 "com/example/needlewise/needlewise/Carry" "offset" "I" (.int (0 : Int32)) ∧ Fld Z h' ob0 "com/example/needlewise/needlewise/Carry" "count" "I" (.int (0 : Int32)) ∧ Fld Z h' ob0 "com/example/needlewise/needlewise/Carry" "seam" "[B" .null) := by
  refine own_body (plainFor_of_name pn_7) (fun m => ef_ra1_1 m ob0 ob1 q0) Z0 ?_
  intro p e s m below meth c T0 cx X0
  have KK := Keep.refl h0 [ob0]
  show own_Go p e below _ (T0.setTop (mkF m 0 #[.val (.ref ob0), .val (.ref ob1), .val (.int q0)] []))
  refine o_aloadN cx X0 d1_0 rfl rfl ?_
  refine o_initO cx X0 d1_1 (o_w hw 8 rfl) (o_w hw 9 rfl) (o_w hw 10 rfl) rfl (by decide) 0 rfl (by decide) fun T129 X130 => ?_
  refine o_aloadN cx X130 d1_4 rfl rfl ?_
  refine o_aloadN cx X130 d1_5 rfl rfl ?_
  refine o_putF cx X130 (v' := (.ref ob1)) (ty := (.array .byte)) d1_6 (o_w hw 11 rfl) G1 G0 (Or.inr ⟨(o_w hw 12 rfl), rfl, rfl⟩) (o_w hw 3 rfl) (by decide) rfl rfl ga0 fun T131 h133 X132 W134 => ?_
  have G0 := G0.wr W134
  have G1 := G1.same W134
  have G2 := G2.other W134 (Or.inr (slot_ne (Or.inr (o_w hw 14 rfl)) (Or.inr (o_w hw 12 rfl)) (by decide) (t := .int) (t' := (.array .byte)) (by decide) (by decide)))
  have G3 := G3.other W134 (Or.inr (slot_ne (Or.inl (o_w hw 21 rfl)) (Or.inr (o_w hw 12 rfl)) (by decide) (t := (.array .byte)) (t' := (.array .byte)) (by decide) (by decide)))
  have G4 := G4.other W134 (Or.inr (slot_ne (Or.inl (o_w hw 23 rfl)) (Or.inr (o_w hw 12 rfl)) (by decide) (t := .int) (t' := (.array .byte)) (by decide) (by decide)))
  have G5 := G5.other W134 (Or.inr (slot_ne (Or.inl (o_w hw 25 rfl)) (Or.inr (o_w hw 12 rfl)) (by decide) (t := .int) (t' := (.array .byte)) (by decide) (by decide)))
  have G6 := G6.other W134 (Or.inr (slot_ne (Or.inl (o_w hw 47 rfl)) (Or.inr (o_w hw 12 rfl)) (by decide) (t := (.array .byte)) (t' := (.array .byte)) (by decide) (by decide)))
  have G7 := G7.other W134 (Ne.symm ne_0_1)
  have KK := KK.wr W134 (Or.inl (List.mem_of_getElem? (i := 0) rfl))
  refine o_aloadN cx X132 d1_9 rfl rfl ?_
  refine o_iloadN cx X132 d1_10 rfl ?_
  refine o_putF cx X132 (v' := (.int q0)) (ty := .int) d1_11 (o_w hw 13 rfl) G2 G0 (Or.inr ⟨(o_w hw 14 rfl), rfl, rfl⟩) (o_w hw 3 rfl) (by decide) rfl rfl ga0 fun T135 h137 X136 W138 => ?_
  have G0 := G0.wr W138
  have G1 := G1.other W138 (Or.inr (slot_ne (Or.inr (o_w hw 12 rfl)) (Or.inr (o_w hw 14 rfl)) (by decide) (t := (.array .byte)) (t' := .int) (by decide) (by decide)))
  have G2 := G2.same W138
  have G3 := G3.other W138 (Or.inr (slot_ne (Or.inl (o_w hw 21 rfl)) (Or.inr (o_w hw 14 rfl)) (by decide) (t := (.array .byte)) (t' := .int) (by decide) (by decide)))
  have G4 := G4.other W138 (Or.inr (slot_ne (Or.inl (o_w hw 23 rfl)) (Or.inr (o_w hw 14 rfl)) (by decide) (t := .int) (t' := .int) (by decide) (by decide)))
  have G5 := G5.other W138 (Or.inr (slot_ne (Or.inl (o_w hw 25 rfl)) (Or.inr (o_w hw 14 rfl)) (by decide) (t := .int) (t' := .int) (by decide) (by decide)))
  have G6 := G6.other W138 (Or.inr (slot_ne (Or.inl (o_w hw 47 rfl)) (Or.inr (o_w hw 14 rfl)) (by decide) (t := (.array .byte)) (t' := .int) (by decide) (by decide)))
  have G7 := G7.other W138 (Ne.symm ne_0_1)
  have KK := KK.wr W138 (Or.inl (List.mem_of_getElem? (i := 0) rfl))
  exact o_retV cx X136 d1_14 ⟨rfl, KK, G0, G1, G2, G3, G4, G5, G6⟩ (by decide) (by decide)
theorem pd_1 : parseMethodDescriptor "([BI)V" = some ⟨[(.array .byte), .int], none⟩ := by decide +kernel
theorem d3_0 : decode prog_8_method_8_code 0 = .ok (.aload_n 0, 1) := by decide +kernel
theorem d3_1 : decode prog_8_method_8_code 1 = .ok (.aload_n 0, 1) := by decide +kernel
theorem d3_2 : decode prog_8_method_8_code 2 = .ok (.getfield 7, 3) := by decide +kernel
theorem d3_5 : decode prog_8_method_8_code 5 = .ok (.putfield 20, 3) := by decide +kernel
theorem d3_8 : decode prog_8_method_8_code 8 = .ok (.aload_n 0, 1) := by decide +kernel
theorem d3_9 : decode prog_8_method_8_code 9 = .ok (.iload_n 1, 1) := by decide +kernel
theorem d3_10 : decode prog_8_method_8_code 10 = .ok (.putfield 23, 3) := by decide +kernel
theorem d3_13 : decode prog_8_method_8_code 13 = .ok (.aload_n 0, 1) := by decide +kernel
theorem d3_14 : decode prog_8_method_8_code 14 = .ok (.aload_n 0, 1) := by decide +kernel
theorem d3_15 : decode prog_8_method_8_code 15 = .ok (.getfield 7, 3) := by decide +kernel
theorem d3_18 : decode prog_8_method_8_code 18 = .ok (.arraylength, 1) := by decide +kernel
theorem d3_19 : decode prog_8_method_8_code 19 = .ok (.iload_n 1, 1) := by decide +kernel
theorem d3_20 : decode prog_8_method_8_code 20 = .ok (.isub, 1) := by decide +kernel
theorem d3_21 : decode prog_8_method_8_code 21 = .ok (.putfield 17, 3) := by decide +kernel
theorem d3_24 : decode prog_8_method_8_code 24 = .ok (.return_, 1) := by decide +kernel
theorem ef_ra3_2 (m : MethodId) (ob0 : Addr) : entryFrame m #[(.ref ob0), (.int (5 : Int32))] 2 = mkF m 0 #[.val (.ref ob0), .val (.int (5 : Int32))] [] := by first | (simp [entryFrame, mkF, argsToLocals, Value.category]; done) | rfl
set_option maxRecDepth 65536 in
set_option maxHeartbeats 40000000 in
theorem ra3_2 (l : Launch) (Z : State) (a0 : Array Value) (hw : ∀ d ∈ tables_1, d.before a0 Z = true) (ob0 : Addr) (ob1 : Addr) (q0 : Value) (q1 : Value) (q2 : Value) (q3 : Int32) (q4 : Int32) (q5 : Int32) (q6 : Int32) (q7 : Int32) (h0 : Heap) (n0 : Nat) (Z0 : n0 ≤ h0.size) (ga0 : n0 ≤ ob0) (ga1 : n0 ≤ ob1) (ne_0_1 : ob0 ≠ ob1) (G0 : Exa Z h0 ob0 "com/example/needlewise/needlewise/Carry") (G1 : Fld Z h0 ob0 "com/example/needlewise/needlewise/Carry" "pattern" "[B" (.ref ob1)) (G2 : Fld Z h0 ob0 "com/example/needlewise/needlewise/Carry" "held" "[B" q0) (G3 : Fld Z h0 ob0 "com/example/needlewise/needlewise/Carry" "offset" "I" q1) (G4 : Fld Z h0 ob0 "com/example/needlewise/needlewise/Carry" "count" "I" q2) (G5 : own_Ar Z h0 ob1 .byte [(.int q3), (.int q4), (.int q5), (.int q6), (.int q7)]) :
    own_Met l Z (⟨"com/example/needlewise/needlewise/Carry", "keepPattern", "(I)V"⟩ : MethodName) prog_8_method_8_code 2 none ({ frames := 0, cells := 0, slots := 0, locals := 0 } : Room) #[(.ref ob0), (.int (5 : Int32))] h0 n0 (fun v' h' => v' = none ∧ Keep h0 h' [ob0] ∧ Exa Z h' ob0 "com/example/needlewise/needlewise/Carry" ∧ Fld Z h' ob0 "com/example/needlewise/needlewise/Carry" "pattern" "[B" (.ref ob1) ∧ Fld Z h' ob0 "com/example/needlewise/needlewise/Carry" "held" "[B" (.ref ob1) ∧ Fld Z h' ob0 "com/example/needlewise/needlewise/Carry" "offset" "I" (.int (5 : Int32)) ∧ Fld Z h' ob0 "com/example/needlewise/needlewise/Carry" "count" "I" (.int (0 : Int32))) := by
  refine own_body (plainFor_of_name pn_7) (fun m => ef_ra3_2 m ob0) Z0 ?_
  intro p e s m below meth c T0 cx X0
  have KK := Keep.refl h0 [ob0]
  show own_Go p e below _ (T0.setTop (mkF m 0 #[.val (.ref ob0), .val (.int (5 : Int32))] []))
  refine o_aloadN cx X0 d3_0 rfl rfl ?_
  refine o_aloadN cx X0 d3_1 rfl rfl ?_
  refine o_getF cx X0 d3_2 (o_w hw 11 rfl) G1 fun T168 X169 => ?_
  refine o_putF cx X169 (v' := (.ref ob1)) (ty := (.array .byte)) d3_5 (o_w hw 20 rfl) G2 G0 (Or.inl (o_w hw 21 rfl)) (o_w hw 3 rfl) (by decide) rfl rfl ga0 fun T170 h172 X171 W173 => ?_
  have G0 := G0.wr W173
  have G1 := G1.other W173 (Or.inr (slot_ne (Or.inr (o_w hw 12 rfl)) (Or.inl (o_w hw 21 rfl)) (by decide) (t := (.array .byte)) (t' := (.array .byte)) (by decide) (by decide)))
  have G2 := G2.same W173
  have G3 := G3.other W173 (Or.inr (slot_ne (Or.inl (o_w hw 23 rfl)) (Or.inl (o_w hw 21 rfl)) (by decide) (t := .int) (t' := (.array .byte)) (by decide) (by decide)))
  have G4 := G4.other W173 (Or.inr (slot_ne (Or.inl (o_w hw 25 rfl)) (Or.inl (o_w hw 21 rfl)) (by decide) (t := .int) (t' := (.array .byte)) (by decide) (by decide)))
  have G5 := G5.other W173 (Ne.symm ne_0_1)
  have KK := KK.wr W173 (Or.inl (List.mem_of_getElem? (i := 0) rfl))
  refine o_aloadN cx X171 d3_8 rfl rfl ?_
  refine o_iloadN cx X171 d3_9 rfl ?_
  refine o_putF cx X171 (v' := (.int (5 : Int32))) (ty := .int) d3_10 (o_w hw 22 rfl) G3 G0 (Or.inl (o_w hw 23 rfl)) (o_w hw 3 rfl) (by decide) rfl rfl ga0 fun T174 h176 X175 W177 => ?_
  have G0 := G0.wr W177
  have G1 := G1.other W177 (Or.inr (slot_ne (Or.inr (o_w hw 12 rfl)) (Or.inl (o_w hw 23 rfl)) (by decide) (t := (.array .byte)) (t' := .int) (by decide) (by decide)))
  have G2 := G2.other W177 (Or.inr (slot_ne (Or.inl (o_w hw 21 rfl)) (Or.inl (o_w hw 23 rfl)) (by decide) (t := (.array .byte)) (t' := .int) (by decide) (by decide)))
  have G3 := G3.same W177
  have G4 := G4.other W177 (Or.inr (slot_ne (Or.inl (o_w hw 25 rfl)) (Or.inl (o_w hw 23 rfl)) (by decide) (t := .int) (t' := .int) (by decide) (by decide)))
  have G5 := G5.other W177 (Ne.symm ne_0_1)
  have KK := KK.wr W177 (Or.inl (List.mem_of_getElem? (i := 0) rfl))
  refine o_aloadN cx X175 d3_13 rfl rfl ?_
  refine o_aloadN cx X175 d3_14 rfl rfl ?_
  refine o_getF cx X175 d3_15 (o_w hw 11 rfl) G1 fun T178 X179 => ?_
  refine o_len cx X179 (z := (5 : Int32)) d3_18 G5 rfl ?_
  refine o_iloadN cx X179 d3_19 rfl ?_
  refine o_isub cx X179 (z := (0 : Int32)) d3_20 rfl ?_
  refine o_putF cx X179 (v' := (.int (0 : Int32))) (ty := .int) d3_21 (o_w hw 24 rfl) G4 G0 (Or.inl (o_w hw 25 rfl)) (o_w hw 3 rfl) (by decide) rfl rfl ga0 fun T180 h182 X181 W183 => ?_
  have G0 := G0.wr W183
  have G1 := G1.other W183 (Or.inr (slot_ne (Or.inr (o_w hw 12 rfl)) (Or.inl (o_w hw 25 rfl)) (by decide) (t := (.array .byte)) (t' := .int) (by decide) (by decide)))
  have G2 := G2.other W183 (Or.inr (slot_ne (Or.inl (o_w hw 21 rfl)) (Or.inl (o_w hw 25 rfl)) (by decide) (t := (.array .byte)) (t' := .int) (by decide) (by decide)))
  have G3 := G3.other W183 (Or.inr (slot_ne (Or.inl (o_w hw 23 rfl)) (Or.inl (o_w hw 25 rfl)) (by decide) (t := .int) (t' := .int) (by decide) (by decide)))
  have G4 := G4.same W183
  have G5 := G5.other W183 (Ne.symm ne_0_1)
  have KK := KK.wr W183 (Or.inl (List.mem_of_getElem? (i := 0) rfl))
  exact o_retV cx X181 d3_24 ⟨rfl, KK, G0, G1, G2, G3, G4⟩ (by decide) (by decide)
theorem pd_3 : parseMethodDescriptor "(I)V" = some ⟨[.int], none⟩ := by decide +kernel
theorem d4_0 : decode prog_8_method_3_code 0 = .ok (.aload_n 0, 1) := by decide +kernel
theorem d4_1 : decode prog_8_method_3_code 1 = .ok (.getfield 20, 3) := by decide +kernel
theorem d4_4 : decode prog_8_method_3_code 4 = .ok (.areturn, 1) := by decide +kernel
theorem ef_ra4_3 (m : MethodId) (ob0 : Addr) : entryFrame m #[(.ref ob0)] 1 = mkF m 0 #[.val (.ref ob0)] [] := by first | (simp [entryFrame, mkF, argsToLocals, Value.category]; done) | rfl
set_option maxRecDepth 65536 in
set_option maxHeartbeats 40000000 in
theorem ra4_3 (l : Launch) (Z : State) (a0 : Array Value) (hw : ∀ d ∈ tables_1, d.before a0 Z = true) (ob0 : Addr) (ob1 : Addr) (q0 : Int32) (q1 : Int32) (q2 : Int32) (q3 : Int32) (q4 : Int32) (h0 : Heap) (n0 : Nat) (Z0 : n0 ≤ h0.size) (ga0 : n0 ≤ ob0) (ga1 : n0 ≤ ob1) (ne_0_1 : ob0 ≠ ob1) (G0 : Exa Z h0 ob0 "com/example/needlewise/needlewise/Carry") (G1 : Fld Z h0 ob0 "com/example/needlewise/needlewise/Carry" "pattern" "[B" (.ref ob1)) (G2 : Fld Z h0 ob0 "com/example/needlewise/needlewise/Carry" "held" "[B" (.ref ob1)) (G3 : Fld Z h0 ob0 "com/example/needlewise/needlewise/Carry" "offset" "I" (.int (5 : Int32))) (G4 : Fld Z h0 ob0 "com/example/needlewise/needlewise/Carry" "count" "I" (.int (0 : Int32))) (G5 : own_Ar Z h0 ob1 .byte [(.int q0), (.int q1), (.int q2), (.int q3), (.int q4)]) :
    own_Met l Z (⟨"com/example/needlewise/needlewise/Carry", "array", "()[B"⟩ : MethodName) prog_8_method_3_code 1 (some (.array .byte)) ({ frames := 0, cells := 0, slots := 0, locals := 0 } : Room) #[(.ref ob0)] h0 n0 (fun v' h' => v' = some (.ref ob1) ∧ h' = h0) := by
  refine own_body (plainFor_of_name pn_7) (fun m => ef_ra4_3 m ob0) Z0 ?_
  intro p e s m below meth c T0 cx X0
  have KK := Keep.refl h0 []
  show own_Go p e below _ (T0.setTop (mkF m 0 #[.val (.ref ob0)] []))
  refine o_aloadN cx X0 d4_0 rfl rfl ?_
  refine o_getF cx X0 d4_1 (o_w hw 20 rfl) G2 fun T197 X198 => ?_
  exact o_retA cx X198 d4_4 rfl rfl rfl ⟨rfl, rfl⟩ (by decide) (by decide)
theorem pd_4 : parseMethodDescriptor "()[B" = some ⟨[], some (.array .byte)⟩ := by decide +kernel
theorem d5_0 : decode prog_8_method_4_code 0 = .ok (.aload_n 0, 1) := by decide +kernel
theorem d5_1 : decode prog_8_method_4_code 1 = .ok (.getfield 23, 3) := by decide +kernel
theorem d5_4 : decode prog_8_method_4_code 4 = .ok (.ireturn, 1) := by decide +kernel
theorem ef_ra5_4 (m : MethodId) (ob0 : Addr) : entryFrame m #[(.ref ob0)] 1 = mkF m 0 #[.val (.ref ob0)] [] := by first | (simp [entryFrame, mkF, argsToLocals, Value.category]; done) | rfl
set_option maxRecDepth 65536 in
set_option maxHeartbeats 40000000 in
theorem ra5_4 (l : Launch) (Z : State) (a0 : Array Value) (hw : ∀ d ∈ tables_1, d.before a0 Z = true) (ob0 : Addr) (ob1 : Addr) (q0 : Int32) (q1 : Int32) (q2 : Int32) (q3 : Int32) (q4 : Int32) (h0 : Heap) (n0 : Nat) (Z0 : n0 ≤ h0.size) (ga0 : n0 ≤ ob0) (ga1 : n0 ≤ ob1) (ne_0_1 : ob0 ≠ ob1) (G0 : Exa Z h0 ob0 "com/example/needlewise/needlewise/Carry") (G1 : Fld Z h0 ob0 "com/example/needlewise/needlewise/Carry" "pattern" "[B" (.ref ob1)) (G2 : Fld Z h0 ob0 "com/example/needlewise/needlewise/Carry" "held" "[B" (.ref ob1)) (G3 : Fld Z h0 ob0 "com/example/needlewise/needlewise/Carry" "offset" "I" (.int (5 : Int32))) (G4 : Fld Z h0 ob0 "com/example/needlewise/needlewise/Carry" "count" "I" (.int (0 : Int32))) (G5 : own_Ar Z h0 ob1 .byte [(.int q0), (.int q1), (.int q2), (.int q3), (.int q4)]) :
    own_Met l Z (⟨"com/example/needlewise/needlewise/Carry", "offset", "()I"⟩ : MethodName) prog_8_method_4_code 1 (some .int) ({ frames := 0, cells := 0, slots := 0, locals := 0 } : Room) #[(.ref ob0)] h0 n0 (fun v' h' => v' = some (.int (5 : Int32)) ∧ h' = h0) := by
  refine own_body (plainFor_of_name pn_7) (fun m => ef_ra5_4 m ob0) Z0 ?_
  intro p e s m below meth c T0 cx X0
  have KK := Keep.refl h0 []
  show own_Go p e below _ (T0.setTop (mkF m 0 #[.val (.ref ob0)] []))
  refine o_aloadN cx X0 d5_0 rfl rfl ?_
  refine o_getF cx X0 d5_1 (o_w hw 22 rfl) G3 fun T206 X207 => ?_
  exact o_retI cx X207 d5_4 ⟨rfl, rfl⟩ (by decide) (by decide)
theorem pd_5 : parseMethodDescriptor "()I" = some ⟨[], some .int⟩ := by decide +kernel
theorem d6_0 : decode prog_8_method_2_code 0 = .ok (.aload_n 0, 1) := by decide +kernel
theorem d6_1 : decode prog_8_method_2_code 1 = .ok (.getfield 17, 3) := by decide +kernel
theorem d6_4 : decode prog_8_method_2_code 4 = .ok (.ireturn, 1) := by decide +kernel
theorem ef_ra6_5 (m : MethodId) (ob0 : Addr) : entryFrame m #[(.ref ob0)] 1 = mkF m 0 #[.val (.ref ob0)] [] := by first | (simp [entryFrame, mkF, argsToLocals, Value.category]; done) | rfl
set_option maxRecDepth 65536 in
set_option maxHeartbeats 40000000 in
theorem ra6_5 (l : Launch) (Z : State) (a0 : Array Value) (hw : ∀ d ∈ tables_1, d.before a0 Z = true) (ob0 : Addr) (ob1 : Addr) (q0 : Int32) (q1 : Int32) (q2 : Int32) (q3 : Int32) (q4 : Int32) (h0 : Heap) (n0 : Nat) (Z0 : n0 ≤ h0.size) (ga0 : n0 ≤ ob0) (ga1 : n0 ≤ ob1) (ne_0_1 : ob0 ≠ ob1) (G0 : Exa Z h0 ob0 "com/example/needlewise/needlewise/Carry") (G1 : Fld Z h0 ob0 "com/example/needlewise/needlewise/Carry" "pattern" "[B" (.ref ob1)) (G2 : Fld Z h0 ob0 "com/example/needlewise/needlewise/Carry" "held" "[B" (.ref ob1)) (G3 : Fld Z h0 ob0 "com/example/needlewise/needlewise/Carry" "offset" "I" (.int (5 : Int32))) (G4 : Fld Z h0 ob0 "com/example/needlewise/needlewise/Carry" "count" "I" (.int (0 : Int32))) (G5 : own_Ar Z h0 ob1 .byte [(.int q0), (.int q1), (.int q2), (.int q3), (.int q4)]) :
    own_Met l Z (⟨"com/example/needlewise/needlewise/Carry", "count", "()I"⟩ : MethodName) prog_8_method_2_code 1 (some .int) ({ frames := 0, cells := 0, slots := 0, locals := 0 } : Room) #[(.ref ob0)] h0 n0 (fun v' h' => v' = some (.int (0 : Int32)) ∧ h' = h0) := by
  refine own_body (plainFor_of_name pn_7) (fun m => ef_ra6_5 m ob0) Z0 ?_
  intro p e s m below meth c T0 cx X0
  have KK := Keep.refl h0 []
  show own_Go p e below _ (T0.setTop (mkF m 0 #[.val (.ref ob0)] []))
  refine o_aloadN cx X0 d6_0 rfl rfl ?_
  refine o_getF cx X0 d6_1 (o_w hw 24 rfl) G4 fun T215 X216 => ?_
  exact o_retI cx X216 d6_4 ⟨rfl, rfl⟩ (by decide) (by decide)
theorem pd_6 : parseMethodDescriptor "()I" = some ⟨[], some .int⟩ := by decide +kernel
theorem pd_7 : parseMethodDescriptor "(I[BII)V" = some ⟨[.int, (.array .byte), .int, .int], none⟩ := by decide +kernel
theorem ef_ra3_6 (m : MethodId) (ob0 : Addr) : entryFrame m #[(.ref ob0), (.int (4 : Int32))] 2 = mkF m 0 #[.val (.ref ob0), .val (.int (4 : Int32))] [] := by first | (simp [entryFrame, mkF, argsToLocals, Value.category]; done) | rfl
set_option maxRecDepth 65536 in
set_option maxHeartbeats 40000000 in
theorem ra3_6 (l : Launch) (Z : State) (a0 : Array Value) (hw : ∀ d ∈ tables_1, d.before a0 Z = true) (ob0 : Addr) (ob1 : Addr) (q0 : Value) (q1 : Value) (q2 : Value) (q3 : Int32) (q4 : Int32) (q5 : Int32) (q6 : Int32) (q7 : Int32) (h0 : Heap) (n0 : Nat) (Z0 : n0 ≤ h0.size) (ga0 : n0 ≤ ob0) (ga1 : n0 ≤ ob1) (ne_0_1 : ob0 ≠ ob1) (G0 : Exa Z h0 ob0 "com/example/needlewise/needlewise/Carry") (G1 : Fld Z h0 ob0 "com/example/needlewise/needlewise/Carry" "pattern" "[B" (.ref ob1)) (G2 : Fld Z h0 ob0 "com/example/needlewise/needlewise/Carry" "held" "[B" q0) (G3 : Fld Z h0 ob0 "com/example/needlewise/needlewise/Carry" "offset" "I" q1) (G4 : Fld Z h0 ob0 "com/example/needlewise/needlewise/Carry" "count" "I" q2) (G5 : own_Ar Z h0 ob1 .byte [(.int q3), (.int q4), (.int q5), (.int q6), (.int q7)]) :
    own_Met l Z (⟨"com/example/needlewise/needlewise/Carry", "keepPattern", "(I)V"⟩ : MethodName) prog_8_method_8_code 2 none ({ frames := 0, cells := 0, slots := 0, locals := 0 } : Room) #[(.ref ob0), (.int (4 : Int32))] h0 n0 (fun v' h' => v' = none ∧ Keep h0 h' [ob0] ∧ Exa Z h' ob0 "com/example/needlewise/needlewise/Carry" ∧ Fld Z h' ob0 "com/example/needlewise/needlewise/Carry" "pattern" "[B" (.ref ob1) ∧ Fld Z h' ob0 "com/example/needlewise/needlewise/Carry" "held" "[B" (.ref ob1) ∧ Fld Z h' ob0 "com/example/needlewise/needlewise/Carry" "offset" "I" (.int (4 : Int32)) ∧ Fld Z h' ob0 "com/example/needlewise/needlewise/Carry" "count" "I" (.int (1 : Int32))) := by
  refine own_body (plainFor_of_name pn_7) (fun m => ef_ra3_6 m ob0) Z0 ?_
  intro p e s m below meth c T0 cx X0
  have KK := Keep.refl h0 [ob0]
  show own_Go p e below _ (T0.setTop (mkF m 0 #[.val (.ref ob0), .val (.int (4 : Int32))] []))
  refine o_aloadN cx X0 d3_0 rfl rfl ?_
  refine o_aloadN cx X0 d3_1 rfl rfl ?_
  refine o_getF cx X0 d3_2 (o_w hw 11 rfl) G1 fun T292 X293 => ?_
  refine o_putF cx X293 (v' := (.ref ob1)) (ty := (.array .byte)) d3_5 (o_w hw 20 rfl) G2 G0 (Or.inl (o_w hw 21 rfl)) (o_w hw 3 rfl) (by decide) rfl rfl ga0 fun T294 h296 X295 W297 => ?_
  have G0 := G0.wr W297
  have G1 := G1.other W297 (Or.inr (slot_ne (Or.inr (o_w hw 12 rfl)) (Or.inl (o_w hw 21 rfl)) (by decide) (t := (.array .byte)) (t' := (.array .byte)) (by decide) (by decide)))
  have G2 := G2.same W297
  have G3 := G3.other W297 (Or.inr (slot_ne (Or.inl (o_w hw 23 rfl)) (Or.inl (o_w hw 21 rfl)) (by decide) (t := .int) (t' := (.array .byte)) (by decide) (by decide)))
  have G4 := G4.other W297 (Or.inr (slot_ne (Or.inl (o_w hw 25 rfl)) (Or.inl (o_w hw 21 rfl)) (by decide) (t := .int) (t' := (.array .byte)) (by decide) (by decide)))
  have G5 := G5.other W297 (Ne.symm ne_0_1)
  have KK := KK.wr W297 (Or.inl (List.mem_of_getElem? (i := 0) rfl))
  refine o_aloadN cx X295 d3_8 rfl rfl ?_
  refine o_iloadN cx X295 d3_9 rfl ?_
  refine o_putF cx X295 (v' := (.int (4 : Int32))) (ty := .int) d3_10 (o_w hw 22 rfl) G3 G0 (Or.inl (o_w hw 23 rfl)) (o_w hw 3 rfl) (by decide) rfl rfl ga0 fun T298 h300 X299 W301 => ?_
  have G0 := G0.wr W301
  have G1 := G1.other W301 (Or.inr (slot_ne (Or.inr (o_w hw 12 rfl)) (Or.inl (o_w hw 23 rfl)) (by decide) (t := (.array .byte)) (t' := .int) (by decide) (by decide)))
  have G2 := G2.other W301 (Or.inr (slot_ne (Or.inl (o_w hw 21 rfl)) (Or.inl (o_w hw 23 rfl)) (by decide) (t := (.array .byte)) (t' := .int) (by decide) (by decide)))
  have G3 := G3.same W301
  have G4 := G4.other W301 (Or.inr (slot_ne (Or.inl (o_w hw 25 rfl)) (Or.inl (o_w hw 23 rfl)) (by decide) (t := .int) (t' := .int) (by decide) (by decide)))
  have G5 := G5.other W301 (Ne.symm ne_0_1)
  have KK := KK.wr W301 (Or.inl (List.mem_of_getElem? (i := 0) rfl))
  refine o_aloadN cx X299 d3_13 rfl rfl ?_
  refine o_aloadN cx X299 d3_14 rfl rfl ?_
  refine o_getF cx X299 d3_15 (o_w hw 11 rfl) G1 fun T302 X303 => ?_
  refine o_len cx X303 (z := (5 : Int32)) d3_18 G5 rfl ?_
  refine o_iloadN cx X303 d3_19 rfl ?_
  refine o_isub cx X303 (z := (1 : Int32)) d3_20 rfl ?_
  refine o_putF cx X303 (v' := (.int (1 : Int32))) (ty := .int) d3_21 (o_w hw 24 rfl) G4 G0 (Or.inl (o_w hw 25 rfl)) (o_w hw 3 rfl) (by decide) rfl rfl ga0 fun T304 h306 X305 W307 => ?_
  have G0 := G0.wr W307
  have G1 := G1.other W307 (Or.inr (slot_ne (Or.inr (o_w hw 12 rfl)) (Or.inl (o_w hw 25 rfl)) (by decide) (t := (.array .byte)) (t' := .int) (by decide) (by decide)))
  have G2 := G2.other W307 (Or.inr (slot_ne (Or.inl (o_w hw 21 rfl)) (Or.inl (o_w hw 25 rfl)) (by decide) (t := (.array .byte)) (t' := .int) (by decide) (by decide)))
  have G3 := G3.other W307 (Or.inr (slot_ne (Or.inl (o_w hw 23 rfl)) (Or.inl (o_w hw 25 rfl)) (by decide) (t := .int) (t' := .int) (by decide) (by decide)))
  have G4 := G4.same W307
  have G5 := G5.other W307 (Ne.symm ne_0_1)
  have KK := KK.wr W307 (Or.inl (List.mem_of_getElem? (i := 0) rfl))
  exact o_retV cx X305 d3_24 ⟨rfl, KK, G0, G1, G2, G3, G4⟩ (by decide) (by decide)
theorem ef_ra4_7 (m : MethodId) (ob0 : Addr) : entryFrame m #[(.ref ob0)] 1 = mkF m 0 #[.val (.ref ob0)] [] := by first | (simp [entryFrame, mkF, argsToLocals, Value.category]; done) | rfl
set_option maxRecDepth 65536 in
set_option maxHeartbeats 40000000 in
theorem ra4_7 (l : Launch) (Z : State) (a0 : Array Value) (hw : ∀ d ∈ tables_1, d.before a0 Z = true) (ob0 : Addr) (ob1 : Addr) (q0 : Int32) (q1 : Int32) (q2 : Int32) (q3 : Int32) (q4 : Int32) (h0 : Heap) (n0 : Nat) (Z0 : n0 ≤ h0.size) (ga0 : n0 ≤ ob0) (ga1 : n0 ≤ ob1) (ne_0_1 : ob0 ≠ ob1) (G0 : Exa Z h0 ob0 "com/example/needlewise/needlewise/Carry") (G1 : Fld Z h0 ob0 "com/example/needlewise/needlewise/Carry" "pattern" "[B" (.ref ob1)) (G2 : Fld Z h0 ob0 "com/example/needlewise/needlewise/Carry" "held" "[B" (.ref ob1)) (G3 : Fld Z h0 ob0 "com/example/needlewise/needlewise/Carry" "offset" "I" (.int (4 : Int32))) (G4 : Fld Z h0 ob0 "com/example/needlewise/needlewise/Carry" "count" "I" (.int (1 : Int32))) (G5 : own_Ar Z h0 ob1 .byte [(.int q0), (.int q1), (.int q2), (.int q3), (.int q4)]) :
    own_Met l Z (⟨"com/example/needlewise/needlewise/Carry", "array", "()[B"⟩ : MethodName) prog_8_method_3_code 1 (some (.array .byte)) ({ frames := 0, cells := 0, slots := 0, locals := 0 } : Room) #[(.ref ob0)] h0 n0 (fun v' h' => v' = some (.ref ob1) ∧ h' = h0) := by
  refine own_body (plainFor_of_name pn_7) (fun m => ef_ra4_7 m ob0) Z0 ?_
  intro p e s m below meth c T0 cx X0
  have KK := Keep.refl h0 []
  show own_Go p e below _ (T0.setTop (mkF m 0 #[.val (.ref ob0)] []))
  refine o_aloadN cx X0 d4_0 rfl rfl ?_
  refine o_getF cx X0 d4_1 (o_w hw 20 rfl) G2 fun T321 X322 => ?_
  exact o_retA cx X322 d4_4 rfl rfl rfl ⟨rfl, rfl⟩ (by decide) (by decide)
theorem ef_ra5_8 (m : MethodId) (ob0 : Addr) : entryFrame m #[(.ref ob0)] 1 = mkF m 0 #[.val (.ref ob0)] [] := by first | (simp [entryFrame, mkF, argsToLocals, Value.category]; done) | rfl
set_option maxRecDepth 65536 in
set_option maxHeartbeats 40000000 in
theorem ra5_8 (l : Launch) (Z : State) (a0 : Array Value) (hw : ∀ d ∈ tables_1, d.before a0 Z = true) (ob0 : Addr) (ob1 : Addr) (q0 : Int32) (q1 : Int32) (q2 : Int32) (q3 : Int32) (q4 : Int32) (h0 : Heap) (n0 : Nat) (Z0 : n0 ≤ h0.size) (ga0 : n0 ≤ ob0) (ga1 : n0 ≤ ob1) (ne_0_1 : ob0 ≠ ob1) (G0 : Exa Z h0 ob0 "com/example/needlewise/needlewise/Carry") (G1 : Fld Z h0 ob0 "com/example/needlewise/needlewise/Carry" "pattern" "[B" (.ref ob1)) (G2 : Fld Z h0 ob0 "com/example/needlewise/needlewise/Carry" "held" "[B" (.ref ob1)) (G3 : Fld Z h0 ob0 "com/example/needlewise/needlewise/Carry" "offset" "I" (.int (4 : Int32))) (G4 : Fld Z h0 ob0 "com/example/needlewise/needlewise/Carry" "count" "I" (.int (1 : Int32))) (G5 : own_Ar Z h0 ob1 .byte [(.int q0), (.int q1), (.int q2), (.int q3), (.int q4)]) :
    own_Met l Z (⟨"com/example/needlewise/needlewise/Carry", "offset", "()I"⟩ : MethodName) prog_8_method_4_code 1 (some .int) ({ frames := 0, cells := 0, slots := 0, locals := 0 } : Room) #[(.ref ob0)] h0 n0 (fun v' h' => v' = some (.int (4 : Int32)) ∧ h' = h0) := by
  refine own_body (plainFor_of_name pn_7) (fun m => ef_ra5_8 m ob0) Z0 ?_
  intro p e s m below meth c T0 cx X0
  have KK := Keep.refl h0 []
  show own_Go p e below _ (T0.setTop (mkF m 0 #[.val (.ref ob0)] []))
  refine o_aloadN cx X0 d5_0 rfl rfl ?_
  refine o_getF cx X0 d5_1 (o_w hw 22 rfl) G3 fun T330 X331 => ?_
  exact o_retI cx X331 d5_4 ⟨rfl, rfl⟩ (by decide) (by decide)
theorem ef_ra6_9 (m : MethodId) (ob0 : Addr) : entryFrame m #[(.ref ob0)] 1 = mkF m 0 #[.val (.ref ob0)] [] := by first | (simp [entryFrame, mkF, argsToLocals, Value.category]; done) | rfl
set_option maxRecDepth 65536 in
set_option maxHeartbeats 40000000 in
theorem ra6_9 (l : Launch) (Z : State) (a0 : Array Value) (hw : ∀ d ∈ tables_1, d.before a0 Z = true) (ob0 : Addr) (ob1 : Addr) (q0 : Int32) (q1 : Int32) (q2 : Int32) (q3 : Int32) (q4 : Int32) (h0 : Heap) (n0 : Nat) (Z0 : n0 ≤ h0.size) (ga0 : n0 ≤ ob0) (ga1 : n0 ≤ ob1) (ne_0_1 : ob0 ≠ ob1) (G0 : Exa Z h0 ob0 "com/example/needlewise/needlewise/Carry") (G1 : Fld Z h0 ob0 "com/example/needlewise/needlewise/Carry" "pattern" "[B" (.ref ob1)) (G2 : Fld Z h0 ob0 "com/example/needlewise/needlewise/Carry" "held" "[B" (.ref ob1)) (G3 : Fld Z h0 ob0 "com/example/needlewise/needlewise/Carry" "offset" "I" (.int (4 : Int32))) (G4 : Fld Z h0 ob0 "com/example/needlewise/needlewise/Carry" "count" "I" (.int (1 : Int32))) (G5 : own_Ar Z h0 ob1 .byte [(.int q0), (.int q1), (.int q2), (.int q3), (.int q4)]) :
    own_Met l Z (⟨"com/example/needlewise/needlewise/Carry", "count", "()I"⟩ : MethodName) prog_8_method_2_code 1 (some .int) ({ frames := 0, cells := 0, slots := 0, locals := 0 } : Room) #[(.ref ob0)] h0 n0 (fun v' h' => v' = some (.int (1 : Int32)) ∧ h' = h0) := by
  refine own_body (plainFor_of_name pn_7) (fun m => ef_ra6_9 m ob0) Z0 ?_
  intro p e s m below meth c T0 cx X0
  have KK := Keep.refl h0 []
  show own_Go p e below _ (T0.setTop (mkF m 0 #[.val (.ref ob0)] []))
  refine o_aloadN cx X0 d6_0 rfl rfl ?_
  refine o_getF cx X0 d6_1 (o_w hw 24 rfl) G4 fun T339 X340 => ?_
  exact o_retI cx X340 d6_4 ⟨rfl, rfl⟩ (by decide) (by decide)
theorem d8_0 : decode prog_8_method_5_code 0 = .ok (.aload_n 0, 1) := by decide +kernel
theorem d8_1 : decode prog_8_method_5_code 1 = .ok (.getfield 20, 3) := by decide +kernel
theorem d8_4 : decode prog_8_method_5_code 4 = .ok (.aload_n 0, 1) := by decide +kernel
theorem d8_5 : decode prog_8_method_5_code 5 = .ok (.getfield 23, 3) := by decide +kernel
theorem d8_8 : decode prog_8_method_5_code 8 = .ok (.iload_n 1, 1) := by decide +kernel
theorem d8_9 : decode prog_8_method_5_code 9 = .ok (.iadd, 1) := by decide +kernel
theorem d8_10 : decode prog_8_method_5_code 10 = .ok (.baload, 1) := by decide +kernel
theorem d8_11 : decode prog_8_method_5_code 11 = .ok (.ireturn, 1) := by decide +kernel
theorem ef_ra8_10 (m : MethodId) (ob0 : Addr) : entryFrame m #[(.ref ob0), (.int (0 : Int32))] 2 = mkF m 0 #[.val (.ref ob0), .val (.int (0 : Int32))] [] := by first | (simp [entryFrame, mkF, argsToLocals, Value.category]; done) | rfl
set_option maxRecDepth 65536 in
set_option maxHeartbeats 40000000 in
theorem ra8_10 (l : Launch) (Z : State) (a0 : Array Value) (hw : ∀ d ∈ tables_1, d.before a0 Z = true) (ob0 : Addr) (ob1 : Addr) (q0 : Int32) (q1 : Int32) (q2 : Int32) (q3 : Int32) (q4 : Int32) (h0 : Heap) (n0 : Nat) (Z0 : n0 ≤ h0.size) (ga0 : n0 ≤ ob0) (ga1 : n0 ≤ ob1) (ne_0_1 : ob0 ≠ ob1) (G0 : Exa Z h0 ob0 "com/example/needlewise/needlewise/Carry") (G1 : Fld Z h0 ob0 "com/example/needlewise/needlewise/Carry" "pattern" "[B" (.ref ob1)) (G2 : Fld Z h0 ob0 "com/example/needlewise/needlewise/Carry" "held" "[B" (.ref ob1)) (G3 : Fld Z h0 ob0 "com/example/needlewise/needlewise/Carry" "offset" "I" (.int (4 : Int32))) (G4 : Fld Z h0 ob0 "com/example/needlewise/needlewise/Carry" "count" "I" (.int (1 : Int32))) (G5 : own_Ar Z h0 ob1 .byte [(.int q0), (.int q1), (.int q2), (.int q3), (.int q4)]) :
    own_Met l Z (⟨"com/example/needlewise/needlewise/Carry", "get", "(I)B"⟩ : MethodName) prog_8_method_5_code 2 (some .byte) ({ frames := 0, cells := 0, slots := 0, locals := 0 } : Room) #[(.ref ob0), (.int (0 : Int32))] h0 n0 (fun v' h' => v' = some (.int (nar .byte q4)) ∧ h' = h0) := by
  refine own_body (plainFor_of_name pn_7) (fun m => ef_ra8_10 m ob0) Z0 ?_
  intro p e s m below meth c T0 cx X0
  have KK := Keep.refl h0 []
  show own_Go p e below _ (T0.setTop (mkF m 0 #[.val (.ref ob0), .val (.int (0 : Int32))] []))
  refine o_aloadN cx X0 d8_0 rfl rfl ?_
  refine o_getF cx X0 d8_1 (o_w hw 20 rfl) G2 fun T350 X351 => ?_
  refine o_aloadN cx X351 d8_4 rfl rfl ?_
  refine o_getF cx X351 d8_5 (o_w hw 22 rfl) G3 fun T352 X353 => ?_
  refine o_iloadN cx X353 d8_8 rfl ?_
  refine o_iadd cx X353 (z := (4 : Int32)) d8_9 rfl ?_
  refine o_ldB cx X353 (v := (.int q4)) d8_10 G5 4 (by decide) rfl rfl ?_
  exact o_retN cx X353 (z' := (nar .byte q4)) d8_11 (by simp) rfl ⟨rfl, rfl⟩ (by decide) (by decide)
theorem pd_8 : parseMethodDescriptor "(I)B" = some ⟨[.int], some .byte⟩ := by decide +kernel
theorem ef_ra3_11 (m : MethodId) (ob0 : Addr) : entryFrame m #[(.ref ob0), (.int (3 : Int32))] 2 = mkF m 0 #[.val (.ref ob0), .val (.int (3 : Int32))] [] := by first | (simp [entryFrame, mkF, argsToLocals, Value.category]; done) | rfl
set_option maxRecDepth 65536 in
set_option maxHeartbeats 40000000 in
theorem ra3_11 (l : Launch) (Z : State) (a0 : Array Value) (hw : ∀ d ∈ tables_1, d.before a0 Z = true) (ob0 : Addr) (ob1 : Addr) (q0 : Value) (q1 : Value) (q2 : Value) (q3 : Int32) (q4 : Int32) (q5 : Int32) (q6 : Int32) (q7 : Int32) (h0 : Heap) (n0 : Nat) (Z0 : n0 ≤ h0.size) (ga0 : n0 ≤ ob0) (ga1 : n0 ≤ ob1) (ne_0_1 : ob0 ≠ ob1) (G0 : Exa Z h0 ob0 "com/example/needlewise/needlewise/Carry") (G1 : Fld Z h0 ob0 "com/example/needlewise/needlewise/Carry" "pattern" "[B" (.ref ob1)) (G2 : Fld Z h0 ob0 "com/example/needlewise/needlewise/Carry" "held" "[B" q0) (G3 : Fld Z h0 ob0 "com/example/needlewise/needlewise/Carry" "offset" "I" q1) (G4 : Fld Z h0 ob0 "com/example/needlewise/needlewise/Carry" "count" "I" q2) (G5 : own_Ar Z h0 ob1 .byte [(.int q3), (.int q4), (.int q5), (.int q6), (.int q7)]) :
    own_Met l Z (⟨"com/example/needlewise/needlewise/Carry", "keepPattern", "(I)V"⟩ : MethodName) prog_8_method_8_code 2 none ({ frames := 0, cells := 0, slots := 0, locals := 0 } : Room) #[(.ref ob0), (.int (3 : Int32))] h0 n0 (fun v' h' => v' = none ∧ Keep h0 h' [ob0] ∧ Exa Z h' ob0 "com/example/needlewise/needlewise/Carry" ∧ Fld Z h' ob0 "com/example/needlewise/needlewise/Carry" "pattern" "[B" (.ref ob1) ∧ Fld Z h' ob0 "com/example/needlewise/needlewise/Carry" "held" "[B" (.ref ob1) ∧ Fld Z h' ob0 "com/example/needlewise/needlewise/Carry" "offset" "I" (.int (3 : Int32)) ∧ Fld Z h' ob0 "com/example/needlewise/needlewise/Carry" "count" "I" (.int (2 : Int32))) := by
  refine own_body (plainFor_of_name pn_7) (fun m => ef_ra3_11 m ob0) Z0 ?_
  intro p e s m below meth c T0 cx X0
  have KK := Keep.refl h0 [ob0]
  show own_Go p e below _ (T0.setTop (mkF m 0 #[.val (.ref ob0), .val (.int (3 : Int32))] []))
  refine o_aloadN cx X0 d3_0 rfl rfl ?_
  refine o_aloadN cx X0 d3_1 rfl rfl ?_
  refine o_getF cx X0 d3_2 (o_w hw 11 rfl) G1 fun T444 X445 => ?_
  refine o_putF cx X445 (v' := (.ref ob1)) (ty := (.array .byte)) d3_5 (o_w hw 20 rfl) G2 G0 (Or.inl (o_w hw 21 rfl)) (o_w hw 3 rfl) (by decide) rfl rfl ga0 fun T446 h448 X447 W449 => ?_
  have G0 := G0.wr W449
  have G1 := G1.other W449 (Or.inr (slot_ne (Or.inr (o_w hw 12 rfl)) (Or.inl (o_w hw 21 rfl)) (by decide) (t := (.array .byte)) (t' := (.array .byte)) (by decide) (by decide)))
  have G2 := G2.same W449
  have G3 := G3.other W449 (Or.inr (slot_ne (Or.inl (o_w hw 23 rfl)) (Or.inl (o_w hw 21 rfl)) (by decide) (t := .int) (t' := (.array .byte)) (by decide) (by decide)))
  have G4 := G4.other W449 (Or.inr (slot_ne (Or.inl (o_w hw 25 rfl)) (Or.inl (o_w hw 21 rfl)) (by decide) (t := .int) (t' := (.array .byte)) (by decide) (by decide)))
  have G5 := G5.other W449 (Ne.symm ne_0_1)
  have KK := KK.wr W449 (Or.inl (List.mem_of_getElem? (i := 0) rfl))
  refine o_aloadN cx X447 d3_8 rfl rfl ?_
  refine o_iloadN cx X447 d3_9 rfl ?_
  refine o_putF cx X447 (v' := (.int (3 : Int32))) (ty := .int) d3_10 (o_w hw 22 rfl) G3 G0 (Or.inl (o_w hw 23 rfl)) (o_w hw 3 rfl) (by decide) rfl rfl ga0 fun T450 h452 X451 W453 => ?_
  have G0 := G0.wr W453
  have G1 := G1.other W453 (Or.inr (slot_ne (Or.inr (o_w hw 12 rfl)) (Or.inl (o_w hw 23 rfl)) (by decide) (t := (.array .byte)) (t' := .int) (by decide) (by decide)))
  have G2 := G2.other W453 (Or.inr (slot_ne (Or.inl (o_w hw 21 rfl)) (Or.inl (o_w hw 23 rfl)) (by decide) (t := (.array .byte)) (t' := .int) (by decide) (by decide)))
  have G3 := G3.same W453
  have G4 := G4.other W453 (Or.inr (slot_ne (Or.inl (o_w hw 25 rfl)) (Or.inl (o_w hw 23 rfl)) (by decide) (t := .int) (t' := .int) (by decide) (by decide)))
  have G5 := G5.other W453 (Ne.symm ne_0_1)
  have KK := KK.wr W453 (Or.inl (List.mem_of_getElem? (i := 0) rfl))
  refine o_aloadN cx X451 d3_13 rfl rfl ?_
  refine o_aloadN cx X451 d3_14 rfl rfl ?_
  refine o_getF cx X451 d3_15 (o_w hw 11 rfl) G1 fun T454 X455 => ?_
  refine o_len cx X455 (z := (5 : Int32)) d3_18 G5 rfl ?_
  refine o_iloadN cx X455 d3_19 rfl ?_
  refine o_isub cx X455 (z := (2 : Int32)) d3_20 rfl ?_
  refine o_putF cx X455 (v' := (.int (2 : Int32))) (ty := .int) d3_21 (o_w hw 24 rfl) G4 G0 (Or.inl (o_w hw 25 rfl)) (o_w hw 3 rfl) (by decide) rfl rfl ga0 fun T456 h458 X457 W459 => ?_
  have G0 := G0.wr W459
  have G1 := G1.other W459 (Or.inr (slot_ne (Or.inr (o_w hw 12 rfl)) (Or.inl (o_w hw 25 rfl)) (by decide) (t := (.array .byte)) (t' := .int) (by decide) (by decide)))
  have G2 := G2.other W459 (Or.inr (slot_ne (Or.inl (o_w hw 21 rfl)) (Or.inl (o_w hw 25 rfl)) (by decide) (t := (.array .byte)) (t' := .int) (by decide) (by decide)))
  have G3 := G3.other W459 (Or.inr (slot_ne (Or.inl (o_w hw 23 rfl)) (Or.inl (o_w hw 25 rfl)) (by decide) (t := .int) (t' := .int) (by decide) (by decide)))
  have G4 := G4.same W459
  have G5 := G5.other W459 (Ne.symm ne_0_1)
  have KK := KK.wr W459 (Or.inl (List.mem_of_getElem? (i := 0) rfl))
  exact o_retV cx X457 d3_24 ⟨rfl, KK, G0, G1, G2, G3, G4⟩ (by decide) (by decide)
theorem ef_ra4_12 (m : MethodId) (ob0 : Addr) : entryFrame m #[(.ref ob0)] 1 = mkF m 0 #[.val (.ref ob0)] [] := by first | (simp [entryFrame, mkF, argsToLocals, Value.category]; done) | rfl
set_option maxRecDepth 65536 in
set_option maxHeartbeats 40000000 in
theorem ra4_12 (l : Launch) (Z : State) (a0 : Array Value) (hw : ∀ d ∈ tables_1, d.before a0 Z = true) (ob0 : Addr) (ob1 : Addr) (q0 : Int32) (q1 : Int32) (q2 : Int32) (q3 : Int32) (q4 : Int32) (h0 : Heap) (n0 : Nat) (Z0 : n0 ≤ h0.size) (ga0 : n0 ≤ ob0) (ga1 : n0 ≤ ob1) (ne_0_1 : ob0 ≠ ob1) (G0 : Exa Z h0 ob0 "com/example/needlewise/needlewise/Carry") (G1 : Fld Z h0 ob0 "com/example/needlewise/needlewise/Carry" "pattern" "[B" (.ref ob1)) (G2 : Fld Z h0 ob0 "com/example/needlewise/needlewise/Carry" "held" "[B" (.ref ob1)) (G3 : Fld Z h0 ob0 "com/example/needlewise/needlewise/Carry" "offset" "I" (.int (3 : Int32))) (G4 : Fld Z h0 ob0 "com/example/needlewise/needlewise/Carry" "count" "I" (.int (2 : Int32))) (G5 : own_Ar Z h0 ob1 .byte [(.int q0), (.int q1), (.int q2), (.int q3), (.int q4)]) :
    own_Met l Z (⟨"com/example/needlewise/needlewise/Carry", "array", "()[B"⟩ : MethodName) prog_8_method_3_code 1 (some (.array .byte)) ({ frames := 0, cells := 0, slots := 0, locals := 0 } : Room) #[(.ref ob0)] h0 n0 (fun v' h' => v' = some (.ref ob1) ∧ h' = h0) := by
  refine own_body (plainFor_of_name pn_7) (fun m => ef_ra4_12 m ob0) Z0 ?_
  intro p e s m below meth c T0 cx X0
  have KK := Keep.refl h0 []
  show own_Go p e below _ (T0.setTop (mkF m 0 #[.val (.ref ob0)] []))
  refine o_aloadN cx X0 d4_0 rfl rfl ?_
  refine o_getF cx X0 d4_1 (o_w hw 20 rfl) G2 fun T473 X474 => ?_
  exact o_retA cx X474 d4_4 rfl rfl rfl ⟨rfl, rfl⟩ (by decide) (by decide)
theorem ef_ra5_13 (m : MethodId) (ob0 : Addr) : entryFrame m #[(.ref ob0)] 1 = mkF m 0 #[.val (.ref ob0)] [] := by first | (simp [entryFrame, mkF, argsToLocals, Value.category]; done) | rfl
set_option maxRecDepth 65536 in
set_option maxHeartbeats 40000000 in
theorem ra5_13 (l : Launch) (Z : State) (a0 : Array Value) (hw : ∀ d ∈ tables_1, d.before a0 Z = true) (ob0 : Addr) (ob1 : Addr) (q0 : Int32) (q1 : Int32) (q2 : Int32) (q3 : Int32) (q4 : Int32) (h0 : Heap) (n0 : Nat) (Z0 : n0 ≤ h0.size) (ga0 : n0 ≤ ob0) (ga1 : n0 ≤ ob1) (ne_0_1 : ob0 ≠ ob1) (G0 : Exa Z h0 ob0 "com/example/needlewise/needlewise/Carry") (G1 : Fld Z h0 ob0 "com/example/needlewise/needlewise/Carry" "pattern" "[B" (.ref ob1)) (G2 : Fld Z h0 ob0 "com/example/needlewise/needlewise/Carry" "held" "[B" (.ref ob1)) (G3 : Fld Z h0 ob0 "com/example/needlewise/needlewise/Carry" "offset" "I" (.int (3 : Int32))) (G4 : Fld Z h0 ob0 "com/example/needlewise/needlewise/Carry" "count" "I" (.int (2 : Int32))) (G5 : own_Ar Z h0 ob1 .byte [(.int q0), (.int q1), (.int q2), (.int q3), (.int q4)]) :
    own_Met l Z (⟨"com/example/needlewise/needlewise/Carry", "offset", "()I"⟩ : MethodName) prog_8_method_4_code 1 (some .int) ({ frames := 0, cells := 0, slots := 0, locals := 0 } : Room) #[(.ref ob0)] h0 n0 (fun v' h' => v' = some (.int (3 : Int32)) ∧ h' = h0) := by
  refine own_body (plainFor_of_name pn_7) (fun m => ef_ra5_13 m ob0) Z0 ?_
  intro p e s m below meth c T0 cx X0
  have KK := Keep.refl h0 []
  show own_Go p e below _ (T0.setTop (mkF m 0 #[.val (.ref ob0)] []))
  refine o_aloadN cx X0 d5_0 rfl rfl ?_
  refine o_getF cx X0 d5_1 (o_w hw 22 rfl) G3 fun T482 X483 => ?_
  exact o_retI cx X483 d5_4 ⟨rfl, rfl⟩ (by decide) (by decide)
theorem ef_ra6_14 (m : MethodId) (ob0 : Addr) : entryFrame m #[(.ref ob0)] 1 = mkF m 0 #[.val (.ref ob0)] [] := by first | (simp [entryFrame, mkF, argsToLocals, Value.category]; done) | rfl
set_option maxRecDepth 65536 in
set_option maxHeartbeats 40000000 in
theorem ra6_14 (l : Launch) (Z : State) (a0 : Array Value) (hw : ∀ d ∈ tables_1, d.before a0 Z = true) (ob0 : Addr) (ob1 : Addr) (q0 : Int32) (q1 : Int32) (q2 : Int32) (q3 : Int32) (q4 : Int32) (h0 : Heap) (n0 : Nat) (Z0 : n0 ≤ h0.size) (ga0 : n0 ≤ ob0) (ga1 : n0 ≤ ob1) (ne_0_1 : ob0 ≠ ob1) (G0 : Exa Z h0 ob0 "com/example/needlewise/needlewise/Carry") (G1 : Fld Z h0 ob0 "com/example/needlewise/needlewise/Carry" "pattern" "[B" (.ref ob1)) (G2 : Fld Z h0 ob0 "com/example/needlewise/needlewise/Carry" "held" "[B" (.ref ob1)) (G3 : Fld Z h0 ob0 "com/example/needlewise/needlewise/Carry" "offset" "I" (.int (3 : Int32))) (G4 : Fld Z h0 ob0 "com/example/needlewise/needlewise/Carry" "count" "I" (.int (2 : Int32))) (G5 : own_Ar Z h0 ob1 .byte [(.int q0), (.int q1), (.int q2), (.int q3), (.int q4)]) :
    own_Met l Z (⟨"com/example/needlewise/needlewise/Carry", "count", "()I"⟩ : MethodName) prog_8_method_2_code 1 (some .int) ({ frames := 0, cells := 0, slots := 0, locals := 0 } : Room) #[(.ref ob0)] h0 n0 (fun v' h' => v' = some (.int (2 : Int32)) ∧ h' = h0) := by
  refine own_body (plainFor_of_name pn_7) (fun m => ef_ra6_14 m ob0) Z0 ?_
  intro p e s m below meth c T0 cx X0
  have KK := Keep.refl h0 []
  show own_Go p e below _ (T0.setTop (mkF m 0 #[.val (.ref ob0)] []))
  refine o_aloadN cx X0 d6_0 rfl rfl ?_
  refine o_getF cx X0 d6_1 (o_w hw 24 rfl) G4 fun T491 X492 => ?_
  exact o_retI cx X492 d6_4 ⟨rfl, rfl⟩ (by decide) (by decide)
theorem ef_ra8_15 (m : MethodId) (ob0 : Addr) : entryFrame m #[(.ref ob0), (.int (0 : Int32))] 2 = mkF m 0 #[.val (.ref ob0), .val (.int (0 : Int32))] [] := by first | (simp [entryFrame, mkF, argsToLocals, Value.category]; done) | rfl
set_option maxRecDepth 65536 in
set_option maxHeartbeats 40000000 in
theorem ra8_15 (l : Launch) (Z : State) (a0 : Array Value) (hw : ∀ d ∈ tables_1, d.before a0 Z = true) (ob0 : Addr) (ob1 : Addr) (q0 : Int32) (q1 : Int32) (q2 : Int32) (q3 : Int32) (q4 : Int32) (h0 : Heap) (n0 : Nat) (Z0 : n0 ≤ h0.size) (ga0 : n0 ≤ ob0) (ga1 : n0 ≤ ob1) (ne_0_1 : ob0 ≠ ob1) (G0 : Exa Z h0 ob0 "com/example/needlewise/needlewise/Carry") (G1 : Fld Z h0 ob0 "com/example/needlewise/needlewise/Carry" "pattern" "[B" (.ref ob1)) (G2 : Fld Z h0 ob0 "com/example/needlewise/needlewise/Carry" "held" "[B" (.ref ob1)) (G3 : Fld Z h0 ob0 "com/example/needlewise/needlewise/Carry" "offset" "I" (.int (3 : Int32))) (G4 : Fld Z h0 ob0 "com/example/needlewise/needlewise/Carry" "count" "I" (.int (2 : Int32))) (G5 : own_Ar Z h0 ob1 .byte [(.int q0), (.int q1), (.int q2), (.int q3), (.int q4)]) :
    own_Met l Z (⟨"com/example/needlewise/needlewise/Carry", "get", "(I)B"⟩ : MethodName) prog_8_method_5_code 2 (some .byte) ({ frames := 0, cells := 0, slots := 0, locals := 0 } : Room) #[(.ref ob0), (.int (0 : Int32))] h0 n0 (fun v' h' => v' = some (.int (nar .byte q3)) ∧ h' = h0) := by
  refine own_body (plainFor_of_name pn_7) (fun m => ef_ra8_15 m ob0) Z0 ?_
  intro p e s m below meth c T0 cx X0
  have KK := Keep.refl h0 []
  show own_Go p e below _ (T0.setTop (mkF m 0 #[.val (.ref ob0), .val (.int (0 : Int32))] []))
  refine o_aloadN cx X0 d8_0 rfl rfl ?_
  refine o_getF cx X0 d8_1 (o_w hw 20 rfl) G2 fun T502 X503 => ?_
  refine o_aloadN cx X503 d8_4 rfl rfl ?_
  refine o_getF cx X503 d8_5 (o_w hw 22 rfl) G3 fun T504 X505 => ?_
  refine o_iloadN cx X505 d8_8 rfl ?_
  refine o_iadd cx X505 (z := (3 : Int32)) d8_9 rfl ?_
  refine o_ldB cx X505 (v := (.int q3)) d8_10 G5 3 (by decide) rfl rfl ?_
  exact o_retN cx X505 (z' := (nar .byte q3)) d8_11 (by simp) rfl ⟨rfl, rfl⟩ (by decide) (by decide)
theorem ef_ra8_16 (m : MethodId) (ob0 : Addr) : entryFrame m #[(.ref ob0), (.int (1 : Int32))] 2 = mkF m 0 #[.val (.ref ob0), .val (.int (1 : Int32))] [] := by first | (simp [entryFrame, mkF, argsToLocals, Value.category]; done) | rfl
set_option maxRecDepth 65536 in
set_option maxHeartbeats 40000000 in
theorem ra8_16 (l : Launch) (Z : State) (a0 : Array Value) (hw : ∀ d ∈ tables_1, d.before a0 Z = true) (ob0 : Addr) (ob1 : Addr) (q0 : Int32) (q1 : Int32) (q2 : Int32) (q3 : Int32) (q4 : Int32) (h0 : Heap) (n0 : Nat) (Z0 : n0 ≤ h0.size) (ga0 : n0 ≤ ob0) (ga1 : n0 ≤ ob1) (ne_0_1 : ob0 ≠ ob1) (G0 : Exa Z h0 ob0 "com/example/needlewise/needlewise/Carry") (G1 : Fld Z h0 ob0 "com/example/needlewise/needlewise/Carry" "pattern" "[B" (.ref ob1)) (G2 : Fld Z h0 ob0 "com/example/needlewise/needlewise/Carry" "held" "[B" (.ref ob1)) (G3 : Fld Z h0 ob0 "com/example/needlewise/needlewise/Carry" "offset" "I" (.int (3 : Int32))) (G4 : Fld Z h0 ob0 "com/example/needlewise/needlewise/Carry" "count" "I" (.int (2 : Int32))) (G5 : own_Ar Z h0 ob1 .byte [(.int q0), (.int q1), (.int q2), (.int q3), (.int q4)]) :
    own_Met l Z (⟨"com/example/needlewise/needlewise/Carry", "get", "(I)B"⟩ : MethodName) prog_8_method_5_code 2 (some .byte) ({ frames := 0, cells := 0, slots := 0, locals := 0 } : Room) #[(.ref ob0), (.int (1 : Int32))] h0 n0 (fun v' h' => v' = some (.int (nar .byte q4)) ∧ h' = h0) := by
  refine own_body (plainFor_of_name pn_7) (fun m => ef_ra8_16 m ob0) Z0 ?_
  intro p e s m below meth c T0 cx X0
  have KK := Keep.refl h0 []
  show own_Go p e below _ (T0.setTop (mkF m 0 #[.val (.ref ob0), .val (.int (1 : Int32))] []))
  refine o_aloadN cx X0 d8_0 rfl rfl ?_
  refine o_getF cx X0 d8_1 (o_w hw 20 rfl) G2 fun T515 X516 => ?_
  refine o_aloadN cx X516 d8_4 rfl rfl ?_
  refine o_getF cx X516 d8_5 (o_w hw 22 rfl) G3 fun T517 X518 => ?_
  refine o_iloadN cx X518 d8_8 rfl ?_
  refine o_iadd cx X518 (z := (4 : Int32)) d8_9 rfl ?_
  refine o_ldB cx X518 (v := (.int q4)) d8_10 G5 4 (by decide) rfl rfl ?_
  exact o_retN cx X518 (z' := (nar .byte q4)) d8_11 (by simp) rfl ⟨rfl, rfl⟩ (by decide) (by decide)
theorem ef_ra3_17 (m : MethodId) (ob0 : Addr) : entryFrame m #[(.ref ob0), (.int (2 : Int32))] 2 = mkF m 0 #[.val (.ref ob0), .val (.int (2 : Int32))] [] := by first | (simp [entryFrame, mkF, argsToLocals, Value.category]; done) | rfl
set_option maxRecDepth 65536 in
set_option maxHeartbeats 40000000 in
theorem ra3_17 (l : Launch) (Z : State) (a0 : Array Value) (hw : ∀ d ∈ tables_1, d.before a0 Z = true) (ob0 : Addr) (ob1 : Addr) (q0 : Value) (q1 : Value) (q2 : Value) (q3 : Int32) (q4 : Int32) (q5 : Int32) (q6 : Int32) (q7 : Int32) (h0 : Heap) (n0 : Nat) (Z0 : n0 ≤ h0.size) (ga0 : n0 ≤ ob0) (ga1 : n0 ≤ ob1) (ne_0_1 : ob0 ≠ ob1) (G0 : Exa Z h0 ob0 "com/example/needlewise/needlewise/Carry") (G1 : Fld Z h0 ob0 "com/example/needlewise/needlewise/Carry" "pattern" "[B" (.ref ob1)) (G2 : Fld Z h0 ob0 "com/example/needlewise/needlewise/Carry" "held" "[B" q0) (G3 : Fld Z h0 ob0 "com/example/needlewise/needlewise/Carry" "offset" "I" q1) (G4 : Fld Z h0 ob0 "com/example/needlewise/needlewise/Carry" "count" "I" q2) (G5 : own_Ar Z h0 ob1 .byte [(.int q3), (.int q4), (.int q5), (.int q6), (.int q7)]) :
    own_Met l Z (⟨"com/example/needlewise/needlewise/Carry", "keepPattern", "(I)V"⟩ : MethodName) prog_8_method_8_code 2 none ({ frames := 0, cells := 0, slots := 0, locals := 0 } : Room) #[(.ref ob0), (.int (2 : Int32))] h0 n0 (fun v' h' => v' = none ∧ Keep h0 h' [ob0] ∧ Exa Z h' ob0 "com/example/needlewise/needlewise/Carry" ∧ Fld Z h' ob0 "com/example/needlewise/needlewise/Carry" "pattern" "[B" (.ref ob1) ∧ Fld Z h' ob0 "com/example/needlewise/needlewise/Carry" "held" "[B" (.ref ob1) ∧ Fld Z h' ob0 "com/example/needlewise/needlewise/Carry" "offset" "I" (.int (2 : Int32)) ∧ Fld Z h' ob0 "com/example/needlewise/needlewise/Carry" "count" "I" (.int (3 : Int32))) := by
  refine own_body (plainFor_of_name pn_7) (fun m => ef_ra3_17 m ob0) Z0 ?_
  intro p e s m below meth c T0 cx X0
  have KK := Keep.refl h0 [ob0]
  show own_Go p e below _ (T0.setTop (mkF m 0 #[.val (.ref ob0), .val (.int (2 : Int32))] []))
  refine o_aloadN cx X0 d3_0 rfl rfl ?_
  refine o_aloadN cx X0 d3_1 rfl rfl ?_
  refine o_getF cx X0 d3_2 (o_w hw 11 rfl) G1 fun T604 X605 => ?_
  refine o_putF cx X605 (v' := (.ref ob1)) (ty := (.array .byte)) d3_5 (o_w hw 20 rfl) G2 G0 (Or.inl (o_w hw 21 rfl)) (o_w hw 3 rfl) (by decide) rfl rfl ga0 fun T606 h608 X607 W609 => ?_
  have G0 := G0.wr W609
  have G1 := G1.other W609 (Or.inr (slot_ne (Or.inr (o_w hw 12 rfl)) (Or.inl (o_w hw 21 rfl)) (by decide) (t := (.array .byte)) (t' := (.array .byte)) (by decide) (by decide)))
  have G2 := G2.same W609
  have G3 := G3.other W609 (Or.inr (slot_ne (Or.inl (o_w hw 23 rfl)) (Or.inl (o_w hw 21 rfl)) (by decide) (t := .int) (t' := (.array .byte)) (by decide) (by decide)))
  have G4 := G4.other W609 (Or.inr (slot_ne (Or.inl (o_w hw 25 rfl)) (Or.inl (o_w hw 21 rfl)) (by decide) (t := .int) (t' := (.array .byte)) (by decide) (by decide)))
  have G5 := G5.other W609 (Ne.symm ne_0_1)
  have KK := KK.wr W609 (Or.inl (List.mem_of_getElem? (i := 0) rfl))
  refine o_aloadN cx X607 d3_8 rfl rfl ?_
  refine o_iloadN cx X607 d3_9 rfl ?_
  refine o_putF cx X607 (v' := (.int (2 : Int32))) (ty := .int) d3_10 (o_w hw 22 rfl) G3 G0 (Or.inl (o_w hw 23 rfl)) (o_w hw 3 rfl) (by decide) rfl rfl ga0 fun T610 h612 X611 W613 => ?_
  have G0 := G0.wr W613
  have G1 := G1.other W613 (Or.inr (slot_ne (Or.inr (o_w hw 12 rfl)) (Or.inl (o_w hw 23 rfl)) (by decide) (t := (.array .byte)) (t' := .int) (by decide) (by decide)))
  have G2 := G2.other W613 (Or.inr (slot_ne (Or.inl (o_w hw 21 rfl)) (Or.inl (o_w hw 23 rfl)) (by decide) (t := (.array .byte)) (t' := .int) (by decide) (by decide)))
  have G3 := G3.same W613
  have G4 := G4.other W613 (Or.inr (slot_ne (Or.inl (o_w hw 25 rfl)) (Or.inl (o_w hw 23 rfl)) (by decide) (t := .int) (t' := .int) (by decide) (by decide)))
  have G5 := G5.other W613 (Ne.symm ne_0_1)
  have KK := KK.wr W613 (Or.inl (List.mem_of_getElem? (i := 0) rfl))
  refine o_aloadN cx X611 d3_13 rfl rfl ?_
  refine o_aloadN cx X611 d3_14 rfl rfl ?_
  refine o_getF cx X611 d3_15 (o_w hw 11 rfl) G1 fun T614 X615 => ?_
  refine o_len cx X615 (z := (5 : Int32)) d3_18 G5 rfl ?_
  refine o_iloadN cx X615 d3_19 rfl ?_
  refine o_isub cx X615 (z := (3 : Int32)) d3_20 rfl ?_
  refine o_putF cx X615 (v' := (.int (3 : Int32))) (ty := .int) d3_21 (o_w hw 24 rfl) G4 G0 (Or.inl (o_w hw 25 rfl)) (o_w hw 3 rfl) (by decide) rfl rfl ga0 fun T616 h618 X617 W619 => ?_
  have G0 := G0.wr W619
  have G1 := G1.other W619 (Or.inr (slot_ne (Or.inr (o_w hw 12 rfl)) (Or.inl (o_w hw 25 rfl)) (by decide) (t := (.array .byte)) (t' := .int) (by decide) (by decide)))
  have G2 := G2.other W619 (Or.inr (slot_ne (Or.inl (o_w hw 21 rfl)) (Or.inl (o_w hw 25 rfl)) (by decide) (t := (.array .byte)) (t' := .int) (by decide) (by decide)))
  have G3 := G3.other W619 (Or.inr (slot_ne (Or.inl (o_w hw 23 rfl)) (Or.inl (o_w hw 25 rfl)) (by decide) (t := .int) (t' := .int) (by decide) (by decide)))
  have G4 := G4.same W619
  have G5 := G5.other W619 (Ne.symm ne_0_1)
  have KK := KK.wr W619 (Or.inl (List.mem_of_getElem? (i := 0) rfl))
  exact o_retV cx X617 d3_24 ⟨rfl, KK, G0, G1, G2, G3, G4⟩ (by decide) (by decide)
theorem ef_ra4_18 (m : MethodId) (ob0 : Addr) : entryFrame m #[(.ref ob0)] 1 = mkF m 0 #[.val (.ref ob0)] [] := by first | (simp [entryFrame, mkF, argsToLocals, Value.category]; done) | rfl
set_option maxRecDepth 65536 in
set_option maxHeartbeats 40000000 in
theorem ra4_18 (l : Launch) (Z : State) (a0 : Array Value) (hw : ∀ d ∈ tables_1, d.before a0 Z = true) (ob0 : Addr) (ob1 : Addr) (q0 : Int32) (q1 : Int32) (q2 : Int32) (q3 : Int32) (q4 : Int32) (h0 : Heap) (n0 : Nat) (Z0 : n0 ≤ h0.size) (ga0 : n0 ≤ ob0) (ga1 : n0 ≤ ob1) (ne_0_1 : ob0 ≠ ob1) (G0 : Exa Z h0 ob0 "com/example/needlewise/needlewise/Carry") (G1 : Fld Z h0 ob0 "com/example/needlewise/needlewise/Carry" "pattern" "[B" (.ref ob1)) (G2 : Fld Z h0 ob0 "com/example/needlewise/needlewise/Carry" "held" "[B" (.ref ob1)) (G3 : Fld Z h0 ob0 "com/example/needlewise/needlewise/Carry" "offset" "I" (.int (2 : Int32))) (G4 : Fld Z h0 ob0 "com/example/needlewise/needlewise/Carry" "count" "I" (.int (3 : Int32))) (G5 : own_Ar Z h0 ob1 .byte [(.int q0), (.int q1), (.int q2), (.int q3), (.int q4)]) :
    own_Met l Z (⟨"com/example/needlewise/needlewise/Carry", "array", "()[B"⟩ : MethodName) prog_8_method_3_code 1 (some (.array .byte)) ({ frames := 0, cells := 0, slots := 0, locals := 0 } : Room) #[(.ref ob0)] h0 n0 (fun v' h' => v' = some (.ref ob1) ∧ h' = h0) := by
  refine own_body (plainFor_of_name pn_7) (fun m => ef_ra4_18 m ob0) Z0 ?_
  intro p e s m below meth c T0 cx X0
  have KK := Keep.refl h0 []
  show own_Go p e below _ (T0.setTop (mkF m 0 #[.val (.ref ob0)] []))
  refine o_aloadN cx X0 d4_0 rfl rfl ?_
  refine o_getF cx X0 d4_1 (o_w hw 20 rfl) G2 fun T633 X634 => ?_
  exact o_retA cx X634 d4_4 rfl rfl rfl ⟨rfl, rfl⟩ (by decide) (by decide)
theorem ef_ra5_19 (m : MethodId) (ob0 : Addr) : entryFrame m #[(.ref ob0)] 1 = mkF m 0 #[.val (.ref ob0)] [] := by first | (simp [entryFrame, mkF, argsToLocals, Value.category]; done) | rfl
set_option maxRecDepth 65536 in
set_option maxHeartbeats 40000000 in
theorem ra5_19 (l : Launch) (Z : State) (a0 : Array Value) (hw : ∀ d ∈ tables_1, d.before a0 Z = true) (ob0 : Addr) (ob1 : Addr) (q0 : Int32) (q1 : Int32) (q2 : Int32) (q3 : Int32) (q4 : Int32) (h0 : Heap) (n0 : Nat) (Z0 : n0 ≤ h0.size) (ga0 : n0 ≤ ob0) (ga1 : n0 ≤ ob1) (ne_0_1 : ob0 ≠ ob1) (G0 : Exa Z h0 ob0 "com/example/needlewise/needlewise/Carry") (G1 : Fld Z h0 ob0 "com/example/needlewise/needlewise/Carry" "pattern" "[B" (.ref ob1)) (G2 : Fld Z h0 ob0 "com/example/needlewise/needlewise/Carry" "held" "[B" (.ref ob1)) (G3 : Fld Z h0 ob0 "com/example/needlewise/needlewise/Carry" "offset" "I" (.int (2 : Int32))) (G4 : Fld Z h0 ob0 "com/example/needlewise/needlewise/Carry" "count" "I" (.int (3 : Int32))) (G5 : own_Ar Z h0 ob1 .byte [(.int q0), (.int q1), (.int q2), (.int q3), (.int q4)]) :
    own_Met l Z (⟨"com/example/needlewise/needlewise/Carry", "offset", "()I"⟩ : MethodName) prog_8_method_4_code 1 (some .int) ({ frames := 0, cells := 0, slots := 0, locals := 0 } : Room) #[(.ref ob0)] h0 n0 (fun v' h' => v' = some (.int (2 : Int32)) ∧ h' = h0) := by
  refine own_body (plainFor_of_name pn_7) (fun m => ef_ra5_19 m ob0) Z0 ?_
  intro p e s m below meth c T0 cx X0
  have KK := Keep.refl h0 []
  show own_Go p e below _ (T0.setTop (mkF m 0 #[.val (.ref ob0)] []))
  refine o_aloadN cx X0 d5_0 rfl rfl ?_
  refine o_getF cx X0 d5_1 (o_w hw 22 rfl) G3 fun T642 X643 => ?_
  exact o_retI cx X643 d5_4 ⟨rfl, rfl⟩ (by decide) (by decide)
theorem ef_ra6_20 (m : MethodId) (ob0 : Addr) : entryFrame m #[(.ref ob0)] 1 = mkF m 0 #[.val (.ref ob0)] [] := by first | (simp [entryFrame, mkF, argsToLocals, Value.category]; done) | rfl
set_option maxRecDepth 65536 in
set_option maxHeartbeats 40000000 in
theorem ra6_20 (l : Launch) (Z : State) (a0 : Array Value) (hw : ∀ d ∈ tables_1, d.before a0 Z = true) (ob0 : Addr) (ob1 : Addr) (q0 : Int32) (q1 : Int32) (q2 : Int32) (q3 : Int32) (q4 : Int32) (h0 : Heap) (n0 : Nat) (Z0 : n0 ≤ h0.size) (ga0 : n0 ≤ ob0) (ga1 : n0 ≤ ob1) (ne_0_1 : ob0 ≠ ob1) (G0 : Exa Z h0 ob0 "com/example/needlewise/needlewise/Carry") (G1 : Fld Z h0 ob0 "com/example/needlewise/needlewise/Carry" "pattern" "[B" (.ref ob1)) (G2 : Fld Z h0 ob0 "com/example/needlewise/needlewise/Carry" "held" "[B" (.ref ob1)) (G3 : Fld Z h0 ob0 "com/example/needlewise/needlewise/Carry" "offset" "I" (.int (2 : Int32))) (G4 : Fld Z h0 ob0 "com/example/needlewise/needlewise/Carry" "count" "I" (.int (3 : Int32))) (G5 : own_Ar Z h0 ob1 .byte [(.int q0), (.int q1), (.int q2), (.int q3), (.int q4)]) :
    own_Met l Z (⟨"com/example/needlewise/needlewise/Carry", "count", "()I"⟩ : MethodName) prog_8_method_2_code 1 (some .int) ({ frames := 0, cells := 0, slots := 0, locals := 0 } : Room) #[(.ref ob0)] h0 n0 (fun v' h' => v' = some (.int (3 : Int32)) ∧ h' = h0) := by
  refine own_body (plainFor_of_name pn_7) (fun m => ef_ra6_20 m ob0) Z0 ?_
  intro p e s m below meth c T0 cx X0
  have KK := Keep.refl h0 []
  show own_Go p e below _ (T0.setTop (mkF m 0 #[.val (.ref ob0)] []))
  refine o_aloadN cx X0 d6_0 rfl rfl ?_
  refine o_getF cx X0 d6_1 (o_w hw 24 rfl) G4 fun T651 X652 => ?_
  exact o_retI cx X652 d6_4 ⟨rfl, rfl⟩ (by decide) (by decide)
theorem ef_ra8_21 (m : MethodId) (ob0 : Addr) : entryFrame m #[(.ref ob0), (.int (0 : Int32))] 2 = mkF m 0 #[.val (.ref ob0), .val (.int (0 : Int32))] [] := by first | (simp [entryFrame, mkF, argsToLocals, Value.category]; done) | rfl
set_option maxRecDepth 65536 in
set_option maxHeartbeats 40000000 in
theorem ra8_21 (l : Launch) (Z : State) (a0 : Array Value) (hw : ∀ d ∈ tables_1, d.before a0 Z = true) (ob0 : Addr) (ob1 : Addr) (q0 : Int32) (q1 : Int32) (q2 : Int32) (q3 : Int32) (q4 : Int32) (h0 : Heap) (n0 : Nat) (Z0 : n0 ≤ h0.size) (ga0 : n0 ≤ ob0) (ga1 : n0 ≤ ob1) (ne_0_1 : ob0 ≠ ob1) (G0 : Exa Z h0 ob0 "com/example/needlewise/needlewise/Carry") (G1 : Fld Z h0 ob0 "com/example/needlewise/needlewise/Carry" "pattern" "[B" (.ref ob1)) (G2 : Fld Z h0 ob0 "com/example/needlewise/needlewise/Carry" "held" "[B" (.ref ob1)) (G3 : Fld Z h0 ob0 "com/example/needlewise/needlewise/Carry" "offset" "I" (.int (2 : Int32))) (G4 : Fld Z h0 ob0 "com/example/needlewise/needlewise/Carry" "count" "I" (.int (3 : Int32))) (G5 : own_Ar Z h0 ob1 .byte [(.int q0), (.int q1), (.int q2), (.int q3), (.int q4)]) :
    own_Met l Z (⟨"com/example/needlewise/needlewise/Carry", "get", "(I)B"⟩ : MethodName) prog_8_method_5_code 2 (some .byte) ({ frames := 0, cells := 0, slots := 0, locals := 0 } : Room) #[(.ref ob0), (.int (0 : Int32))] h0 n0 (fun v' h' => v' = some (.int (nar .byte q2)) ∧ h' = h0) := by
  refine own_body (plainFor_of_name pn_7) (fun m => ef_ra8_21 m ob0) Z0 ?_
  intro p e s m below meth c T0 cx X0
  have KK := Keep.refl h0 []
  show own_Go p e below _ (T0.setTop (mkF m 0 #[.val (.ref ob0), .val (.int (0 : Int32))] []))
  refine o_aloadN cx X0 d8_0 rfl rfl ?_
  refine o_getF cx X0 d8_1 (o_w hw 20 rfl) G2 fun T662 X663 => ?_
  refine o_aloadN cx X663 d8_4 rfl rfl ?_
  refine o_getF cx X663 d8_5 (o_w hw 22 rfl) G3 fun T664 X665 => ?_
  refine o_iloadN cx X665 d8_8 rfl ?_
  refine o_iadd cx X665 (z := (2 : Int32)) d8_9 rfl ?_
  refine o_ldB cx X665 (v := (.int q2)) d8_10 G5 2 (by decide) rfl rfl ?_
  exact o_retN cx X665 (z' := (nar .byte q2)) d8_11 (by simp) rfl ⟨rfl, rfl⟩ (by decide) (by decide)
theorem ef_ra8_22 (m : MethodId) (ob0 : Addr) : entryFrame m #[(.ref ob0), (.int (2 : Int32))] 2 = mkF m 0 #[.val (.ref ob0), .val (.int (2 : Int32))] [] := by first | (simp [entryFrame, mkF, argsToLocals, Value.category]; done) | rfl
set_option maxRecDepth 65536 in
set_option maxHeartbeats 40000000 in
theorem ra8_22 (l : Launch) (Z : State) (a0 : Array Value) (hw : ∀ d ∈ tables_1, d.before a0 Z = true) (ob0 : Addr) (ob1 : Addr) (q0 : Int32) (q1 : Int32) (q2 : Int32) (q3 : Int32) (q4 : Int32) (h0 : Heap) (n0 : Nat) (Z0 : n0 ≤ h0.size) (ga0 : n0 ≤ ob0) (ga1 : n0 ≤ ob1) (ne_0_1 : ob0 ≠ ob1) (G0 : Exa Z h0 ob0 "com/example/needlewise/needlewise/Carry") (G1 : Fld Z h0 ob0 "com/example/needlewise/needlewise/Carry" "pattern" "[B" (.ref ob1)) (G2 : Fld Z h0 ob0 "com/example/needlewise/needlewise/Carry" "held" "[B" (.ref ob1)) (G3 : Fld Z h0 ob0 "com/example/needlewise/needlewise/Carry" "offset" "I" (.int (2 : Int32))) (G4 : Fld Z h0 ob0 "com/example/needlewise/needlewise/Carry" "count" "I" (.int (3 : Int32))) (G5 : own_Ar Z h0 ob1 .byte [(.int q0), (.int q1), (.int q2), (.int q3), (.int q4)]) :
    own_Met l Z (⟨"com/example/needlewise/needlewise/Carry", "get", "(I)B"⟩ : MethodName) prog_8_method_5_code 2 (some .byte) ({ frames := 0, cells := 0, slots := 0, locals := 0 } : Room) #[(.ref ob0), (.int (2 : Int32))] h0 n0 (fun v' h' => v' = some (.int (nar .byte q4)) ∧ h' = h0) := by
  refine own_body (plainFor_of_name pn_7) (fun m => ef_ra8_22 m ob0) Z0 ?_
  intro p e s m below meth c T0 cx X0
  have KK := Keep.refl h0 []
  show own_Go p e below _ (T0.setTop (mkF m 0 #[.val (.ref ob0), .val (.int (2 : Int32))] []))
  refine o_aloadN cx X0 d8_0 rfl rfl ?_
  refine o_getF cx X0 d8_1 (o_w hw 20 rfl) G2 fun T675 X676 => ?_
  refine o_aloadN cx X676 d8_4 rfl rfl ?_
  refine o_getF cx X676 d8_5 (o_w hw 22 rfl) G3 fun T677 X678 => ?_
  refine o_iloadN cx X678 d8_8 rfl ?_
  refine o_iadd cx X678 (z := (4 : Int32)) d8_9 rfl ?_
  refine o_ldB cx X678 (v := (.int q4)) d8_10 G5 4 (by decide) rfl rfl ?_
  exact o_retN cx X678 (z' := (nar .byte q4)) d8_11 (by simp) rfl ⟨rfl, rfl⟩ (by decide) (by decide)
theorem ef_ra3_23 (m : MethodId) (ob0 : Addr) : entryFrame m #[(.ref ob0), (.int (1 : Int32))] 2 = mkF m 0 #[.val (.ref ob0), .val (.int (1 : Int32))] [] := by first | (simp [entryFrame, mkF, argsToLocals, Value.category]; done) | rfl
set_option maxRecDepth 65536 in
set_option maxHeartbeats 40000000 in
theorem ra3_23 (l : Launch) (Z : State) (a0 : Array Value) (hw : ∀ d ∈ tables_1, d.before a0 Z = true) (ob0 : Addr) (ob1 : Addr) (q0 : Value) (q1 : Value) (q2 : Value) (q3 : Int32) (q4 : Int32) (q5 : Int32) (q6 : Int32) (q7 : Int32) (h0 : Heap) (n0 : Nat) (Z0 : n0 ≤ h0.size) (ga0 : n0 ≤ ob0) (ga1 : n0 ≤ ob1) (ne_0_1 : ob0 ≠ ob1) (G0 : Exa Z h0 ob0 "com/example/needlewise/needlewise/Carry") (G1 : Fld Z h0 ob0 "com/example/needlewise/needlewise/Carry" "pattern" "[B" (.ref ob1)) (G2 : Fld Z h0 ob0 "com/example/needlewise/needlewise/Carry" "held" "[B" q0) (G3 : Fld Z h0 ob0 "com/example/needlewise/needlewise/Carry" "offset" "I" q1) (G4 : Fld Z h0 ob0 "com/example/needlewise/needlewise/Carry" "count" "I" q2) (G5 : own_Ar Z h0 ob1 .byte [(.int q3), (.int q4), (.int q5), (.int q6), (.int q7)]) :
    own_Met l Z (⟨"com/example/needlewise/needlewise/Carry", "keepPattern", "(I)V"⟩ : MethodName) prog_8_method_8_code 2 none ({ frames := 0, cells := 0, slots := 0, locals := 0 } : Room) #[(.ref ob0), (.int (1 : Int32))] h0 n0 (fun v' h' => v' = none ∧ Keep h0 h' [ob0] ∧ Exa Z h' ob0 "com/example/needlewise/needlewise/Carry" ∧ Fld Z h' ob0 "com/example/needlewise/needlewise/Carry" "pattern" "[B" (.ref ob1) ∧ Fld Z h' ob0 "com/example/needlewise/needlewise/Carry" "held" "[B" (.ref ob1) ∧ Fld Z h' ob0 "com/example/needlewise/needlewise/Carry" "offset" "I" (.int (1 : Int32)) ∧ Fld Z h' ob0 "com/example/needlewise/needlewise/Carry" "count" "I" (.int (4 : Int32))) := by
  refine own_body (plainFor_of_name pn_7) (fun m => ef_ra3_23 m ob0) Z0 ?_
  intro p e s m below meth c T0 cx X0
  have KK := Keep.refl h0 [ob0]
  show own_Go p e below _ (T0.setTop (mkF m 0 #[.val (.ref ob0), .val (.int (1 : Int32))] []))
  refine o_aloadN cx X0 d3_0 rfl rfl ?_
  refine o_aloadN cx X0 d3_1 rfl rfl ?_
  refine o_getF cx X0 d3_2 (o_w hw 11 rfl) G1 fun T764 X765 => ?_
  refine o_putF cx X765 (v' := (.ref ob1)) (ty := (.array .byte)) d3_5 (o_w hw 20 rfl) G2 G0 (Or.inl (o_w hw 21 rfl)) (o_w hw 3 rfl) (by decide) rfl rfl ga0 fun T766 h768 X767 W769 => ?_
  have G0 := G0.wr W769
  have G1 := G1.other W769 (Or.inr (slot_ne (Or.inr (o_w hw 12 rfl)) (Or.inl (o_w hw 21 rfl)) (by decide) (t := (.array .byte)) (t' := (.array .byte)) (by decide) (by decide)))
  have G2 := G2.same W769
  have G3 := G3.other W769 (Or.inr (slot_ne (Or.inl (o_w hw 23 rfl)) (Or.inl (o_w hw 21 rfl)) (by decide) (t := .int) (t' := (.array .byte)) (by decide) (by decide)))
  have G4 := G4.other W769 (Or.inr (slot_ne (Or.inl (o_w hw 25 rfl)) (Or.inl (o_w hw 21 rfl)) (by decide) (t := .int) (t' := (.array .byte)) (by decide) (by decide)))
  have G5 := G5.other W769 (Ne.symm ne_0_1)
  have KK := KK.wr W769 (Or.inl (List.mem_of_getElem? (i := 0) rfl))
  refine o_aloadN cx X767 d3_8 rfl rfl ?_
  refine o_iloadN cx X767 d3_9 rfl ?_
  refine o_putF cx X767 (v' := (.int (1 : Int32))) (ty := .int) d3_10 (o_w hw 22 rfl) G3 G0 (Or.inl (o_w hw 23 rfl)) (o_w hw 3 rfl) (by decide) rfl rfl ga0 fun T770 h772 X771 W773 => ?_
  have G0 := G0.wr W773
  have G1 := G1.other W773 (Or.inr (slot_ne (Or.inr (o_w hw 12 rfl)) (Or.inl (o_w hw 23 rfl)) (by decide) (t := (.array .byte)) (t' := .int) (by decide) (by decide)))
  have G2 := G2.other W773 (Or.inr (slot_ne (Or.inl (o_w hw 21 rfl)) (Or.inl (o_w hw 23 rfl)) (by decide) (t := (.array .byte)) (t' := .int) (by decide) (by decide)))
  have G3 := G3.same W773
  have G4 := G4.other W773 (Or.inr (slot_ne (Or.inl (o_w hw 25 rfl)) (Or.inl (o_w hw 23 rfl)) (by decide) (t := .int) (t' := .int) (by decide) (by decide)))
  have G5 := G5.other W773 (Ne.symm ne_0_1)
  have KK := KK.wr W773 (Or.inl (List.mem_of_getElem? (i := 0) rfl))
  refine o_aloadN cx X771 d3_13 rfl rfl ?_
  refine o_aloadN cx X771 d3_14 rfl rfl ?_
  refine o_getF cx X771 d3_15 (o_w hw 11 rfl) G1 fun T774 X775 => ?_
  refine o_len cx X775 (z := (5 : Int32)) d3_18 G5 rfl ?_
  refine o_iloadN cx X775 d3_19 rfl ?_
  refine o_isub cx X775 (z := (4 : Int32)) d3_20 rfl ?_
  refine o_putF cx X775 (v' := (.int (4 : Int32))) (ty := .int) d3_21 (o_w hw 24 rfl) G4 G0 (Or.inl (o_w hw 25 rfl)) (o_w hw 3 rfl) (by decide) rfl rfl ga0 fun T776 h778 X777 W779 => ?_
  have G0 := G0.wr W779
  have G1 := G1.other W779 (Or.inr (slot_ne (Or.inr (o_w hw 12 rfl)) (Or.inl (o_w hw 25 rfl)) (by decide) (t := (.array .byte)) (t' := .int) (by decide) (by decide)))
  have G2 := G2.other W779 (Or.inr (slot_ne (Or.inl (o_w hw 21 rfl)) (Or.inl (o_w hw 25 rfl)) (by decide) (t := (.array .byte)) (t' := .int) (by decide) (by decide)))
  have G3 := G3.other W779 (Or.inr (slot_ne (Or.inl (o_w hw 23 rfl)) (Or.inl (o_w hw 25 rfl)) (by decide) (t := .int) (t' := .int) (by decide) (by decide)))
  have G4 := G4.same W779
  have G5 := G5.other W779 (Ne.symm ne_0_1)
  have KK := KK.wr W779 (Or.inl (List.mem_of_getElem? (i := 0) rfl))
  exact o_retV cx X777 d3_24 ⟨rfl, KK, G0, G1, G2, G3, G4⟩ (by decide) (by decide)
theorem ef_ra4_24 (m : MethodId) (ob0 : Addr) : entryFrame m #[(.ref ob0)] 1 = mkF m 0 #[.val (.ref ob0)] [] := by first | (simp [entryFrame, mkF, argsToLocals, Value.category]; done) | rfl
set_option maxRecDepth 65536 in
set_option maxHeartbeats 40000000 in
theorem ra4_24 (l : Launch) (Z : State) (a0 : Array Value) (hw : ∀ d ∈ tables_1, d.before a0 Z = true) (ob0 : Addr) (ob1 : Addr) (q0 : Int32) (q1 : Int32) (q2 : Int32) (q3 : Int32) (q4 : Int32) (h0 : Heap) (n0 : Nat) (Z0 : n0 ≤ h0.size) (ga0 : n0 ≤ ob0) (ga1 : n0 ≤ ob1) (ne_0_1 : ob0 ≠ ob1) (G0 : Exa Z h0 ob0 "com/example/needlewise/needlewise/Carry") (G1 : Fld Z h0 ob0 "com/example/needlewise/needlewise/Carry" "pattern" "[B" (.ref ob1)) (G2 : Fld Z h0 ob0 "com/example/needlewise/needlewise/Carry" "held" "[B" (.ref ob1)) (G3 : Fld Z h0 ob0 "com/example/needlewise/needlewise/Carry" "offset" "I" (.int (1 : Int32))) (G4 : Fld Z h0 ob0 "com/example/needlewise/needlewise/Carry" "count" "I" (.int (4 : Int32))) (G5 : own_Ar Z h0 ob1 .byte [(.int q0), (.int q1), (.int q2), (.int q3), (.int q4)]) :
    own_Met l Z (⟨"com/example/needlewise/needlewise/Carry", "array", "()[B"⟩ : MethodName) prog_8_method_3_code 1 (some (.array .byte)) ({ frames := 0, cells := 0, slots := 0, locals := 0 } : Room) #[(.ref ob0)] h0 n0 (fun v' h' => v' = some (.ref ob1) ∧ h' = h0) := by
  refine own_body (plainFor_of_name pn_7) (fun m => ef_ra4_24 m ob0) Z0 ?_
  intro p e s m below meth c T0 cx X0
  have KK := Keep.refl h0 []
  show own_Go p e below _ (T0.setTop (mkF m 0 #[.val (.ref ob0)] []))
  refine o_aloadN cx X0 d4_0 rfl rfl ?_
  refine o_getF cx X0 d4_1 (o_w hw 20 rfl) G2 fun T793 X794 => ?_
  exact o_retA cx X794 d4_4 rfl rfl rfl ⟨rfl, rfl⟩ (by decide) (by decide)
theorem ef_ra5_25 (m : MethodId) (ob0 : Addr) : entryFrame m #[(.ref ob0)] 1 = mkF m 0 #[.val (.ref ob0)] [] := by first | (simp [entryFrame, mkF, argsToLocals, Value.category]; done) | rfl
set_option maxRecDepth 65536 in
set_option maxHeartbeats 40000000 in
theorem ra5_25 (l : Launch) (Z : State) (a0 : Array Value) (hw : ∀ d ∈ tables_1, d.before a0 Z = true) (ob0 : Addr) (ob1 : Addr) (q0 : Int32) (q1 : Int32) (q2 : Int32) (q3 : Int32) (q4 : Int32) (h0 : Heap) (n0 : Nat) (Z0 : n0 ≤ h0.size) (ga0 : n0 ≤ ob0) (ga1 : n0 ≤ ob1) (ne_0_1 : ob0 ≠ ob1) (G0 : Exa Z h0 ob0 "com/example/needlewise/needlewise/Carry") (G1 : Fld Z h0 ob0 "com/example/needlewise/needlewise/Carry" "pattern" "[B" (.ref ob1)) (G2 : Fld Z h0 ob0 "com/example/needlewise/needlewise/Carry" "held" "[B" (.ref ob1)) (G3 : Fld Z h0 ob0 "com/example/needlewise/needlewise/Carry" "offset" "I" (.int (1 : Int32))) (G4 : Fld Z h0 ob0 "com/example/needlewise/needlewise/Carry" "count" "I" (.int (4 : Int32))) (G5 : own_Ar Z h0 ob1 .byte [(.int q0), (.int q1), (.int q2), (.int q3), (.int q4)]) :
    own_Met l Z (⟨"com/example/needlewise/needlewise/Carry", "offset", "()I"⟩ : MethodName) prog_8_method_4_code 1 (some .int) ({ frames := 0, cells := 0, slots := 0, locals := 0 } : Room) #[(.ref ob0)] h0 n0 (fun v' h' => v' = some (.int (1 : Int32)) ∧ h' = h0) := by
  refine own_body (plainFor_of_name pn_7) (fun m => ef_ra5_25 m ob0) Z0 ?_
  intro p e s m below meth c T0 cx X0
  have KK := Keep.refl h0 []
  show own_Go p e below _ (T0.setTop (mkF m 0 #[.val (.ref ob0)] []))
  refine o_aloadN cx X0 d5_0 rfl rfl ?_
  refine o_getF cx X0 d5_1 (o_w hw 22 rfl) G3 fun T802 X803 => ?_
  exact o_retI cx X803 d5_4 ⟨rfl, rfl⟩ (by decide) (by decide)
theorem ef_ra6_26 (m : MethodId) (ob0 : Addr) : entryFrame m #[(.ref ob0)] 1 = mkF m 0 #[.val (.ref ob0)] [] := by first | (simp [entryFrame, mkF, argsToLocals, Value.category]; done) | rfl
set_option maxRecDepth 65536 in
set_option maxHeartbeats 40000000 in
theorem ra6_26 (l : Launch) (Z : State) (a0 : Array Value) (hw : ∀ d ∈ tables_1, d.before a0 Z = true) (ob0 : Addr) (ob1 : Addr) (q0 : Int32) (q1 : Int32) (q2 : Int32) (q3 : Int32) (q4 : Int32) (h0 : Heap) (n0 : Nat) (Z0 : n0 ≤ h0.size) (ga0 : n0 ≤ ob0) (ga1 : n0 ≤ ob1) (ne_0_1 : ob0 ≠ ob1) (G0 : Exa Z h0 ob0 "com/example/needlewise/needlewise/Carry") (G1 : Fld Z h0 ob0 "com/example/needlewise/needlewise/Carry" "pattern" "[B" (.ref ob1)) (G2 : Fld Z h0 ob0 "com/example/needlewise/needlewise/Carry" "held" "[B" (.ref ob1)) (G3 : Fld Z h0 ob0 "com/example/needlewise/needlewise/Carry" "offset" "I" (.int (1 : Int32))) (G4 : Fld Z h0 ob0 "com/example/needlewise/needlewise/Carry" "count" "I" (.int (4 : Int32))) (G5 : own_Ar Z h0 ob1 .byte [(.int q0), (.int q1), (.int q2), (.int q3), (.int q4)]) :
    own_Met l Z (⟨"com/example/needlewise/needlewise/Carry", "count", "()I"⟩ : MethodName) prog_8_method_2_code 1 (some .int) ({ frames := 0, cells := 0, slots := 0, locals := 0 } : Room) #[(.ref ob0)] h0 n0 (fun v' h' => v' = some (.int (4 : Int32)) ∧ h' = h0) := by
  refine own_body (plainFor_of_name pn_7) (fun m => ef_ra6_26 m ob0) Z0 ?_
  intro p e s m below meth c T0 cx X0
  have KK := Keep.refl h0 []
  show own_Go p e below _ (T0.setTop (mkF m 0 #[.val (.ref ob0)] []))
  refine o_aloadN cx X0 d6_0 rfl rfl ?_
  refine o_getF cx X0 d6_1 (o_w hw 24 rfl) G4 fun T811 X812 => ?_
  exact o_retI cx X812 d6_4 ⟨rfl, rfl⟩ (by decide) (by decide)
theorem ef_ra8_27 (m : MethodId) (ob0 : Addr) : entryFrame m #[(.ref ob0), (.int (0 : Int32))] 2 = mkF m 0 #[.val (.ref ob0), .val (.int (0 : Int32))] [] := by first | (simp [entryFrame, mkF, argsToLocals, Value.category]; done) | rfl
set_option maxRecDepth 65536 in
set_option maxHeartbeats 40000000 in
theorem ra8_27 (l : Launch) (Z : State) (a0 : Array Value) (hw : ∀ d ∈ tables_1, d.before a0 Z = true) (ob0 : Addr) (ob1 : Addr) (q0 : Int32) (q1 : Int32) (q2 : Int32) (q3 : Int32) (q4 : Int32) (h0 : Heap) (n0 : Nat) (Z0 : n0 ≤ h0.size) (ga0 : n0 ≤ ob0) (ga1 : n0 ≤ ob1) (ne_0_1 : ob0 ≠ ob1) (G0 : Exa Z h0 ob0 "com/example/needlewise/needlewise/Carry") (G1 : Fld Z h0 ob0 "com/example/needlewise/needlewise/Carry" "pattern" "[B" (.ref ob1)) (G2 : Fld Z h0 ob0 "com/example/needlewise/needlewise/Carry" "held" "[B" (.ref ob1)) (G3 : Fld Z h0 ob0 "com/example/needlewise/needlewise/Carry" "offset" "I" (.int (1 : Int32))) (G4 : Fld Z h0 ob0 "com/example/needlewise/needlewise/Carry" "count" "I" (.int (4 : Int32))) (G5 : own_Ar Z h0 ob1 .byte [(.int q0), (.int q1), (.int q2), (.int q3), (.int q4)]) :
    own_Met l Z (⟨"com/example/needlewise/needlewise/Carry", "get", "(I)B"⟩ : MethodName) prog_8_method_5_code 2 (some .byte) ({ frames := 0, cells := 0, slots := 0, locals := 0 } : Room) #[(.ref ob0), (.int (0 : Int32))] h0 n0 (fun v' h' => v' = some (.int (nar .byte q1)) ∧ h' = h0) := by
  refine own_body (plainFor_of_name pn_7) (fun m => ef_ra8_27 m ob0) Z0 ?_
  intro p e s m below meth c T0 cx X0
  have KK := Keep.refl h0 []
  show own_Go p e below _ (T0.setTop (mkF m 0 #[.val (.ref ob0), .val (.int (0 : Int32))] []))
  refine o_aloadN cx X0 d8_0 rfl rfl ?_
  refine o_getF cx X0 d8_1 (o_w hw 20 rfl) G2 fun T822 X823 => ?_
  refine o_aloadN cx X823 d8_4 rfl rfl ?_
  refine o_getF cx X823 d8_5 (o_w hw 22 rfl) G3 fun T824 X825 => ?_
  refine o_iloadN cx X825 d8_8 rfl ?_
  refine o_iadd cx X825 (z := (1 : Int32)) d8_9 rfl ?_
  refine o_ldB cx X825 (v := (.int q1)) d8_10 G5 1 (by decide) rfl rfl ?_
  exact o_retN cx X825 (z' := (nar .byte q1)) d8_11 (by simp) rfl ⟨rfl, rfl⟩ (by decide) (by decide)
theorem ef_ra8_28 (m : MethodId) (ob0 : Addr) : entryFrame m #[(.ref ob0), (.int (3 : Int32))] 2 = mkF m 0 #[.val (.ref ob0), .val (.int (3 : Int32))] [] := by first | (simp [entryFrame, mkF, argsToLocals, Value.category]; done) | rfl
set_option maxRecDepth 65536 in
set_option maxHeartbeats 40000000 in
theorem ra8_28 (l : Launch) (Z : State) (a0 : Array Value) (hw : ∀ d ∈ tables_1, d.before a0 Z = true) (ob0 : Addr) (ob1 : Addr) (q0 : Int32) (q1 : Int32) (q2 : Int32) (q3 : Int32) (q4 : Int32) (h0 : Heap) (n0 : Nat) (Z0 : n0 ≤ h0.size) (ga0 : n0 ≤ ob0) (ga1 : n0 ≤ ob1) (ne_0_1 : ob0 ≠ ob1) (G0 : Exa Z h0 ob0 "com/example/needlewise/needlewise/Carry") (G1 : Fld Z h0 ob0 "com/example/needlewise/needlewise/Carry" "pattern" "[B" (.ref ob1)) (G2 : Fld Z h0 ob0 "com/example/needlewise/needlewise/Carry" "held" "[B" (.ref ob1)) (G3 : Fld Z h0 ob0 "com/example/needlewise/needlewise/Carry" "offset" "I" (.int (1 : Int32))) (G4 : Fld Z h0 ob0 "com/example/needlewise/needlewise/Carry" "count" "I" (.int (4 : Int32))) (G5 : own_Ar Z h0 ob1 .byte [(.int q0), (.int q1), (.int q2), (.int q3), (.int q4)]) :
    own_Met l Z (⟨"com/example/needlewise/needlewise/Carry", "get", "(I)B"⟩ : MethodName) prog_8_method_5_code 2 (some .byte) ({ frames := 0, cells := 0, slots := 0, locals := 0 } : Room) #[(.ref ob0), (.int (3 : Int32))] h0 n0 (fun v' h' => v' = some (.int (nar .byte q4)) ∧ h' = h0) := by
  refine own_body (plainFor_of_name pn_7) (fun m => ef_ra8_28 m ob0) Z0 ?_
  intro p e s m below meth c T0 cx X0
  have KK := Keep.refl h0 []
  show own_Go p e below _ (T0.setTop (mkF m 0 #[.val (.ref ob0), .val (.int (3 : Int32))] []))
  refine o_aloadN cx X0 d8_0 rfl rfl ?_
  refine o_getF cx X0 d8_1 (o_w hw 20 rfl) G2 fun T835 X836 => ?_
  refine o_aloadN cx X836 d8_4 rfl rfl ?_
  refine o_getF cx X836 d8_5 (o_w hw 22 rfl) G3 fun T837 X838 => ?_
  refine o_iloadN cx X838 d8_8 rfl ?_
  refine o_iadd cx X838 (z := (4 : Int32)) d8_9 rfl ?_
  refine o_ldB cx X838 (v := (.int q4)) d8_10 G5 4 (by decide) rfl rfl ?_
  exact o_retN cx X838 (z' := (nar .byte q4)) d8_11 (by simp) rfl ⟨rfl, rfl⟩ (by decide) (by decide)
theorem ef_ra3_29 (m : MethodId) (ob0 : Addr) : entryFrame m #[(.ref ob0), (.int (0 : Int32))] 2 = mkF m 0 #[.val (.ref ob0), .val (.int (0 : Int32))] [] := by first | (simp [entryFrame, mkF, argsToLocals, Value.category]; done) | rfl
set_option maxRecDepth 65536 in
set_option maxHeartbeats 40000000 in
theorem ra3_29 (l : Launch) (Z : State) (a0 : Array Value) (hw : ∀ d ∈ tables_1, d.before a0 Z = true) (ob0 : Addr) (ob1 : Addr) (q0 : Value) (q1 : Value) (q2 : Value) (q3 : Int32) (q4 : Int32) (q5 : Int32) (q6 : Int32) (q7 : Int32) (h0 : Heap) (n0 : Nat) (Z0 : n0 ≤ h0.size) (ga0 : n0 ≤ ob0) (ga1 : n0 ≤ ob1) (ne_0_1 : ob0 ≠ ob1) (G0 : Exa Z h0 ob0 "com/example/needlewise/needlewise/Carry") (G1 : Fld Z h0 ob0 "com/example/needlewise/needlewise/Carry" "pattern" "[B" (.ref ob1)) (G2 : Fld Z h0 ob0 "com/example/needlewise/needlewise/Carry" "held" "[B" q0) (G3 : Fld Z h0 ob0 "com/example/needlewise/needlewise/Carry" "offset" "I" q1) (G4 : Fld Z h0 ob0 "com/example/needlewise/needlewise/Carry" "count" "I" q2) (G5 : own_Ar Z h0 ob1 .byte [(.int q3), (.int q4), (.int q5), (.int q6), (.int q7)]) :
    own_Met l Z (⟨"com/example/needlewise/needlewise/Carry", "keepPattern", "(I)V"⟩ : MethodName) prog_8_method_8_code 2 none ({ frames := 0, cells := 0, slots := 0, locals := 0 } : Room) #[(.ref ob0), (.int (0 : Int32))] h0 n0 (fun v' h' => v' = none ∧ Keep h0 h' [ob0] ∧ Exa Z h' ob0 "com/example/needlewise/needlewise/Carry" ∧ Fld Z h' ob0 "com/example/needlewise/needlewise/Carry" "pattern" "[B" (.ref ob1) ∧ Fld Z h' ob0 "com/example/needlewise/needlewise/Carry" "held" "[B" (.ref ob1) ∧ Fld Z h' ob0 "com/example/needlewise/needlewise/Carry" "offset" "I" (.int (0 : Int32)) ∧ Fld Z h' ob0 "com/example/needlewise/needlewise/Carry" "count" "I" (.int (5 : Int32))) := by
  refine own_body (plainFor_of_name pn_7) (fun m => ef_ra3_29 m ob0) Z0 ?_
  intro p e s m below meth c T0 cx X0
  have KK := Keep.refl h0 [ob0]
  show own_Go p e below _ (T0.setTop (mkF m 0 #[.val (.ref ob0), .val (.int (0 : Int32))] []))
  refine o_aloadN cx X0 d3_0 rfl rfl ?_
  refine o_aloadN cx X0 d3_1 rfl rfl ?_
  refine o_getF cx X0 d3_2 (o_w hw 11 rfl) G1 fun T924 X925 => ?_
  refine o_putF cx X925 (v' := (.ref ob1)) (ty := (.array .byte)) d3_5 (o_w hw 20 rfl) G2 G0 (Or.inl (o_w hw 21 rfl)) (o_w hw 3 rfl) (by decide) rfl rfl ga0 fun T926 h928 X927 W929 => ?_
  have G0 := G0.wr W929
  have G1 := G1.other W929 (Or.inr (slot_ne (Or.inr (o_w hw 12 rfl)) (Or.inl (o_w hw 21 rfl)) (by decide) (t := (.array .byte)) (t' := (.array .byte)) (by decide) (by decide)))
  have G2 := G2.same W929
  have G3 := G3.other W929 (Or.inr (slot_ne (Or.inl (o_w hw 23 rfl)) (Or.inl (o_w hw 21 rfl)) (by decide) (t := .int) (t' := (.array .byte)) (by decide) (by decide)))
  have G4 := G4.other W929 (Or.inr (slot_ne (Or.inl (o_w hw 25 rfl)) (Or.inl (o_w hw 21 rfl)) (by decide) (t := .int) (t' := (.array .byte)) (by decide) (by decide)))
  have G5 := G5.other W929 (Ne.symm ne_0_1)
  have KK := KK.wr W929 (Or.inl (List.mem_of_getElem? (i := 0) rfl))
  refine o_aloadN cx X927 d3_8 rfl rfl ?_
  refine o_iloadN cx X927 d3_9 rfl ?_
  refine o_putF cx X927 (v' := (.int (0 : Int32))) (ty := .int) d3_10 (o_w hw 22 rfl) G3 G0 (Or.inl (o_w hw 23 rfl)) (o_w hw 3 rfl) (by decide) rfl rfl ga0 fun T930 h932 X931 W933 => ?_
  have G0 := G0.wr W933
  have G1 := G1.other W933 (Or.inr (slot_ne (Or.inr (o_w hw 12 rfl)) (Or.inl (o_w hw 23 rfl)) (by decide) (t := (.array .byte)) (t' := .int) (by decide) (by decide)))
  have G2 := G2.other W933 (Or.inr (slot_ne (Or.inl (o_w hw 21 rfl)) (Or.inl (o_w hw 23 rfl)) (by decide) (t := (.array .byte)) (t' := .int) (by decide) (by decide)))
  have G3 := G3.same W933
  have G4 := G4.other W933 (Or.inr (slot_ne (Or.inl (o_w hw 25 rfl)) (Or.inl (o_w hw 23 rfl)) (by decide) (t := .int) (t' := .int) (by decide) (by decide)))
  have G5 := G5.other W933 (Ne.symm ne_0_1)
  have KK := KK.wr W933 (Or.inl (List.mem_of_getElem? (i := 0) rfl))
  refine o_aloadN cx X931 d3_13 rfl rfl ?_
  refine o_aloadN cx X931 d3_14 rfl rfl ?_
  refine o_getF cx X931 d3_15 (o_w hw 11 rfl) G1 fun T934 X935 => ?_
  refine o_len cx X935 (z := (5 : Int32)) d3_18 G5 rfl ?_
  refine o_iloadN cx X935 d3_19 rfl ?_
  refine o_isub cx X935 (z := (5 : Int32)) d3_20 rfl ?_
  refine o_putF cx X935 (v' := (.int (5 : Int32))) (ty := .int) d3_21 (o_w hw 24 rfl) G4 G0 (Or.inl (o_w hw 25 rfl)) (o_w hw 3 rfl) (by decide) rfl rfl ga0 fun T936 h938 X937 W939 => ?_
  have G0 := G0.wr W939
  have G1 := G1.other W939 (Or.inr (slot_ne (Or.inr (o_w hw 12 rfl)) (Or.inl (o_w hw 25 rfl)) (by decide) (t := (.array .byte)) (t' := .int) (by decide) (by decide)))
  have G2 := G2.other W939 (Or.inr (slot_ne (Or.inl (o_w hw 21 rfl)) (Or.inl (o_w hw 25 rfl)) (by decide) (t := (.array .byte)) (t' := .int) (by decide) (by decide)))
  have G3 := G3.other W939 (Or.inr (slot_ne (Or.inl (o_w hw 23 rfl)) (Or.inl (o_w hw 25 rfl)) (by decide) (t := .int) (t' := .int) (by decide) (by decide)))
  have G4 := G4.same W939
  have G5 := G5.other W939 (Ne.symm ne_0_1)
  have KK := KK.wr W939 (Or.inl (List.mem_of_getElem? (i := 0) rfl))
  exact o_retV cx X937 d3_24 ⟨rfl, KK, G0, G1, G2, G3, G4⟩ (by decide) (by decide)
theorem ef_ra4_30 (m : MethodId) (ob0 : Addr) : entryFrame m #[(.ref ob0)] 1 = mkF m 0 #[.val (.ref ob0)] [] := by first | (simp [entryFrame, mkF, argsToLocals, Value.category]; done) | rfl
set_option maxRecDepth 65536 in
set_option maxHeartbeats 40000000 in
theorem ra4_30 (l : Launch) (Z : State) (a0 : Array Value) (hw : ∀ d ∈ tables_1, d.before a0 Z = true) (ob0 : Addr) (ob1 : Addr) (q0 : Int32) (q1 : Int32) (q2 : Int32) (q3 : Int32) (q4 : Int32) (h0 : Heap) (n0 : Nat) (Z0 : n0 ≤ h0.size) (ga0 : n0 ≤ ob0) (ga1 : n0 ≤ ob1) (ne_0_1 : ob0 ≠ ob1) (G0 : Exa Z h0 ob0 "com/example/needlewise/needlewise/Carry") (G1 : Fld Z h0 ob0 "com/example/needlewise/needlewise/Carry" "pattern" "[B" (.ref ob1)) (G2 : Fld Z h0 ob0 "com/example/needlewise/needlewise/Carry" "held" "[B" (.ref ob1)) (G3 : Fld Z h0 ob0 "com/example/needlewise/needlewise/Carry" "offset" "I" (.int (0 : Int32))) (G4 : Fld Z h0 ob0 "com/example/needlewise/needlewise/Carry" "count" "I" (.int (5 : Int32))) (G5 : own_Ar Z h0 ob1 .byte [(.int q0), (.int q1), (.int q2), (.int q3), (.int q4)]) :
    own_Met l Z (⟨"com/example/needlewise/needlewise/Carry", "array", "()[B"⟩ : MethodName) prog_8_method_3_code 1 (some (.array .byte)) ({ frames := 0, cells := 0, slots := 0, locals := 0 } : Room) #[(.ref ob0)] h0 n0 (fun v' h' => v' = some (.ref ob1) ∧ h' = h0) := by
  refine own_body (plainFor_of_name pn_7) (fun m => ef_ra4_30 m ob0) Z0 ?_
  intro p e s m below meth c T0 cx X0
  have KK := Keep.refl h0 []
  show own_Go p e below _ (T0.setTop (mkF m 0 #[.val (.ref ob0)] []))
  refine o_aloadN cx X0 d4_0 rfl rfl ?_
  refine o_getF cx X0 d4_1 (o_w hw 20 rfl) G2 fun T953 X954 => ?_
  exact o_retA cx X954 d4_4 rfl rfl rfl ⟨rfl, rfl⟩ (by decide) (by decide)
theorem ef_ra5_31 (m : MethodId) (ob0 : Addr) : entryFrame m #[(.ref ob0)] 1 = mkF m 0 #[.val (.ref ob0)] [] := by first | (simp [entryFrame, mkF, argsToLocals, Value.category]; done) | rfl
set_option maxRecDepth 65536 in
set_option maxHeartbeats 40000000 in
theorem ra5_31 (l : Launch) (Z : State) (a0 : Array Value) (hw : ∀ d ∈ tables_1, d.before a0 Z = true) (ob0 : Addr) (ob1 : Addr) (q0 : Int32) (q1 : Int32) (q2 : Int32) (q3 : Int32) (q4 : Int32) (h0 : Heap) (n0 : Nat) (Z0 : n0 ≤ h0.size) (ga0 : n0 ≤ ob0) (ga1 : n0 ≤ ob1) (ne_0_1 : ob0 ≠ ob1) (G0 : Exa Z h0 ob0 "com/example/needlewise/needlewise/Carry") (G1 : Fld Z h0 ob0 "com/example/needlewise/needlewise/Carry" "pattern" "[B" (.ref ob1)) (G2 : Fld Z h0 ob0 "com/example/needlewise/needlewise/Carry" "held" "[B" (.ref ob1)) (G3 : Fld Z h0 ob0 "com/example/needlewise/needlewise/Carry" "offset" "I" (.int (0 : Int32))) (G4 : Fld Z h0 ob0 "com/example/needlewise/needlewise/Carry" "count" "I" (.int (5 : Int32))) (G5 : own_Ar Z h0 ob1 .byte [(.int q0), (.int q1), (.int q2), (.int q3), (.int q4)]) :
    own_Met l Z (⟨"com/example/needlewise/needlewise/Carry", "offset", "()I"⟩ : MethodName) prog_8_method_4_code 1 (some .int) ({ frames := 0, cells := 0, slots := 0, locals := 0 } : Room) #[(.ref ob0)] h0 n0 (fun v' h' => v' = some (.int (0 : Int32)) ∧ h' = h0) := by
  refine own_body (plainFor_of_name pn_7) (fun m => ef_ra5_31 m ob0) Z0 ?_
  intro p e s m below meth c T0 cx X0
  have KK := Keep.refl h0 []
  show own_Go p e below _ (T0.setTop (mkF m 0 #[.val (.ref ob0)] []))
  refine o_aloadN cx X0 d5_0 rfl rfl ?_
  refine o_getF cx X0 d5_1 (o_w hw 22 rfl) G3 fun T962 X963 => ?_
  exact o_retI cx X963 d5_4 ⟨rfl, rfl⟩ (by decide) (by decide)
theorem ef_ra6_32 (m : MethodId) (ob0 : Addr) : entryFrame m #[(.ref ob0)] 1 = mkF m 0 #[.val (.ref ob0)] [] := by first | (simp [entryFrame, mkF, argsToLocals, Value.category]; done) | rfl
set_option maxRecDepth 65536 in
set_option maxHeartbeats 40000000 in
theorem ra6_32 (l : Launch) (Z : State) (a0 : Array Value) (hw : ∀ d ∈ tables_1, d.before a0 Z = true) (ob0 : Addr) (ob1 : Addr) (q0 : Int32) (q1 : Int32) (q2 : Int32) (q3 : Int32) (q4 : Int32) (h0 : Heap) (n0 : Nat) (Z0 : n0 ≤ h0.size) (ga0 : n0 ≤ ob0) (ga1 : n0 ≤ ob1) (ne_0_1 : ob0 ≠ ob1) (G0 : Exa Z h0 ob0 "com/example/needlewise/needlewise/Carry") (G1 : Fld Z h0 ob0 "com/example/needlewise/needlewise/Carry" "pattern" "[B" (.ref ob1)) (G2 : Fld Z h0 ob0 "com/example/needlewise/needlewise/Carry" "held" "[B" (.ref ob1)) (G3 : Fld Z h0 ob0 "com/example/needlewise/needlewise/Carry" "offset" "I" (.int (0 : Int32))) (G4 : Fld Z h0 ob0 "com/example/needlewise/needlewise/Carry" "count" "I" (.int (5 : Int32))) (G5 : own_Ar Z h0 ob1 .byte [(.int q0), (.int q1), (.int q2), (.int q3), (.int q4)]) :
    own_Met l Z (⟨"com/example/needlewise/needlewise/Carry", "count", "()I"⟩ : MethodName) prog_8_method_2_code 1 (some .int) ({ frames := 0, cells := 0, slots := 0, locals := 0 } : Room) #[(.ref ob0)] h0 n0 (fun v' h' => v' = some (.int (5 : Int32)) ∧ h' = h0) := by
  refine own_body (plainFor_of_name pn_7) (fun m => ef_ra6_32 m ob0) Z0 ?_
  intro p e s m below meth c T0 cx X0
  have KK := Keep.refl h0 []
  show own_Go p e below _ (T0.setTop (mkF m 0 #[.val (.ref ob0)] []))
  refine o_aloadN cx X0 d6_0 rfl rfl ?_
  refine o_getF cx X0 d6_1 (o_w hw 24 rfl) G4 fun T971 X972 => ?_
  exact o_retI cx X972 d6_4 ⟨rfl, rfl⟩ (by decide) (by decide)
theorem ef_ra8_33 (m : MethodId) (ob0 : Addr) : entryFrame m #[(.ref ob0), (.int (0 : Int32))] 2 = mkF m 0 #[.val (.ref ob0), .val (.int (0 : Int32))] [] := by first | (simp [entryFrame, mkF, argsToLocals, Value.category]; done) | rfl
set_option maxRecDepth 65536 in
set_option maxHeartbeats 40000000 in
theorem ra8_33 (l : Launch) (Z : State) (a0 : Array Value) (hw : ∀ d ∈ tables_1, d.before a0 Z = true) (ob0 : Addr) (ob1 : Addr) (q0 : Int32) (q1 : Int32) (q2 : Int32) (q3 : Int32) (q4 : Int32) (h0 : Heap) (n0 : Nat) (Z0 : n0 ≤ h0.size) (ga0 : n0 ≤ ob0) (ga1 : n0 ≤ ob1) (ne_0_1 : ob0 ≠ ob1) (G0 : Exa Z h0 ob0 "com/example/needlewise/needlewise/Carry") (G1 : Fld Z h0 ob0 "com/example/needlewise/needlewise/Carry" "pattern" "[B" (.ref ob1)) (G2 : Fld Z h0 ob0 "com/example/needlewise/needlewise/Carry" "held" "[B" (.ref ob1)) (G3 : Fld Z h0 ob0 "com/example/needlewise/needlewise/Carry" "offset" "I" (.int (0 : Int32))) (G4 : Fld Z h0 ob0 "com/example/needlewise/needlewise/Carry" "count" "I" (.int (5 : Int32))) (G5 : own_Ar Z h0 ob1 .byte [(.int q0), (.int q1), (.int q2), (.int q3), (.int q4)]) :
    own_Met l Z (⟨"com/example/needlewise/needlewise/Carry", "get", "(I)B"⟩ : MethodName) prog_8_method_5_code 2 (some .byte) ({ frames := 0, cells := 0, slots := 0, locals := 0 } : Room) #[(.ref ob0), (.int (0 : Int32))] h0 n0 (fun v' h' => v' = some (.int (nar .byte q0)) ∧ h' = h0) := by
  refine own_body (plainFor_of_name pn_7) (fun m => ef_ra8_33 m ob0) Z0 ?_
  intro p e s m below meth c T0 cx X0
  have KK := Keep.refl h0 []
  show own_Go p e below _ (T0.setTop (mkF m 0 #[.val (.ref ob0), .val (.int (0 : Int32))] []))
  refine o_aloadN cx X0 d8_0 rfl rfl ?_
  refine o_getF cx X0 d8_1 (o_w hw 20 rfl) G2 fun T982 X983 => ?_
  refine o_aloadN cx X983 d8_4 rfl rfl ?_
  refine o_getF cx X983 d8_5 (o_w hw 22 rfl) G3 fun T984 X985 => ?_
  refine o_iloadN cx X985 d8_8 rfl ?_
  refine o_iadd cx X985 (z := (0 : Int32)) d8_9 rfl ?_
  refine o_ldB cx X985 (v := (.int q0)) d8_10 G5 0 (by decide) rfl rfl ?_
  exact o_retN cx X985 (z' := (nar .byte q0)) d8_11 (by simp) rfl ⟨rfl, rfl⟩ (by decide) (by decide)
theorem ef_ra8_34 (m : MethodId) (ob0 : Addr) : entryFrame m #[(.ref ob0), (.int (4 : Int32))] 2 = mkF m 0 #[.val (.ref ob0), .val (.int (4 : Int32))] [] := by first | (simp [entryFrame, mkF, argsToLocals, Value.category]; done) | rfl
set_option maxRecDepth 65536 in
set_option maxHeartbeats 40000000 in
theorem ra8_34 (l : Launch) (Z : State) (a0 : Array Value) (hw : ∀ d ∈ tables_1, d.before a0 Z = true) (ob0 : Addr) (ob1 : Addr) (q0 : Int32) (q1 : Int32) (q2 : Int32) (q3 : Int32) (q4 : Int32) (h0 : Heap) (n0 : Nat) (Z0 : n0 ≤ h0.size) (ga0 : n0 ≤ ob0) (ga1 : n0 ≤ ob1) (ne_0_1 : ob0 ≠ ob1) (G0 : Exa Z h0 ob0 "com/example/needlewise/needlewise/Carry") (G1 : Fld Z h0 ob0 "com/example/needlewise/needlewise/Carry" "pattern" "[B" (.ref ob1)) (G2 : Fld Z h0 ob0 "com/example/needlewise/needlewise/Carry" "held" "[B" (.ref ob1)) (G3 : Fld Z h0 ob0 "com/example/needlewise/needlewise/Carry" "offset" "I" (.int (0 : Int32))) (G4 : Fld Z h0 ob0 "com/example/needlewise/needlewise/Carry" "count" "I" (.int (5 : Int32))) (G5 : own_Ar Z h0 ob1 .byte [(.int q0), (.int q1), (.int q2), (.int q3), (.int q4)]) :
    own_Met l Z (⟨"com/example/needlewise/needlewise/Carry", "get", "(I)B"⟩ : MethodName) prog_8_method_5_code 2 (some .byte) ({ frames := 0, cells := 0, slots := 0, locals := 0 } : Room) #[(.ref ob0), (.int (4 : Int32))] h0 n0 (fun v' h' => v' = some (.int (nar .byte q4)) ∧ h' = h0) := by
  refine own_body (plainFor_of_name pn_7) (fun m => ef_ra8_34 m ob0) Z0 ?_
  intro p e s m below meth c T0 cx X0
  have KK := Keep.refl h0 []
  show own_Go p e below _ (T0.setTop (mkF m 0 #[.val (.ref ob0), .val (.int (4 : Int32))] []))
  refine o_aloadN cx X0 d8_0 rfl rfl ?_
  refine o_getF cx X0 d8_1 (o_w hw 20 rfl) G2 fun T995 X996 => ?_
  refine o_aloadN cx X996 d8_4 rfl rfl ?_
  refine o_getF cx X996 d8_5 (o_w hw 22 rfl) G3 fun T997 X998 => ?_
  refine o_iloadN cx X998 d8_8 rfl ?_
  refine o_iadd cx X998 (z := (4 : Int32)) d8_9 rfl ?_
  refine o_ldB cx X998 (v := (.int q4)) d8_10 G5 4 (by decide) rfl rfl ?_
  exact o_retN cx X998 (z' := (nar .byte q4)) d8_11 (by simp) rfl ⟨rfl, rfl⟩ (by decide) (by decide)
theorem pn_0 : plainName "com/example/needlewise/needlewise/CarryKeepPatternPinLaw" = true := by first | (simp [plainName, overriddenIn]; done) | decide +kernel
theorem ef_rm0 (m : MethodId) (p0 : Int64) (p1 : Int64) (p2 : Int32) (p3 : Int32) (p4 : Int32) : entryFrame m #[(.long p0), (.long p1), (.int p2), (.int p3), (.int p4)] maxLocals = mkF m 0 #[.val (.long p0), .second, .val (.long p1), .second, .val (.int p2), .val (.int p3), .val (.int p4), .unset, .unset, .unset, .unset, .unset, .unset, .unset] [] := by first | (simp [entryFrame, mkF, argsToLocals, Value.category, maxLocals]; done) | rfl
set_option maxRecDepth 65536 in
set_option maxHeartbeats 40000000 in
theorem rm0 (l : Launch) (Z : State) (a0 : Array Value) (hw : ∀ d ∈ tables_1, d.before a0 Z = true) (p0 : Int64) (p1 : Int64) (p2 : Int32) (p3 : Int32) (p4 : Int32) (h0 : Heap) (n0 : Nat) (Z0 : n0 ≤ h0.size) :
    own_Met l Z x code maxLocals ret room_1 #[(.long p0), (.long p1), (.int p2), (.int p3), (.int p4)] h0 n0 (fun v' _ => v' = some (.int 1)) := by
  refine own_body (plainFor_of_name pn_0) (fun m => ef_rm0 m p0 p1 p2 p3 p4) Z0 ?_
  intro p e s m below meth c T0 cx X0
  show own_Go p e below _ (T0.setTop (mkF m 0 #[.val (.long p0), .second, .val (.long p1), .second, .val (.int p2), .val (.int p3), .val (.int p4), .unset, .unset, .unset, .unset, .unset, .unset, .unset] []))
  refine o_iconst cx X0 (z := (5 : Int32)) at_0 rfl ?_
  refine o_newP cx X0 at_1 (o_w hw 0 rfl) (by decide) 5 5 rfl (Nat.le_refl _) (by decide) (by decide) (by decide) fun T55 h57 b54 gb60 ge61 X56 E58 A59 => ?_
  have A59 : own_Ar Z h57 b54 .byte [(.int (0 : Int32)), (.int (0 : Int32)), (.int (0 : Int32)), (.int (0 : Int32)), (.int (0 : Int32))] := A59
  refine o_astore cx X56 (Ls' := #[.val (.long p0), .second, .val (.long p1), .second, .val (.int p2), .val (.int p3), .val (.int p4), .val (.ref b54), .unset, .unset, .unset, .unset, .unset, .unset]) at_3 rfl rfl ?_
  refine o_aload cx X56 at_5 rfl rfl ?_
  refine o_iconst cx X56 (z := (0 : Int32)) at_7 rfl ?_
  refine o_lloadN cx X56 at_8 rfl ?_
  refine o_l2i cx X56 at_9 rfl ?_
  refine o_i2b cx X56 at_10 rfl ?_
  refine o_stB cx X56 (x' := ((p0.toInt32).toInt8.toInt32)) at_11 A59 0 (by decide) rfl (Nat.le_of_ble_eq_true rfl) (own_i8 _) ge61 fun T62 h64 X63 W65 A59 => ?_
  have A59 : own_Ar Z h64 b54 .byte [(.int ((p0.toInt32).toInt8.toInt32)), (.int (0 : Int32)), (.int (0 : Int32)), (.int (0 : Int32)), (.int (0 : Int32))] := A59
  refine o_aload cx X63 at_12 rfl rfl ?_
  refine o_iconst cx X63 (z := (1 : Int32)) at_14 rfl ?_
  refine o_lloadN cx X63 at_15 rfl ?_
  refine o_bipush cx X63 (z := (8 : Int32)) at_16 rfl ?_
  refine o_lushr cx X63 at_18 rfl ?_
  refine o_l2i cx X63 at_19 rfl ?_
  refine o_i2b cx X63 at_20 rfl ?_
  refine o_stB cx X63 (x' := ((((p0.toUInt64 >>> ((8 : Int32) &&& 0x3f).toInt64.toUInt64).toInt64).toInt32).toInt8.toInt32)) at_21 A59 1 (by decide) rfl (Nat.le_of_ble_eq_true rfl) (own_i8 _) ge61 fun T66 h68 X67 W69 A59 => ?_
  have A59 : own_Ar Z h68 b54 .byte [(.int ((p0.toInt32).toInt8.toInt32)), (.int ((((p0.toUInt64 >>> ((8 : Int32) &&& 0x3f).toInt64.toUInt64).toInt64).toInt32).toInt8.toInt32)), (.int (0 : Int32)), (.int (0 : Int32)), (.int (0 : Int32))] := A59
  refine o_aload cx X67 at_22 rfl rfl ?_
  refine o_iconst cx X67 (z := (2 : Int32)) at_24 rfl ?_
  refine o_lloadN cx X67 at_25 rfl ?_
  refine o_bipush cx X67 (z := (16 : Int32)) at_26 rfl ?_
  refine o_lushr cx X67 at_28 rfl ?_
  refine o_l2i cx X67 at_29 rfl ?_
  refine o_i2b cx X67 at_30 rfl ?_
  refine o_stB cx X67 (x' := ((((p0.toUInt64 >>> ((16 : Int32) &&& 0x3f).toInt64.toUInt64).toInt64).toInt32).toInt8.toInt32)) at_31 A59 2 (by decide) rfl (Nat.le_of_ble_eq_true rfl) (own_i8 _) ge61 fun T70 h72 X71 W73 A59 => ?_
  have A59 : own_Ar Z h72 b54 .byte [(.int ((p0.toInt32).toInt8.toInt32)), (.int ((((p0.toUInt64 >>> ((8 : Int32) &&& 0x3f).toInt64.toUInt64).toInt64).toInt32).toInt8.toInt32)), (.int ((((p0.toUInt64 >>> ((16 : Int32) &&& 0x3f).toInt64.toUInt64).toInt64).toInt32).toInt8.toInt32)), (.int (0 : Int32)), (.int (0 : Int32))] := A59
  refine o_aload cx X71 at_32 rfl rfl ?_
  refine o_iconst cx X71 (z := (3 : Int32)) at_34 rfl ?_
  refine o_lloadN cx X71 at_35 rfl ?_
  refine o_bipush cx X71 (z := (24 : Int32)) at_36 rfl ?_
  refine o_lushr cx X71 at_38 rfl ?_
  refine o_l2i cx X71 at_39 rfl ?_
  refine o_i2b cx X71 at_40 rfl ?_
  refine o_stB cx X71 (x' := ((((p0.toUInt64 >>> ((24 : Int32) &&& 0x3f).toInt64.toUInt64).toInt64).toInt32).toInt8.toInt32)) at_41 A59 3 (by decide) rfl (Nat.le_of_ble_eq_true rfl) (own_i8 _) ge61 fun T74 h76 X75 W77 A59 => ?_
  have A59 : own_Ar Z h76 b54 .byte [(.int ((p0.toInt32).toInt8.toInt32)), (.int ((((p0.toUInt64 >>> ((8 : Int32) &&& 0x3f).toInt64.toUInt64).toInt64).toInt32).toInt8.toInt32)), (.int ((((p0.toUInt64 >>> ((16 : Int32) &&& 0x3f).toInt64.toUInt64).toInt64).toInt32).toInt8.toInt32)), (.int ((((p0.toUInt64 >>> ((24 : Int32) &&& 0x3f).toInt64.toUInt64).toInt64).toInt32).toInt8.toInt32)), (.int (0 : Int32))] := A59
  refine o_aload cx X75 at_42 rfl rfl ?_
  refine o_iconst cx X75 (z := (4 : Int32)) at_44 rfl ?_
  refine o_lloadN cx X75 at_45 rfl ?_
  refine o_bipush cx X75 (z := (32 : Int32)) at_46 rfl ?_
  refine o_lushr cx X75 at_48 rfl ?_
  refine o_l2i cx X75 at_49 rfl ?_
  refine o_i2b cx X75 at_50 rfl ?_
  refine o_stB cx X75 (x' := ((((p0.toUInt64 >>> ((32 : Int32) &&& 0x3f).toInt64.toUInt64).toInt64).toInt32).toInt8.toInt32)) at_51 A59 4 (by decide) rfl (Nat.le_of_ble_eq_true rfl) (own_i8 _) ge61 fun T78 h80 X79 W81 A59 => ?_
  have A59 : own_Ar Z h80 b54 .byte [(.int ((p0.toInt32).toInt8.toInt32)), (.int ((((p0.toUInt64 >>> ((8 : Int32) &&& 0x3f).toInt64.toUInt64).toInt64).toInt32).toInt8.toInt32)), (.int ((((p0.toUInt64 >>> ((16 : Int32) &&& 0x3f).toInt64.toUInt64).toInt64).toInt32).toInt8.toInt32)), (.int ((((p0.toUInt64 >>> ((24 : Int32) &&& 0x3f).toInt64.toUInt64).toInt64).toInt32).toInt8.toInt32)), (.int ((((p0.toUInt64 >>> ((32 : Int32) &&& 0x3f).toInt64.toUInt64).toInt64).toInt32).toInt8.toInt32))] := A59
  refine o_iconst cx X79 (z := (5 : Int32)) at_52 rfl ?_
  refine o_newP cx X79 at_53 (o_w hw 0 rfl) (by decide) 5 5 rfl (Nat.le_refl _) (by decide) (by decide) (by decide) fun T83 h85 b82 gb88 ge89 X84 E86 A87 => ?_
  have ne_b54_b82 : b54 ≠ b82 := by rw [gb88]; exact Nat.ne_of_lt A59.lt
  have A59 := A59.ext E86
  have A87 : own_Ar Z h85 b82 .byte [(.int (0 : Int32)), (.int (0 : Int32)), (.int (0 : Int32)), (.int (0 : Int32)), (.int (0 : Int32))] := A87
  refine o_astore cx X84 (Ls' := #[.val (.long p0), .second, .val (.long p1), .second, .val (.int p2), .val (.int p3), .val (.int p4), .val (.ref b54), .val (.ref b82), .unset, .unset, .unset, .unset, .unset]) at_55 rfl rfl ?_
  refine o_aload cx X84 at_57 rfl rfl ?_
  refine o_iconst cx X84 (z := (0 : Int32)) at_59 rfl ?_
  refine o_lloadN cx X84 at_60 rfl ?_
  refine o_l2i cx X84 at_61 rfl ?_
  refine o_i2b cx X84 at_62 rfl ?_
  refine o_stB cx X84 (x' := ((p1.toInt32).toInt8.toInt32)) at_63 A87 0 (by decide) rfl (Nat.le_of_ble_eq_true rfl) (own_i8 _) ge89 fun T90 h92 X91 W93 A87 => ?_
  have A59 := A59.other W93 ne_b54_b82
  have A87 : own_Ar Z h92 b82 .byte [(.int ((p1.toInt32).toInt8.toInt32)), (.int (0 : Int32)), (.int (0 : Int32)), (.int (0 : Int32)), (.int (0 : Int32))] := A87
  refine o_aload cx X91 at_64 rfl rfl ?_
  refine o_iconst cx X91 (z := (1 : Int32)) at_66 rfl ?_
  refine o_lloadN cx X91 at_67 rfl ?_
  refine o_bipush cx X91 (z := (8 : Int32)) at_68 rfl ?_
  refine o_lushr cx X91 at_70 rfl ?_
  refine o_l2i cx X91 at_71 rfl ?_
  refine o_i2b cx X91 at_72 rfl ?_
  refine o_stB cx X91 (x' := ((((p1.toUInt64 >>> ((8 : Int32) &&& 0x3f).toInt64.toUInt64).toInt64).toInt32).toInt8.toInt32)) at_73 A87 1 (by decide) rfl (Nat.le_of_ble_eq_true rfl) (own_i8 _) ge89 fun T94 h96 X95 W97 A87 => ?_
  have A59 := A59.other W97 ne_b54_b82
  have A87 : own_Ar Z h96 b82 .byte [(.int ((p1.toInt32).toInt8.toInt32)), (.int ((((p1.toUInt64 >>> ((8 : Int32) &&& 0x3f).toInt64.toUInt64).toInt64).toInt32).toInt8.toInt32)), (.int (0 : Int32)), (.int (0 : Int32)), (.int (0 : Int32))] := A87
  refine o_aload cx X95 at_74 rfl rfl ?_
  refine o_iconst cx X95 (z := (2 : Int32)) at_76 rfl ?_
  refine o_lloadN cx X95 at_77 rfl ?_
  refine o_bipush cx X95 (z := (16 : Int32)) at_78 rfl ?_
  refine o_lushr cx X95 at_80 rfl ?_
  refine o_l2i cx X95 at_81 rfl ?_
  refine o_i2b cx X95 at_82 rfl ?_
  refine o_stB cx X95 (x' := ((((p1.toUInt64 >>> ((16 : Int32) &&& 0x3f).toInt64.toUInt64).toInt64).toInt32).toInt8.toInt32)) at_83 A87 2 (by decide) rfl (Nat.le_of_ble_eq_true rfl) (own_i8 _) ge89 fun T98 h100 X99 W101 A87 => ?_
  have A59 := A59.other W101 ne_b54_b82
  have A87 : own_Ar Z h100 b82 .byte [(.int ((p1.toInt32).toInt8.toInt32)), (.int ((((p1.toUInt64 >>> ((8 : Int32) &&& 0x3f).toInt64.toUInt64).toInt64).toInt32).toInt8.toInt32)), (.int ((((p1.toUInt64 >>> ((16 : Int32) &&& 0x3f).toInt64.toUInt64).toInt64).toInt32).toInt8.toInt32)), (.int (0 : Int32)), (.int (0 : Int32))] := A87
  refine o_aload cx X99 at_84 rfl rfl ?_
  refine o_iconst cx X99 (z := (3 : Int32)) at_86 rfl ?_
  refine o_lloadN cx X99 at_87 rfl ?_
  refine o_bipush cx X99 (z := (24 : Int32)) at_88 rfl ?_
  refine o_lushr cx X99 at_90 rfl ?_
  refine o_l2i cx X99 at_91 rfl ?_
  refine o_i2b cx X99 at_92 rfl ?_
  refine o_stB cx X99 (x' := ((((p1.toUInt64 >>> ((24 : Int32) &&& 0x3f).toInt64.toUInt64).toInt64).toInt32).toInt8.toInt32)) at_93 A87 3 (by decide) rfl (Nat.le_of_ble_eq_true rfl) (own_i8 _) ge89 fun T102 h104 X103 W105 A87 => ?_
  have A59 := A59.other W105 ne_b54_b82
  have A87 : own_Ar Z h104 b82 .byte [(.int ((p1.toInt32).toInt8.toInt32)), (.int ((((p1.toUInt64 >>> ((8 : Int32) &&& 0x3f).toInt64.toUInt64).toInt64).toInt32).toInt8.toInt32)), (.int ((((p1.toUInt64 >>> ((16 : Int32) &&& 0x3f).toInt64.toUInt64).toInt64).toInt32).toInt8.toInt32)), (.int ((((p1.toUInt64 >>> ((24 : Int32) &&& 0x3f).toInt64.toUInt64).toInt64).toInt32).toInt8.toInt32)), (.int (0 : Int32))] := A87
  refine o_aload cx X103 at_94 rfl rfl ?_
  refine o_iconst cx X103 (z := (4 : Int32)) at_96 rfl ?_
  refine o_lloadN cx X103 at_97 rfl ?_
  refine o_bipush cx X103 (z := (32 : Int32)) at_98 rfl ?_
  refine o_lushr cx X103 at_100 rfl ?_
  refine o_l2i cx X103 at_101 rfl ?_
  refine o_i2b cx X103 at_102 rfl ?_
  refine o_stB cx X103 (x' := ((((p1.toUInt64 >>> ((32 : Int32) &&& 0x3f).toInt64.toUInt64).toInt64).toInt32).toInt8.toInt32)) at_103 A87 4 (by decide) rfl (Nat.le_of_ble_eq_true rfl) (own_i8 _) ge89 fun T106 h108 X107 W109 A87 => ?_
  have A59 := A59.other W109 ne_b54_b82
  have A87 : own_Ar Z h108 b82 .byte [(.int ((p1.toInt32).toInt8.toInt32)), (.int ((((p1.toUInt64 >>> ((8 : Int32) &&& 0x3f).toInt64.toUInt64).toInt64).toInt32).toInt8.toInt32)), (.int ((((p1.toUInt64 >>> ((16 : Int32) &&& 0x3f).toInt64.toUInt64).toInt64).toInt32).toInt8.toInt32)), (.int ((((p1.toUInt64 >>> ((24 : Int32) &&& 0x3f).toInt64.toUInt64).toInt64).toInt32).toInt8.toInt32)), (.int ((((p1.toUInt64 >>> ((32 : Int32) &&& 0x3f).toInt64.toUInt64).toInt64).toInt32).toInt8.toInt32))] := A87
  obtain ⟨pv0, epv0⟩ : ∃ z : Int32, z = ((p0.toInt32).toInt8.toInt32) := ⟨_, rfl⟩
  rw [← epv0] at A59
  have npv0 : pv0.toInt8.toInt32 = pv0 := by rw [epv0]; exact own_i8 _
  have nfpv0 : fits .byte (.int pv0) = true := npv0 ▸ fits_nar_byte pv0
  obtain ⟨pv1, epv1⟩ : ∃ z : Int32, z = ((((p0.toUInt64 >>> ((8 : Int32) &&& 0x3f).toInt64.toUInt64).toInt64).toInt32).toInt8.toInt32) := ⟨_, rfl⟩
  rw [← epv1] at A59
  have npv1 : pv1.toInt8.toInt32 = pv1 := by rw [epv1]; exact own_i8 _
  have nfpv1 : fits .byte (.int pv1) = true := npv1 ▸ fits_nar_byte pv1
  obtain ⟨pv2, epv2⟩ : ∃ z : Int32, z = ((((p0.toUInt64 >>> ((16 : Int32) &&& 0x3f).toInt64.toUInt64).toInt64).toInt32).toInt8.toInt32) := ⟨_, rfl⟩
  rw [← epv2] at A59
  have npv2 : pv2.toInt8.toInt32 = pv2 := by rw [epv2]; exact own_i8 _
  have nfpv2 : fits .byte (.int pv2) = true := npv2 ▸ fits_nar_byte pv2
  obtain ⟨pv3, epv3⟩ : ∃ z : Int32, z = ((((p0.toUInt64 >>> ((24 : Int32) &&& 0x3f).toInt64.toUInt64).toInt64).toInt32).toInt8.toInt32) := ⟨_, rfl⟩
  rw [← epv3] at A59
  have npv3 : pv3.toInt8.toInt32 = pv3 := by rw [epv3]; exact own_i8 _
  have nfpv3 : fits .byte (.int pv3) = true := npv3 ▸ fits_nar_byte pv3
  obtain ⟨pv4, epv4⟩ : ∃ z : Int32, z = ((((p0.toUInt64 >>> ((32 : Int32) &&& 0x3f).toInt64.toUInt64).toInt64).toInt32).toInt8.toInt32) := ⟨_, rfl⟩
  rw [← epv4] at A59
  have npv4 : pv4.toInt8.toInt32 = pv4 := by rw [epv4]; exact own_i8 _
  have nfpv4 : fits .byte (.int pv4) = true := npv4 ▸ fits_nar_byte pv4
  obtain ⟨fv0, efv0⟩ : ∃ z : Int32, z = ((p1.toInt32).toInt8.toInt32) := ⟨_, rfl⟩
  rw [← efv0] at A87
  have nfv0 : fv0.toInt8.toInt32 = fv0 := by rw [efv0]; exact own_i8 _
  have nffv0 : fits .byte (.int fv0) = true := nfv0 ▸ fits_nar_byte fv0
  obtain ⟨fv1, efv1⟩ : ∃ z : Int32, z = ((((p1.toUInt64 >>> ((8 : Int32) &&& 0x3f).toInt64.toUInt64).toInt64).toInt32).toInt8.toInt32) := ⟨_, rfl⟩
  rw [← efv1] at A87
  have nfv1 : fv1.toInt8.toInt32 = fv1 := by rw [efv1]; exact own_i8 _
  have nffv1 : fits .byte (.int fv1) = true := nfv1 ▸ fits_nar_byte fv1
  obtain ⟨fv2, efv2⟩ : ∃ z : Int32, z = ((((p1.toUInt64 >>> ((16 : Int32) &&& 0x3f).toInt64.toUInt64).toInt64).toInt32).toInt8.toInt32) := ⟨_, rfl⟩
  rw [← efv2] at A87
  have nfv2 : fv2.toInt8.toInt32 = fv2 := by rw [efv2]; exact own_i8 _
  have nffv2 : fits .byte (.int fv2) = true := nfv2 ▸ fits_nar_byte fv2
  obtain ⟨fv3, efv3⟩ : ∃ z : Int32, z = ((((p1.toUInt64 >>> ((24 : Int32) &&& 0x3f).toInt64.toUInt64).toInt64).toInt32).toInt8.toInt32) := ⟨_, rfl⟩
  rw [← efv3] at A87
  have nfv3 : fv3.toInt8.toInt32 = fv3 := by rw [efv3]; exact own_i8 _
  have nffv3 : fits .byte (.int fv3) = true := nfv3 ▸ fits_nar_byte fv3
  obtain ⟨fv4, efv4⟩ : ∃ z : Int32, z = ((((p1.toUInt64 >>> ((32 : Int32) &&& 0x3f).toInt64.toUInt64).toInt64).toInt32).toInt8.toInt32) := ⟨_, rfl⟩
  rw [← efv4] at A87
  have nfv4 : fv4.toInt8.toInt32 = fv4 := by rw [efv4]; exact own_i8 _
  have nffv4 : fits .byte (.int fv4) = true := nfv4 ▸ fits_nar_byte fv4
  refine o_iload cx X107 at_104 rfl ?_
  refine o_ldc cx X107 (z := (2147483647 : Int32)) at_106 (o_w hw 1 rfl) ?_
  refine o_iand cx X107 at_108 rfl ?_
  refine o_bipush cx X107 (z := (6 : Int32)) at_109 rfl ?_
  refine o_irem cx X107 at_111 (by decide) rfl ?_
  refine o_istore cx X107 (Ls' := #[.val (.long p0), .second, .val (.long p1), .second, .val (.int p2), .val (.int p3), .val (.int p4), .val (.ref b54), .val (.ref b82), .val (.int ((p2 &&& (2147483647 : Int32)) % (6 : Int32))), .unset, .unset, .unset, .unset]) at_112 rfl ?_
  obtain ⟨hc0, hc5⟩ := own_r6 p2
  obtain ⟨cp, ecp⟩ : ∃ z : Int32, z = ((p2 &&& (2147483647 : Int32)) % (6 : Int32)) := ⟨_, rfl⟩
  rw [← ecp] at hc0 hc5 ⊢
  show own_Go p e below _ (T106.setTop (mkF m 114 #[.val (.long p0), .second, .val (.long p1), .second, .val (.int p2), .val (.int p3), .val (.int p4), .val (.ref b54), .val (.ref b82), .val (.int cp), .unset, .unset, .unset, .unset] []))
  refine o_iload cx X107 at_114 rfl ?_
  refine o_ldc cx X107 (z := (2147483647 : Int32)) at_116 (o_w hw 1 rfl) ?_
  refine o_iand cx X107 at_118 rfl ?_
  refine o_iload cx X107 at_119 rfl ?_
  refine o_iconst cx X107 (z := (1 : Int32)) at_121 rfl ?_
  refine o_iadd cx X107 at_122 rfl ?_
  refine o_irem cx X107 at_123 (own_nz hc0 hc5) rfl ?_
  refine o_istore cx X107 (Ls' := #[.val (.long p0), .second, .val (.long p1), .second, .val (.int p2), .val (.int p3), .val (.int p4), .val (.ref b54), .val (.ref b82), .val (.int cp), .val (.int ((p3 &&& (2147483647 : Int32)) % (cp + (1 : Int32)))), .unset, .unset, .unset]) at_124 rfl ?_
  obtain ⟨hq0, hq1⟩ := own_rq p3 cp hc0 hc5
  obtain ⟨kp, ekp⟩ : ∃ z : Int32, z = ((p3 &&& (2147483647 : Int32)) % (cp + (1 : Int32))) := ⟨_, rfl⟩
  rw [← ekp] at hq0 hq1 ⊢
  rcases own_six hq0 (Int.le_trans hq1 hc5) with hs | hs | hs | hs | hs | hs
  · rw [hs]
    show own_Go p e below _ (T106.setTop (mkF m 126 #[.val (.long p0), .second, .val (.long p1), .second, .val (.int p2), .val (.int p3), .val (.int p4), .val (.ref b54), .val (.ref b82), .val (.int cp), .val (.int (0 : Int32)), .unset, .unset, .unset] []))
    refine o_iconst cx X107 (z := (5 : Int32)) at_126 rfl ?_
    refine o_iload cx X107 at_127 rfl ?_
    refine o_isub cx X107 (z := (5 : Int32)) at_129 rfl ?_
    refine o_istore cx X107 (Ls' := #[.val (.long p0), .second, .val (.long p1), .second, .val (.int p2), .val (.int p3), .val (.int p4), .val (.ref b54), .val (.ref b82), .val (.int cp), .val (.int (0 : Int32)), .val (.int (5 : Int32)), .unset, .unset]) at_130 rfl ?_
    refine o_newO cx X107 at_132 (o_w hw 2 rfl) (o_w hw 3 rfl) (o_w hw 4 rfl) (by decide) (by decide) fun T111 h113 b110 gb117 ge118 X112 E114 A115 D116 => ?_
    have ne_b54_b110 : b54 ≠ b110 := by rw [gb117]; exact Nat.ne_of_lt A59.lt
    have ne_b82_b110 : b82 ≠ b110 := by rw [gb117]; exact Nat.ne_of_lt A87.lt
    have A59 := A59.ext E114
    have A87 := A87.ext E114
    have F_b110_pattern : Fld Z h113 b110 "com/example/needlewise/needlewise/Carry" "pattern" "[B" .null := D116 (Or.inr (o_w hw 12 rfl)) (ty := (.array .byte)) (by decide)
    have F_b110_capacity : Fld Z h113 b110 "com/example/needlewise/needlewise/Carry" "capacity" "I" (.int (0 : Int32)) := D116 (Or.inr (o_w hw 14 rfl)) (ty := .int) (by decide)
    have F_b110_held : Fld Z h113 b110 "com/example/needlewise/needlewise/Carry" "held" "[B" .null := D116 (Or.inl (o_w hw 21 rfl)) (ty := (.array .byte)) (by decide)
    have F_b110_offset : Fld Z h113 b110 "com/example/needlewise/needlewise/Carry" "offset" "I" (.int (0 : Int32)) := D116 (Or.inl (o_w hw 23 rfl)) (ty := .int) (by decide)
    have F_b110_count : Fld Z h113 b110 "com/example/needlewise/needlewise/Carry" "count" "I" (.int (0 : Int32)) := D116 (Or.inl (o_w hw 25 rfl)) (ty := .int) (by decide)
    have F_b110_seam : Fld Z h113 b110 "com/example/needlewise/needlewise/Carry" "seam" "[B" .null := D116 (Or.inl (o_w hw 47 rfl)) (ty := (.array .byte)) (by decide)
    refine o_dup cx X112 at_135 rfl ?_
    refine o_aload cx X112 at_136 rfl rfl ?_
    refine o_iload cx X112 at_138 rfl ?_
    refine o_callC cx X112 (y' := (⟨"com/example/needlewise/needlewise/Carry", "<init>", "([BI)V"⟩ : MethodName)) (argsL := [(.ref b54), (.int cp)]) (st := [(.ref b110)]) (a := b110) at_140 (o_w hw 5 rfl) (o_w hw 6 rfl) (o_w hw 4 rfl) (o_w hw 7 rfl) (by decide) rfl (ra1_1 l Z a0 hw b110 b54 cp pv0 pv1 pv2 pv3 pv4 h113 n0 X112.ge0 ge118 ge61 (Ne.symm ne_b54_b110) A115 F_b110_pattern F_b110_capacity F_b110_held F_b110_offset F_b110_count F_b110_seam A59) (by decide) 1 rfl (by decide) rfl (lenOf pd_1 rfl) rfl rfl (by decide) (by decide) fun v122 T119 h121 X120 Q123 => ?_
    obtain ⟨rfl, K124, E125, F126, F127, F128, F129, F130, F131⟩ := Q123
    have A59 := A59.keep K124 (ninS ne_b54_b110 nin0)
    have A87 := A87.keep K124 (ninS ne_b82_b110 nin0)
    show own_Go p e below _ (T119.setTop (mkF m 143 #[.val (.long p0), .second, .val (.long p1), .second, .val (.int p2), .val (.int p3), .val (.int p4), .val (.ref b54), .val (.ref b82), .val (.int cp), .val (.int (0 : Int32)), .val (.int (5 : Int32)), .unset, .unset] [(.ref b110)]))
    refine o_astore cx X120 (Ls' := #[.val (.long p0), .second, .val (.long p1), .second, .val (.int p2), .val (.int p3), .val (.int p4), .val (.ref b54), .val (.ref b82), .val (.int cp), .val (.int (0 : Int32)), .val (.int (5 : Int32)), .val (.ref b110), .unset]) at_143 rfl rfl ?_
    have J177 : ∀ (Tj : State) (hj : Heap) (sl : Slot) (u1 u2 u3 : Value), own_Sd p l e room_1 s m #[(.long p0), (.long p1), (.int p2), (.int p3), (.int p4)] below meth c n0 Tj hj 4 21 → Exa Z hj b110 "com/example/needlewise/needlewise/Carry" → Fld Z hj b110 "com/example/needlewise/needlewise/Carry" "pattern" "[B" (.ref b54) → Fld Z hj b110 "com/example/needlewise/needlewise/Carry" "held" "[B" u1 → Fld Z hj b110 "com/example/needlewise/needlewise/Carry" "offset" "I" u2 → Fld Z hj b110 "com/example/needlewise/needlewise/Carry" "count" "I" u3 → own_Ar Z hj b54 .byte [(.int pv0), (.int pv1), (.int pv2), (.int pv3), (.int pv4)] → (sl = .unset ∨ ∃ q : Int32, sl = .val (.int q)) → own_Go p e below (own_End below s room_1 n0 (fun v' _ => v' = some (.int 1))) (Tj.setTop (mkF m 177 #[.val (.long p0), .second, .val (.long p1), .second, .val (.int p2), .val (.int p3), .val (.int p4), .val (.ref b54), .val (.ref b82), .val (.int cp), .val (.int (0 : Int32)), .val (.int (5 : Int32)), .val (.ref b110), sl] [])) := by
      intro Tj hj sl u1 u2 u3 Xj Ej Fj0 Fj1 Fj2 Fj3 Aj hsl
      rcases hsl with rfl | ⟨qs, rfl⟩
      · show own_Go p e below _ (Tj.setTop (mkF m 177 #[.val (.long p0), .second, .val (.long p1), .second, .val (.int p2), .val (.int p3), .val (.int p4), .val (.ref b54), .val (.ref b82), .val (.int cp), .val (.int (0 : Int32)), .val (.int (5 : Int32)), .val (.ref b110), .unset] []))
        refine o_aload cx Xj at_177 rfl rfl ?_
        refine o_iload cx Xj at_179 rfl ?_
        refine o_callV cx Xj (y' := (⟨"com/example/needlewise/needlewise/Carry", "keepPattern", "(I)V"⟩ : MethodName)) (argsL := [(.int (5 : Int32))]) (st := []) (a := b110) at_181 (o_w hw 15 rfl) (o_w hw 16 rfl) (o_w hw 18 rfl) (o_w hw 17 rfl) (o_w hw 4 rfl) (o_w hw 19 rfl) (by decide) Ej (ra3_2 l Z a0 hw b110 b54 u1 u2 u3 pv0 pv1 pv2 pv3 pv4 hj n0 Xj.ge0 ge118 ge61 (Ne.symm ne_b54_b110) Ej Fj0 Fj1 Fj2 Fj3 Aj) (by decide) 0 rfl (by decide) rfl (lenOf pd_3 rfl) rfl rfl (by decide) (by decide) fun v135 T132 h134 X133 Q136 => ?_
        obtain ⟨rfl, K137, E138, F139, F140, F141, F142⟩ := Q136
        have Aj := Aj.keep K137 (ninS ne_b54_b110 nin0)
        show own_Go p e below _ (T132.setTop (mkF m 184 #[.val (.long p0), .second, .val (.long p1), .second, .val (.int p2), .val (.int p3), .val (.int p4), .val (.ref b54), .val (.ref b82), .val (.int cp), .val (.int (0 : Int32)), .val (.int (5 : Int32)), .val (.ref b110), .unset] []))
        refine o_aload cx X133 at_184 rfl rfl ?_
        refine o_callVp cx X133 (y' := (⟨"com/example/needlewise/needlewise/Carry", "array", "()[B"⟩ : MethodName)) (argsL := []) (st := []) (a := b110) at_186 (o_w hw 26 rfl) (o_w hw 27 rfl) (o_w hw 29 rfl) (o_w hw 28 rfl) (o_w hw 4 rfl) (o_w hw 30 rfl) (by decide) E138 (ra4_3 l Z a0 hw b110 b54 pv0 pv1 pv2 pv3 pv4 h134 n0 X133.ge0 ge118 ge61 (Ne.symm ne_b54_b110) E138 F139 F140 F141 F142 Aj) (by decide) 0 rfl (by decide) rfl (lenOf pd_4 rfl) rfl rfl (by decide) (by decide) fun T143 X144 => ?_
        show own_Go p e below _ (T143.setTop (mkF m 189 #[.val (.long p0), .second, .val (.long p1), .second, .val (.int p2), .val (.int p3), .val (.int p4), .val (.ref b54), .val (.ref b82), .val (.int cp), .val (.int (0 : Int32)), .val (.int (5 : Int32)), .val (.ref b110), .unset] [(.ref b54)]))
        refine o_aload cx X144 at_189 rfl rfl ?_
        refine o_acmp cx X144 194 true at_191 rfl rfl (decide_eq_true rfl) (by decide) (by decide) ?_
        refine o_aload cx X144 at_194 rfl rfl ?_
        refine o_callVp cx X144 (y' := (⟨"com/example/needlewise/needlewise/Carry", "offset", "()I"⟩ : MethodName)) (argsL := []) (st := []) (a := b110) at_196 (o_w hw 31 rfl) (o_w hw 32 rfl) (o_w hw 34 rfl) (o_w hw 33 rfl) (o_w hw 4 rfl) (o_w hw 35 rfl) (by decide) E138 (ra5_4 l Z a0 hw b110 b54 pv0 pv1 pv2 pv3 pv4 h134 n0 X144.ge0 ge118 ge61 (Ne.symm ne_b54_b110) E138 F139 F140 F141 F142 Aj) (by decide) 0 rfl (by decide) rfl (lenOf pd_5 rfl) rfl rfl (by decide) (by decide) fun T148 X149 => ?_
        show own_Go p e below _ (T148.setTop (mkF m 199 #[.val (.long p0), .second, .val (.long p1), .second, .val (.int p2), .val (.int p3), .val (.int p4), .val (.ref b54), .val (.ref b82), .val (.int cp), .val (.int (0 : Int32)), .val (.int (5 : Int32)), .val (.ref b110), .unset] [(.int (5 : Int32))]))
        refine o_iload cx X149 at_199 rfl ?_
        refine o_icmpNo cx X149 at_201 (by decide) ?_
        refine o_aload cx X149 at_204 rfl rfl ?_
        refine o_callVp cx X149 (y' := (⟨"com/example/needlewise/needlewise/Carry", "count", "()I"⟩ : MethodName)) (argsL := []) (st := []) (a := b110) at_206 (o_w hw 36 rfl) (o_w hw 37 rfl) (o_w hw 39 rfl) (o_w hw 38 rfl) (o_w hw 4 rfl) (o_w hw 40 rfl) (by decide) E138 (ra6_5 l Z a0 hw b110 b54 pv0 pv1 pv2 pv3 pv4 h134 n0 X149.ge0 ge118 ge61 (Ne.symm ne_b54_b110) E138 F139 F140 F141 F142 Aj) (by decide) 0 rfl (by decide) rfl (lenOf pd_6 rfl) rfl rfl (by decide) (by decide) fun T153 X154 => ?_
        show own_Go p e below _ (T153.setTop (mkF m 209 #[.val (.long p0), .second, .val (.long p1), .second, .val (.int p2), .val (.int p3), .val (.int p4), .val (.ref b54), .val (.ref b82), .val (.int cp), .val (.int (0 : Int32)), .val (.int (5 : Int32)), .val (.ref b110), .unset] [(.int (0 : Int32))]))
        refine o_iload cx X154 at_209 rfl ?_
        refine o_icmpNo cx X154 at_211 (by decide) ?_
        refine o_iconst cx X154 (z := (1 : Int32)) at_214 rfl ?_
        refine o_goto cx X154 219 at_215 (by decide) (by decide) ?_
        refine o_istore cx X154 (Ls' := #[.val (.long p0), .second, .val (.long p1), .second, .val (.int p2), .val (.int p3), .val (.int p4), .val (.ref b54), .val (.ref b82), .val (.int cp), .val (.int (0 : Int32)), .val (.int (5 : Int32)), .val (.ref b110), .val (.int (1 : Int32))]) at_219 rfl ?_
        refine o_iload cx X154 at_221 rfl ?_
        refine o_ifYes cx X154 268 at_223 (by decide) (by decide) (by decide) ?_
        refine o_iload cx X154 at_268 rfl ?_
        exact o_retN cx X154 (z' := (1 : Int32)) at_270 (by simp) rfl rfl (by decide) (by decide)
      · show own_Go p e below _ (Tj.setTop (mkF m 177 #[.val (.long p0), .second, .val (.long p1), .second, .val (.int p2), .val (.int p3), .val (.int p4), .val (.ref b54), .val (.ref b82), .val (.int cp), .val (.int (0 : Int32)), .val (.int (5 : Int32)), .val (.ref b110), .val (.int qs)] []))
        refine o_aload cx Xj at_177 rfl rfl ?_
        refine o_iload cx Xj at_179 rfl ?_
        refine o_callV cx Xj (y' := (⟨"com/example/needlewise/needlewise/Carry", "keepPattern", "(I)V"⟩ : MethodName)) (argsL := [(.int (5 : Int32))]) (st := []) (a := b110) at_181 (o_w hw 15 rfl) (o_w hw 16 rfl) (o_w hw 18 rfl) (o_w hw 17 rfl) (o_w hw 4 rfl) (o_w hw 19 rfl) (by decide) Ej (ra3_2 l Z a0 hw b110 b54 u1 u2 u3 pv0 pv1 pv2 pv3 pv4 hj n0 Xj.ge0 ge118 ge61 (Ne.symm ne_b54_b110) Ej Fj0 Fj1 Fj2 Fj3 Aj) (by decide) 0 rfl (by decide) rfl (lenOf pd_3 rfl) rfl rfl (by decide) (by decide) fun v161 T158 h160 X159 Q162 => ?_
        obtain ⟨rfl, K163, E164, F165, F166, F167, F168⟩ := Q162
        have Aj := Aj.keep K163 (ninS ne_b54_b110 nin0)
        show own_Go p e below _ (T158.setTop (mkF m 184 #[.val (.long p0), .second, .val (.long p1), .second, .val (.int p2), .val (.int p3), .val (.int p4), .val (.ref b54), .val (.ref b82), .val (.int cp), .val (.int (0 : Int32)), .val (.int (5 : Int32)), .val (.ref b110), .val (.int qs)] []))
        refine o_aload cx X159 at_184 rfl rfl ?_
        refine o_callVp cx X159 (y' := (⟨"com/example/needlewise/needlewise/Carry", "array", "()[B"⟩ : MethodName)) (argsL := []) (st := []) (a := b110) at_186 (o_w hw 26 rfl) (o_w hw 27 rfl) (o_w hw 29 rfl) (o_w hw 28 rfl) (o_w hw 4 rfl) (o_w hw 30 rfl) (by decide) E164 (ra4_3 l Z a0 hw b110 b54 pv0 pv1 pv2 pv3 pv4 h160 n0 X159.ge0 ge118 ge61 (Ne.symm ne_b54_b110) E164 F165 F166 F167 F168 Aj) (by decide) 0 rfl (by decide) rfl (lenOf pd_4 rfl) rfl rfl (by decide) (by decide) fun T169 X170 => ?_
        show own_Go p e below _ (T169.setTop (mkF m 189 #[.val (.long p0), .second, .val (.long p1), .second, .val (.int p2), .val (.int p3), .val (.int p4), .val (.ref b54), .val (.ref b82), .val (.int cp), .val (.int (0 : Int32)), .val (.int (5 : Int32)), .val (.ref b110), .val (.int qs)] [(.ref b54)]))
        refine o_aload cx X170 at_189 rfl rfl ?_
        refine o_acmp cx X170 194 true at_191 rfl rfl (decide_eq_true rfl) (by decide) (by decide) ?_
        refine o_aload cx X170 at_194 rfl rfl ?_
        refine o_callVp cx X170 (y' := (⟨"com/example/needlewise/needlewise/Carry", "offset", "()I"⟩ : MethodName)) (argsL := []) (st := []) (a := b110) at_196 (o_w hw 31 rfl) (o_w hw 32 rfl) (o_w hw 34 rfl) (o_w hw 33 rfl) (o_w hw 4 rfl) (o_w hw 35 rfl) (by decide) E164 (ra5_4 l Z a0 hw b110 b54 pv0 pv1 pv2 pv3 pv4 h160 n0 X170.ge0 ge118 ge61 (Ne.symm ne_b54_b110) E164 F165 F166 F167 F168 Aj) (by decide) 0 rfl (by decide) rfl (lenOf pd_5 rfl) rfl rfl (by decide) (by decide) fun T174 X175 => ?_
        show own_Go p e below _ (T174.setTop (mkF m 199 #[.val (.long p0), .second, .val (.long p1), .second, .val (.int p2), .val (.int p3), .val (.int p4), .val (.ref b54), .val (.ref b82), .val (.int cp), .val (.int (0 : Int32)), .val (.int (5 : Int32)), .val (.ref b110), .val (.int qs)] [(.int (5 : Int32))]))
        refine o_iload cx X175 at_199 rfl ?_
        refine o_icmpNo cx X175 at_201 (by decide) ?_
        refine o_aload cx X175 at_204 rfl rfl ?_
        refine o_callVp cx X175 (y' := (⟨"com/example/needlewise/needlewise/Carry", "count", "()I"⟩ : MethodName)) (argsL := []) (st := []) (a := b110) at_206 (o_w hw 36 rfl) (o_w hw 37 rfl) (o_w hw 39 rfl) (o_w hw 38 rfl) (o_w hw 4 rfl) (o_w hw 40 rfl) (by decide) E164 (ra6_5 l Z a0 hw b110 b54 pv0 pv1 pv2 pv3 pv4 h160 n0 X175.ge0 ge118 ge61 (Ne.symm ne_b54_b110) E164 F165 F166 F167 F168 Aj) (by decide) 0 rfl (by decide) rfl (lenOf pd_6 rfl) rfl rfl (by decide) (by decide) fun T179 X180 => ?_
        show own_Go p e below _ (T179.setTop (mkF m 209 #[.val (.long p0), .second, .val (.long p1), .second, .val (.int p2), .val (.int p3), .val (.int p4), .val (.ref b54), .val (.ref b82), .val (.int cp), .val (.int (0 : Int32)), .val (.int (5 : Int32)), .val (.ref b110), .val (.int qs)] [(.int (0 : Int32))]))
        refine o_iload cx X180 at_209 rfl ?_
        refine o_icmpNo cx X180 at_211 (by decide) ?_
        refine o_iconst cx X180 (z := (1 : Int32)) at_214 rfl ?_
        refine o_goto cx X180 219 at_215 (by decide) (by decide) ?_
        refine o_istore cx X180 (Ls' := #[.val (.long p0), .second, .val (.long p1), .second, .val (.int p2), .val (.int p3), .val (.int p4), .val (.ref b54), .val (.ref b82), .val (.int cp), .val (.int (0 : Int32)), .val (.int (5 : Int32)), .val (.ref b110), .val (.int (1 : Int32))]) at_219 rfl ?_
        refine o_iload cx X180 at_221 rfl ?_
        refine o_ifYes cx X180 268 at_223 (by decide) (by decide) (by decide) ?_
        refine o_iload cx X180 at_268 rfl ?_
        exact o_retN cx X180 (z' := (1 : Int32)) at_270 (by simp) rfl rfl (by decide) (by decide)
    refine o_iload cx X120 at_145 rfl ?_
    refine o_iconst cx X120 (z := (1 : Int32)) at_147 rfl ?_
    refine o_iand cx X120 at_148 rfl ?_
    by_cases hc184 : (p4 &&& (1 : Int32)) = (0 : Int32)
    · refine o_ifYes cx X120 177 at_149 ((if0 _ _).trans (teq hc184).1) (by decide) (by decide) ?_
      exact J177 _ _ _ _ _ _ (X120.more (by decide) (by decide)) E125 F126 F128 F129 F130 A59 (Or.inl rfl)
    · refine o_ifNo cx X120 at_149 ((if0 _ _).trans (feq hc184).1) ?_
      refine o_iload cx X120 at_152 rfl ?_
      refine o_iconst cx X120 (z := (1 : Int32)) at_154 rfl ?_
      refine o_iushr cx X120 at_155 rfl ?_
      refine o_ldc cx X120 (z := (2147483647 : Int32)) at_156 (o_w hw 1 rfl) ?_
      refine o_iand cx X120 at_158 rfl ?_
      refine o_iload cx X120 at_159 rfl ?_
      refine o_iconst cx X120 (z := (1 : Int32)) at_161 rfl ?_
      refine o_iadd cx X120 at_162 rfl ?_
      refine o_irem cx X120 at_163 (own_nz hc0 hc5) rfl ?_
      refine o_istore cx X120 (Ls' := #[.val (.long p0), .second, .val (.long p1), .second, .val (.int p2), .val (.int p3), .val (.int p4), .val (.ref b54), .val (.ref b82), .val (.int cp), .val (.int (0 : Int32)), .val (.int (5 : Int32)), .val (.ref b110), .val (.int ((((p4.toUInt32 >>> ((1 : Int32) &&& 31).toUInt32).toInt32) &&& (2147483647 : Int32)) % (cp + (1 : Int32))))]) at_164 rfl ?_
      obtain ⟨hk0, hk1⟩ := own_rq ((p4.toUInt32 >>> ((1 : Int32) &&& 31).toUInt32).toInt32) cp hc0 hc5
      obtain ⟨kk, ekk⟩ : ∃ z : Int32, z = ((((p4.toUInt32 >>> ((1 : Int32) &&& 31).toUInt32).toInt32) &&& (2147483647 : Int32)) % (cp + (1 : Int32))) := ⟨_, rfl⟩
      rw [← ekk] at hk0 hk1 ⊢
      show own_Go p e below _ (T119.setTop (mkF m 166 #[.val (.long p0), .second, .val (.long p1), .second, .val (.int p2), .val (.int p3), .val (.int p4), .val (.ref b54), .val (.ref b82), .val (.int cp), .val (.int (0 : Int32)), .val (.int (5 : Int32)), .val (.ref b110), .val (.int kk)] []))
      refine o_aload cx X120 at_166 rfl rfl ?_
      refine o_iconst cx X120 (z := (0 : Int32)) at_168 rfl ?_
      refine o_aload cx X120 at_169 rfl rfl ?_
      refine o_iconst cx X120 (z := (0 : Int32)) at_171 rfl ?_
      refine o_iload cx X120 at_172 rfl ?_
      refine o_callV cx X120 (y' := (⟨"com/example/needlewise/needlewise/Carry", "keep", "(I[BII)V"⟩ : MethodName)) (argsL := [(.int (0 : Int32)), (.ref b82), (.int (0 : Int32)), (.int kk)]) (st := []) (a := b110) at_174 (o_w hw 41 rfl) (o_w hw 42 rfl) (o_w hw 44 rfl) (o_w hw 43 rfl) (o_w hw 4 rfl) (o_w hw 45 rfl) (by decide) E125 (rkeep l Z a0 hw b110 b82 b54 cp kk fv0 fv1 fv2 fv3 fv4 h121 n0 X120.ge0 ge118 ge89 (Ne.symm ne_b82_b110) E125 F126 F127 F128 F129 F130 F131 A87 nffv0 nffv1 nffv2 nffv3 nffv4 hc0 hc5 hk0 hk1) (by decide) 0 rfl (by decide) rfl (lenOf pd_7 rfl) rfl rfl (by decide) (by decide) fun v188 T185 h187 X186 Q189 => ?_
      obtain ⟨u1, u2, u3, rfl, Kk, Ek, Fk0, Fk1, Fk2, Fk3⟩ := Q189
      have A59 := A59.keep Kk (ninS ne_b54_b110 nin0)
      show own_Go p e below _ (T185.setTop (mkF m 177 #[.val (.long p0), .second, .val (.long p1), .second, .val (.int p2), .val (.int p3), .val (.int p4), .val (.ref b54), .val (.ref b82), .val (.int cp), .val (.int (0 : Int32)), .val (.int (5 : Int32)), .val (.ref b110), .val (.int kk)] []))
      exact J177 _ _ _ _ _ _ (X186.more (by decide) (by decide)) Ek Fk0 Fk1 Fk2 Fk3 A59 (Or.inr ⟨_, rfl⟩)
  · rw [hs]
    show own_Go p e below _ (T106.setTop (mkF m 126 #[.val (.long p0), .second, .val (.long p1), .second, .val (.int p2), .val (.int p3), .val (.int p4), .val (.ref b54), .val (.ref b82), .val (.int cp), .val (.int (1 : Int32)), .unset, .unset, .unset] []))
    refine o_iconst cx X107 (z := (5 : Int32)) at_126 rfl ?_
    refine o_iload cx X107 at_127 rfl ?_
    refine o_isub cx X107 (z := (4 : Int32)) at_129 rfl ?_
    refine o_istore cx X107 (Ls' := #[.val (.long p0), .second, .val (.long p1), .second, .val (.int p2), .val (.int p3), .val (.int p4), .val (.ref b54), .val (.ref b82), .val (.int cp), .val (.int (1 : Int32)), .val (.int (4 : Int32)), .unset, .unset]) at_130 rfl ?_
    refine o_newO cx X107 at_132 (o_w hw 2 rfl) (o_w hw 3 rfl) (o_w hw 4 rfl) (by decide) (by decide) fun T191 h193 b190 gb197 ge198 X192 E194 A195 D196 => ?_
    have ne_b54_b190 : b54 ≠ b190 := by rw [gb197]; exact Nat.ne_of_lt A59.lt
    have ne_b82_b190 : b82 ≠ b190 := by rw [gb197]; exact Nat.ne_of_lt A87.lt
    have A59 := A59.ext E194
    have A87 := A87.ext E194
    have F_b190_pattern : Fld Z h193 b190 "com/example/needlewise/needlewise/Carry" "pattern" "[B" .null := D196 (Or.inr (o_w hw 12 rfl)) (ty := (.array .byte)) (by decide)
    have F_b190_capacity : Fld Z h193 b190 "com/example/needlewise/needlewise/Carry" "capacity" "I" (.int (0 : Int32)) := D196 (Or.inr (o_w hw 14 rfl)) (ty := .int) (by decide)
    have F_b190_held : Fld Z h193 b190 "com/example/needlewise/needlewise/Carry" "held" "[B" .null := D196 (Or.inl (o_w hw 21 rfl)) (ty := (.array .byte)) (by decide)
    have F_b190_offset : Fld Z h193 b190 "com/example/needlewise/needlewise/Carry" "offset" "I" (.int (0 : Int32)) := D196 (Or.inl (o_w hw 23 rfl)) (ty := .int) (by decide)
    have F_b190_count : Fld Z h193 b190 "com/example/needlewise/needlewise/Carry" "count" "I" (.int (0 : Int32)) := D196 (Or.inl (o_w hw 25 rfl)) (ty := .int) (by decide)
    have F_b190_seam : Fld Z h193 b190 "com/example/needlewise/needlewise/Carry" "seam" "[B" .null := D196 (Or.inl (o_w hw 47 rfl)) (ty := (.array .byte)) (by decide)
    refine o_dup cx X192 at_135 rfl ?_
    refine o_aload cx X192 at_136 rfl rfl ?_
    refine o_iload cx X192 at_138 rfl ?_
    refine o_callC cx X192 (y' := (⟨"com/example/needlewise/needlewise/Carry", "<init>", "([BI)V"⟩ : MethodName)) (argsL := [(.ref b54), (.int cp)]) (st := [(.ref b190)]) (a := b190) at_140 (o_w hw 5 rfl) (o_w hw 6 rfl) (o_w hw 4 rfl) (o_w hw 7 rfl) (by decide) rfl (ra1_1 l Z a0 hw b190 b54 cp pv0 pv1 pv2 pv3 pv4 h193 n0 X192.ge0 ge198 ge61 (Ne.symm ne_b54_b190) A195 F_b190_pattern F_b190_capacity F_b190_held F_b190_offset F_b190_count F_b190_seam A59) (by decide) 1 rfl (by decide) rfl (lenOf pd_1 rfl) rfl rfl (by decide) (by decide) fun v202 T199 h201 X200 Q203 => ?_
    obtain ⟨rfl, K204, E205, F206, F207, F208, F209, F210, F211⟩ := Q203
    have A59 := A59.keep K204 (ninS ne_b54_b190 nin0)
    have A87 := A87.keep K204 (ninS ne_b82_b190 nin0)
    show own_Go p e below _ (T199.setTop (mkF m 143 #[.val (.long p0), .second, .val (.long p1), .second, .val (.int p2), .val (.int p3), .val (.int p4), .val (.ref b54), .val (.ref b82), .val (.int cp), .val (.int (1 : Int32)), .val (.int (4 : Int32)), .unset, .unset] [(.ref b190)]))
    refine o_astore cx X200 (Ls' := #[.val (.long p0), .second, .val (.long p1), .second, .val (.int p2), .val (.int p3), .val (.int p4), .val (.ref b54), .val (.ref b82), .val (.int cp), .val (.int (1 : Int32)), .val (.int (4 : Int32)), .val (.ref b190), .unset]) at_143 rfl rfl ?_
    have J177 : ∀ (Tj : State) (hj : Heap) (sl : Slot) (u1 u2 u3 : Value), own_Sd p l e room_1 s m #[(.long p0), (.long p1), (.int p2), (.int p3), (.int p4)] below meth c n0 Tj hj 4 21 → Exa Z hj b190 "com/example/needlewise/needlewise/Carry" → Fld Z hj b190 "com/example/needlewise/needlewise/Carry" "pattern" "[B" (.ref b54) → Fld Z hj b190 "com/example/needlewise/needlewise/Carry" "held" "[B" u1 → Fld Z hj b190 "com/example/needlewise/needlewise/Carry" "offset" "I" u2 → Fld Z hj b190 "com/example/needlewise/needlewise/Carry" "count" "I" u3 → own_Ar Z hj b54 .byte [(.int pv0), (.int pv1), (.int pv2), (.int pv3), (.int pv4)] → (sl = .unset ∨ ∃ q : Int32, sl = .val (.int q)) → own_Go p e below (own_End below s room_1 n0 (fun v' _ => v' = some (.int 1))) (Tj.setTop (mkF m 177 #[.val (.long p0), .second, .val (.long p1), .second, .val (.int p2), .val (.int p3), .val (.int p4), .val (.ref b54), .val (.ref b82), .val (.int cp), .val (.int (1 : Int32)), .val (.int (4 : Int32)), .val (.ref b190), sl] [])) := by
      intro Tj hj sl u1 u2 u3 Xj Ej Fj0 Fj1 Fj2 Fj3 Aj hsl
      rcases hsl with rfl | ⟨qs, rfl⟩
      · show own_Go p e below _ (Tj.setTop (mkF m 177 #[.val (.long p0), .second, .val (.long p1), .second, .val (.int p2), .val (.int p3), .val (.int p4), .val (.ref b54), .val (.ref b82), .val (.int cp), .val (.int (1 : Int32)), .val (.int (4 : Int32)), .val (.ref b190), .unset] []))
        refine o_aload cx Xj at_177 rfl rfl ?_
        refine o_iload cx Xj at_179 rfl ?_
        refine o_callV cx Xj (y' := (⟨"com/example/needlewise/needlewise/Carry", "keepPattern", "(I)V"⟩ : MethodName)) (argsL := [(.int (4 : Int32))]) (st := []) (a := b190) at_181 (o_w hw 15 rfl) (o_w hw 16 rfl) (o_w hw 18 rfl) (o_w hw 17 rfl) (o_w hw 4 rfl) (o_w hw 19 rfl) (by decide) Ej (ra3_6 l Z a0 hw b190 b54 u1 u2 u3 pv0 pv1 pv2 pv3 pv4 hj n0 Xj.ge0 ge198 ge61 (Ne.symm ne_b54_b190) Ej Fj0 Fj1 Fj2 Fj3 Aj) (by decide) 0 rfl (by decide) rfl (lenOf pd_3 rfl) rfl rfl (by decide) (by decide) fun v215 T212 h214 X213 Q216 => ?_
        obtain ⟨rfl, K217, E218, F219, F220, F221, F222⟩ := Q216
        have Aj := Aj.keep K217 (ninS ne_b54_b190 nin0)
        show own_Go p e below _ (T212.setTop (mkF m 184 #[.val (.long p0), .second, .val (.long p1), .second, .val (.int p2), .val (.int p3), .val (.int p4), .val (.ref b54), .val (.ref b82), .val (.int cp), .val (.int (1 : Int32)), .val (.int (4 : Int32)), .val (.ref b190), .unset] []))
        refine o_aload cx X213 at_184 rfl rfl ?_
        refine o_callVp cx X213 (y' := (⟨"com/example/needlewise/needlewise/Carry", "array", "()[B"⟩ : MethodName)) (argsL := []) (st := []) (a := b190) at_186 (o_w hw 26 rfl) (o_w hw 27 rfl) (o_w hw 29 rfl) (o_w hw 28 rfl) (o_w hw 4 rfl) (o_w hw 30 rfl) (by decide) E218 (ra4_7 l Z a0 hw b190 b54 pv0 pv1 pv2 pv3 pv4 h214 n0 X213.ge0 ge198 ge61 (Ne.symm ne_b54_b190) E218 F219 F220 F221 F222 Aj) (by decide) 0 rfl (by decide) rfl (lenOf pd_4 rfl) rfl rfl (by decide) (by decide) fun T223 X224 => ?_
        show own_Go p e below _ (T223.setTop (mkF m 189 #[.val (.long p0), .second, .val (.long p1), .second, .val (.int p2), .val (.int p3), .val (.int p4), .val (.ref b54), .val (.ref b82), .val (.int cp), .val (.int (1 : Int32)), .val (.int (4 : Int32)), .val (.ref b190), .unset] [(.ref b54)]))
        refine o_aload cx X224 at_189 rfl rfl ?_
        refine o_acmp cx X224 194 true at_191 rfl rfl (decide_eq_true rfl) (by decide) (by decide) ?_
        refine o_aload cx X224 at_194 rfl rfl ?_
        refine o_callVp cx X224 (y' := (⟨"com/example/needlewise/needlewise/Carry", "offset", "()I"⟩ : MethodName)) (argsL := []) (st := []) (a := b190) at_196 (o_w hw 31 rfl) (o_w hw 32 rfl) (o_w hw 34 rfl) (o_w hw 33 rfl) (o_w hw 4 rfl) (o_w hw 35 rfl) (by decide) E218 (ra5_8 l Z a0 hw b190 b54 pv0 pv1 pv2 pv3 pv4 h214 n0 X224.ge0 ge198 ge61 (Ne.symm ne_b54_b190) E218 F219 F220 F221 F222 Aj) (by decide) 0 rfl (by decide) rfl (lenOf pd_5 rfl) rfl rfl (by decide) (by decide) fun T228 X229 => ?_
        show own_Go p e below _ (T228.setTop (mkF m 199 #[.val (.long p0), .second, .val (.long p1), .second, .val (.int p2), .val (.int p3), .val (.int p4), .val (.ref b54), .val (.ref b82), .val (.int cp), .val (.int (1 : Int32)), .val (.int (4 : Int32)), .val (.ref b190), .unset] [(.int (4 : Int32))]))
        refine o_iload cx X229 at_199 rfl ?_
        refine o_icmpNo cx X229 at_201 (by decide) ?_
        refine o_aload cx X229 at_204 rfl rfl ?_
        refine o_callVp cx X229 (y' := (⟨"com/example/needlewise/needlewise/Carry", "count", "()I"⟩ : MethodName)) (argsL := []) (st := []) (a := b190) at_206 (o_w hw 36 rfl) (o_w hw 37 rfl) (o_w hw 39 rfl) (o_w hw 38 rfl) (o_w hw 4 rfl) (o_w hw 40 rfl) (by decide) E218 (ra6_9 l Z a0 hw b190 b54 pv0 pv1 pv2 pv3 pv4 h214 n0 X229.ge0 ge198 ge61 (Ne.symm ne_b54_b190) E218 F219 F220 F221 F222 Aj) (by decide) 0 rfl (by decide) rfl (lenOf pd_6 rfl) rfl rfl (by decide) (by decide) fun T233 X234 => ?_
        show own_Go p e below _ (T233.setTop (mkF m 209 #[.val (.long p0), .second, .val (.long p1), .second, .val (.int p2), .val (.int p3), .val (.int p4), .val (.ref b54), .val (.ref b82), .val (.int cp), .val (.int (1 : Int32)), .val (.int (4 : Int32)), .val (.ref b190), .unset] [(.int (1 : Int32))]))
        refine o_iload cx X234 at_209 rfl ?_
        refine o_icmpNo cx X234 at_211 (by decide) ?_
        refine o_iconst cx X234 (z := (1 : Int32)) at_214 rfl ?_
        refine o_goto cx X234 219 at_215 (by decide) (by decide) ?_
        refine o_istore cx X234 (Ls' := #[.val (.long p0), .second, .val (.long p1), .second, .val (.int p2), .val (.int p3), .val (.int p4), .val (.ref b54), .val (.ref b82), .val (.int cp), .val (.int (1 : Int32)), .val (.int (4 : Int32)), .val (.ref b190), .val (.int (1 : Int32))]) at_219 rfl ?_
        refine o_iload cx X234 at_221 rfl ?_
        refine o_ifNo cx X234 at_223 (by decide) ?_
        refine o_iload cx X234 at_226 rfl ?_
        refine o_ifNo cx X234 at_228 (by decide) ?_
        refine o_aload cx X234 at_231 rfl rfl ?_
        refine o_iconst cx X234 (z := (0 : Int32)) at_233 rfl ?_
        refine o_callVp cx X234 (y' := (⟨"com/example/needlewise/needlewise/Carry", "get", "(I)B"⟩ : MethodName)) (argsL := [(.int (0 : Int32))]) (st := []) (a := b190) at_234 (o_w hw 52 rfl) (o_w hw 53 rfl) (o_w hw 55 rfl) (o_w hw 54 rfl) (o_w hw 4 rfl) (o_w hw 56 rfl) (by decide) E218 (ra8_10 l Z a0 hw b190 b54 pv0 pv1 pv2 pv3 pv4 h214 n0 X234.ge0 ge198 ge61 (Ne.symm ne_b54_b190) E218 F219 F220 F221 F222 Aj) (by decide) 0 rfl (by decide) rfl (lenOf pd_8 rfl) rfl rfl (by decide) (by decide) fun T238 X239 => ?_
        show own_Go p e below _ (T238.setTop (mkF m 237 #[.val (.long p0), .second, .val (.long p1), .second, .val (.int p2), .val (.int p3), .val (.int p4), .val (.ref b54), .val (.ref b82), .val (.int cp), .val (.int (1 : Int32)), .val (.int (4 : Int32)), .val (.ref b190), .val (.int (1 : Int32))] [(.int (nar .byte pv4))]))
        refine o_aload cx X239 at_237 rfl rfl ?_
        refine o_iload cx X239 at_239 rfl ?_
        refine o_ldB cx X239 (v := (.int pv4)) at_241 Aj 4 (by decide) rfl rfl ?_
        refine o_icmpNo cx X239 at_242 (teq npv4).2 ?_
        refine o_aload cx X239 at_245 rfl rfl ?_
        refine o_iload cx X239 at_247 rfl ?_
        refine o_iconst cx X239 (z := (1 : Int32)) at_249 rfl ?_
        refine o_isub cx X239 (z := (0 : Int32)) at_250 rfl ?_
        refine o_callVp cx X239 (y' := (⟨"com/example/needlewise/needlewise/Carry", "get", "(I)B"⟩ : MethodName)) (argsL := [(.int (0 : Int32))]) (st := []) (a := b190) at_251 (o_w hw 52 rfl) (o_w hw 53 rfl) (o_w hw 55 rfl) (o_w hw 54 rfl) (o_w hw 4 rfl) (o_w hw 56 rfl) (by decide) E218 (ra8_10 l Z a0 hw b190 b54 pv0 pv1 pv2 pv3 pv4 h214 n0 X239.ge0 ge198 ge61 (Ne.symm ne_b54_b190) E218 F219 F220 F221 F222 Aj) (by decide) 0 rfl (by decide) rfl (lenOf pd_8 rfl) rfl rfl (by decide) (by decide) fun T243 X244 => ?_
        show own_Go p e below _ (T243.setTop (mkF m 254 #[.val (.long p0), .second, .val (.long p1), .second, .val (.int p2), .val (.int p3), .val (.int p4), .val (.ref b54), .val (.ref b82), .val (.int cp), .val (.int (1 : Int32)), .val (.int (4 : Int32)), .val (.ref b190), .val (.int (1 : Int32))] [(.int (nar .byte pv4))]))
        refine o_aload cx X244 at_254 rfl rfl ?_
        refine o_iconst cx X244 (z := (4 : Int32)) at_256 rfl ?_
        refine o_ldB cx X244 (v := (.int pv4)) at_257 Aj 4 (by decide) rfl rfl ?_
        refine o_icmpNo cx X244 at_258 (teq npv4).2 ?_
        refine o_iconst cx X244 (z := (1 : Int32)) at_261 rfl ?_
        refine o_goto cx X244 266 at_262 (by decide) (by decide) ?_
        refine o_istore cx X244 (Ls' := #[.val (.long p0), .second, .val (.long p1), .second, .val (.int p2), .val (.int p3), .val (.int p4), .val (.ref b54), .val (.ref b82), .val (.int cp), .val (.int (1 : Int32)), .val (.int (4 : Int32)), .val (.ref b190), .val (.int (1 : Int32))]) at_266 rfl ?_
        refine o_iload cx X244 at_268 rfl ?_
        exact o_retN cx X244 (z' := (1 : Int32)) at_270 (by simp) rfl rfl (by decide) (by decide)
      · show own_Go p e below _ (Tj.setTop (mkF m 177 #[.val (.long p0), .second, .val (.long p1), .second, .val (.int p2), .val (.int p3), .val (.int p4), .val (.ref b54), .val (.ref b82), .val (.int cp), .val (.int (1 : Int32)), .val (.int (4 : Int32)), .val (.ref b190), .val (.int qs)] []))
        refine o_aload cx Xj at_177 rfl rfl ?_
        refine o_iload cx Xj at_179 rfl ?_
        refine o_callV cx Xj (y' := (⟨"com/example/needlewise/needlewise/Carry", "keepPattern", "(I)V"⟩ : MethodName)) (argsL := [(.int (4 : Int32))]) (st := []) (a := b190) at_181 (o_w hw 15 rfl) (o_w hw 16 rfl) (o_w hw 18 rfl) (o_w hw 17 rfl) (o_w hw 4 rfl) (o_w hw 19 rfl) (by decide) Ej (ra3_6 l Z a0 hw b190 b54 u1 u2 u3 pv0 pv1 pv2 pv3 pv4 hj n0 Xj.ge0 ge198 ge61 (Ne.symm ne_b54_b190) Ej Fj0 Fj1 Fj2 Fj3 Aj) (by decide) 0 rfl (by decide) rfl (lenOf pd_3 rfl) rfl rfl (by decide) (by decide) fun v251 T248 h250 X249 Q252 => ?_
        obtain ⟨rfl, K253, E254, F255, F256, F257, F258⟩ := Q252
        have Aj := Aj.keep K253 (ninS ne_b54_b190 nin0)
        show own_Go p e below _ (T248.setTop (mkF m 184 #[.val (.long p0), .second, .val (.long p1), .second, .val (.int p2), .val (.int p3), .val (.int p4), .val (.ref b54), .val (.ref b82), .val (.int cp), .val (.int (1 : Int32)), .val (.int (4 : Int32)), .val (.ref b190), .val (.int qs)] []))
        refine o_aload cx X249 at_184 rfl rfl ?_
        refine o_callVp cx X249 (y' := (⟨"com/example/needlewise/needlewise/Carry", "array", "()[B"⟩ : MethodName)) (argsL := []) (st := []) (a := b190) at_186 (o_w hw 26 rfl) (o_w hw 27 rfl) (o_w hw 29 rfl) (o_w hw 28 rfl) (o_w hw 4 rfl) (o_w hw 30 rfl) (by decide) E254 (ra4_7 l Z a0 hw b190 b54 pv0 pv1 pv2 pv3 pv4 h250 n0 X249.ge0 ge198 ge61 (Ne.symm ne_b54_b190) E254 F255 F256 F257 F258 Aj) (by decide) 0 rfl (by decide) rfl (lenOf pd_4 rfl) rfl rfl (by decide) (by decide) fun T259 X260 => ?_
        show own_Go p e below _ (T259.setTop (mkF m 189 #[.val (.long p0), .second, .val (.long p1), .second, .val (.int p2), .val (.int p3), .val (.int p4), .val (.ref b54), .val (.ref b82), .val (.int cp), .val (.int (1 : Int32)), .val (.int (4 : Int32)), .val (.ref b190), .val (.int qs)] [(.ref b54)]))
        refine o_aload cx X260 at_189 rfl rfl ?_
        refine o_acmp cx X260 194 true at_191 rfl rfl (decide_eq_true rfl) (by decide) (by decide) ?_
        refine o_aload cx X260 at_194 rfl rfl ?_
        refine o_callVp cx X260 (y' := (⟨"com/example/needlewise/needlewise/Carry", "offset", "()I"⟩ : MethodName)) (argsL := []) (st := []) (a := b190) at_196 (o_w hw 31 rfl) (o_w hw 32 rfl) (o_w hw 34 rfl) (o_w hw 33 rfl) (o_w hw 4 rfl) (o_w hw 35 rfl) (by decide) E254 (ra5_8 l Z a0 hw b190 b54 pv0 pv1 pv2 pv3 pv4 h250 n0 X260.ge0 ge198 ge61 (Ne.symm ne_b54_b190) E254 F255 F256 F257 F258 Aj) (by decide) 0 rfl (by decide) rfl (lenOf pd_5 rfl) rfl rfl (by decide) (by decide) fun T264 X265 => ?_
        show own_Go p e below _ (T264.setTop (mkF m 199 #[.val (.long p0), .second, .val (.long p1), .second, .val (.int p2), .val (.int p3), .val (.int p4), .val (.ref b54), .val (.ref b82), .val (.int cp), .val (.int (1 : Int32)), .val (.int (4 : Int32)), .val (.ref b190), .val (.int qs)] [(.int (4 : Int32))]))
        refine o_iload cx X265 at_199 rfl ?_
        refine o_icmpNo cx X265 at_201 (by decide) ?_
        refine o_aload cx X265 at_204 rfl rfl ?_
        refine o_callVp cx X265 (y' := (⟨"com/example/needlewise/needlewise/Carry", "count", "()I"⟩ : MethodName)) (argsL := []) (st := []) (a := b190) at_206 (o_w hw 36 rfl) (o_w hw 37 rfl) (o_w hw 39 rfl) (o_w hw 38 rfl) (o_w hw 4 rfl) (o_w hw 40 rfl) (by decide) E254 (ra6_9 l Z a0 hw b190 b54 pv0 pv1 pv2 pv3 pv4 h250 n0 X265.ge0 ge198 ge61 (Ne.symm ne_b54_b190) E254 F255 F256 F257 F258 Aj) (by decide) 0 rfl (by decide) rfl (lenOf pd_6 rfl) rfl rfl (by decide) (by decide) fun T269 X270 => ?_
        show own_Go p e below _ (T269.setTop (mkF m 209 #[.val (.long p0), .second, .val (.long p1), .second, .val (.int p2), .val (.int p3), .val (.int p4), .val (.ref b54), .val (.ref b82), .val (.int cp), .val (.int (1 : Int32)), .val (.int (4 : Int32)), .val (.ref b190), .val (.int qs)] [(.int (1 : Int32))]))
        refine o_iload cx X270 at_209 rfl ?_
        refine o_icmpNo cx X270 at_211 (by decide) ?_
        refine o_iconst cx X270 (z := (1 : Int32)) at_214 rfl ?_
        refine o_goto cx X270 219 at_215 (by decide) (by decide) ?_
        refine o_istore cx X270 (Ls' := #[.val (.long p0), .second, .val (.long p1), .second, .val (.int p2), .val (.int p3), .val (.int p4), .val (.ref b54), .val (.ref b82), .val (.int cp), .val (.int (1 : Int32)), .val (.int (4 : Int32)), .val (.ref b190), .val (.int (1 : Int32))]) at_219 rfl ?_
        refine o_iload cx X270 at_221 rfl ?_
        refine o_ifNo cx X270 at_223 (by decide) ?_
        refine o_iload cx X270 at_226 rfl ?_
        refine o_ifNo cx X270 at_228 (by decide) ?_
        refine o_aload cx X270 at_231 rfl rfl ?_
        refine o_iconst cx X270 (z := (0 : Int32)) at_233 rfl ?_
        refine o_callVp cx X270 (y' := (⟨"com/example/needlewise/needlewise/Carry", "get", "(I)B"⟩ : MethodName)) (argsL := [(.int (0 : Int32))]) (st := []) (a := b190) at_234 (o_w hw 52 rfl) (o_w hw 53 rfl) (o_w hw 55 rfl) (o_w hw 54 rfl) (o_w hw 4 rfl) (o_w hw 56 rfl) (by decide) E254 (ra8_10 l Z a0 hw b190 b54 pv0 pv1 pv2 pv3 pv4 h250 n0 X270.ge0 ge198 ge61 (Ne.symm ne_b54_b190) E254 F255 F256 F257 F258 Aj) (by decide) 0 rfl (by decide) rfl (lenOf pd_8 rfl) rfl rfl (by decide) (by decide) fun T274 X275 => ?_
        show own_Go p e below _ (T274.setTop (mkF m 237 #[.val (.long p0), .second, .val (.long p1), .second, .val (.int p2), .val (.int p3), .val (.int p4), .val (.ref b54), .val (.ref b82), .val (.int cp), .val (.int (1 : Int32)), .val (.int (4 : Int32)), .val (.ref b190), .val (.int (1 : Int32))] [(.int (nar .byte pv4))]))
        refine o_aload cx X275 at_237 rfl rfl ?_
        refine o_iload cx X275 at_239 rfl ?_
        refine o_ldB cx X275 (v := (.int pv4)) at_241 Aj 4 (by decide) rfl rfl ?_
        refine o_icmpNo cx X275 at_242 (teq npv4).2 ?_
        refine o_aload cx X275 at_245 rfl rfl ?_
        refine o_iload cx X275 at_247 rfl ?_
        refine o_iconst cx X275 (z := (1 : Int32)) at_249 rfl ?_
        refine o_isub cx X275 (z := (0 : Int32)) at_250 rfl ?_
        refine o_callVp cx X275 (y' := (⟨"com/example/needlewise/needlewise/Carry", "get", "(I)B"⟩ : MethodName)) (argsL := [(.int (0 : Int32))]) (st := []) (a := b190) at_251 (o_w hw 52 rfl) (o_w hw 53 rfl) (o_w hw 55 rfl) (o_w hw 54 rfl) (o_w hw 4 rfl) (o_w hw 56 rfl) (by decide) E254 (ra8_10 l Z a0 hw b190 b54 pv0 pv1 pv2 pv3 pv4 h250 n0 X275.ge0 ge198 ge61 (Ne.symm ne_b54_b190) E254 F255 F256 F257 F258 Aj) (by decide) 0 rfl (by decide) rfl (lenOf pd_8 rfl) rfl rfl (by decide) (by decide) fun T279 X280 => ?_
        show own_Go p e below _ (T279.setTop (mkF m 254 #[.val (.long p0), .second, .val (.long p1), .second, .val (.int p2), .val (.int p3), .val (.int p4), .val (.ref b54), .val (.ref b82), .val (.int cp), .val (.int (1 : Int32)), .val (.int (4 : Int32)), .val (.ref b190), .val (.int (1 : Int32))] [(.int (nar .byte pv4))]))
        refine o_aload cx X280 at_254 rfl rfl ?_
        refine o_iconst cx X280 (z := (4 : Int32)) at_256 rfl ?_
        refine o_ldB cx X280 (v := (.int pv4)) at_257 Aj 4 (by decide) rfl rfl ?_
        refine o_icmpNo cx X280 at_258 (teq npv4).2 ?_
        refine o_iconst cx X280 (z := (1 : Int32)) at_261 rfl ?_
        refine o_goto cx X280 266 at_262 (by decide) (by decide) ?_
        refine o_istore cx X280 (Ls' := #[.val (.long p0), .second, .val (.long p1), .second, .val (.int p2), .val (.int p3), .val (.int p4), .val (.ref b54), .val (.ref b82), .val (.int cp), .val (.int (1 : Int32)), .val (.int (4 : Int32)), .val (.ref b190), .val (.int (1 : Int32))]) at_266 rfl ?_
        refine o_iload cx X280 at_268 rfl ?_
        exact o_retN cx X280 (z' := (1 : Int32)) at_270 (by simp) rfl rfl (by decide) (by decide)
    refine o_iload cx X200 at_145 rfl ?_
    refine o_iconst cx X200 (z := (1 : Int32)) at_147 rfl ?_
    refine o_iand cx X200 at_148 rfl ?_
    by_cases hc284 : (p4 &&& (1 : Int32)) = (0 : Int32)
    · refine o_ifYes cx X200 177 at_149 ((if0 _ _).trans (teq hc284).1) (by decide) (by decide) ?_
      exact J177 _ _ _ _ _ _ (X200.more (by decide) (by decide)) E205 F206 F208 F209 F210 A59 (Or.inl rfl)
    · refine o_ifNo cx X200 at_149 ((if0 _ _).trans (feq hc284).1) ?_
      refine o_iload cx X200 at_152 rfl ?_
      refine o_iconst cx X200 (z := (1 : Int32)) at_154 rfl ?_
      refine o_iushr cx X200 at_155 rfl ?_
      refine o_ldc cx X200 (z := (2147483647 : Int32)) at_156 (o_w hw 1 rfl) ?_
      refine o_iand cx X200 at_158 rfl ?_
      refine o_iload cx X200 at_159 rfl ?_
      refine o_iconst cx X200 (z := (1 : Int32)) at_161 rfl ?_
      refine o_iadd cx X200 at_162 rfl ?_
      refine o_irem cx X200 at_163 (own_nz hc0 hc5) rfl ?_
      refine o_istore cx X200 (Ls' := #[.val (.long p0), .second, .val (.long p1), .second, .val (.int p2), .val (.int p3), .val (.int p4), .val (.ref b54), .val (.ref b82), .val (.int cp), .val (.int (1 : Int32)), .val (.int (4 : Int32)), .val (.ref b190), .val (.int ((((p4.toUInt32 >>> ((1 : Int32) &&& 31).toUInt32).toInt32) &&& (2147483647 : Int32)) % (cp + (1 : Int32))))]) at_164 rfl ?_
      obtain ⟨hk0, hk1⟩ := own_rq ((p4.toUInt32 >>> ((1 : Int32) &&& 31).toUInt32).toInt32) cp hc0 hc5
      obtain ⟨kk, ekk⟩ : ∃ z : Int32, z = ((((p4.toUInt32 >>> ((1 : Int32) &&& 31).toUInt32).toInt32) &&& (2147483647 : Int32)) % (cp + (1 : Int32))) := ⟨_, rfl⟩
      rw [← ekk] at hk0 hk1 ⊢
      show own_Go p e below _ (T199.setTop (mkF m 166 #[.val (.long p0), .second, .val (.long p1), .second, .val (.int p2), .val (.int p3), .val (.int p4), .val (.ref b54), .val (.ref b82), .val (.int cp), .val (.int (1 : Int32)), .val (.int (4 : Int32)), .val (.ref b190), .val (.int kk)] []))
      refine o_aload cx X200 at_166 rfl rfl ?_
      refine o_iconst cx X200 (z := (0 : Int32)) at_168 rfl ?_
      refine o_aload cx X200 at_169 rfl rfl ?_
      refine o_iconst cx X200 (z := (0 : Int32)) at_171 rfl ?_
      refine o_iload cx X200 at_172 rfl ?_
      refine o_callV cx X200 (y' := (⟨"com/example/needlewise/needlewise/Carry", "keep", "(I[BII)V"⟩ : MethodName)) (argsL := [(.int (0 : Int32)), (.ref b82), (.int (0 : Int32)), (.int kk)]) (st := []) (a := b190) at_174 (o_w hw 41 rfl) (o_w hw 42 rfl) (o_w hw 44 rfl) (o_w hw 43 rfl) (o_w hw 4 rfl) (o_w hw 45 rfl) (by decide) E205 (rkeep l Z a0 hw b190 b82 b54 cp kk fv0 fv1 fv2 fv3 fv4 h201 n0 X200.ge0 ge198 ge89 (Ne.symm ne_b82_b190) E205 F206 F207 F208 F209 F210 F211 A87 nffv0 nffv1 nffv2 nffv3 nffv4 hc0 hc5 hk0 hk1) (by decide) 0 rfl (by decide) rfl (lenOf pd_7 rfl) rfl rfl (by decide) (by decide) fun v288 T285 h287 X286 Q289 => ?_
      obtain ⟨u1, u2, u3, rfl, Kk, Ek, Fk0, Fk1, Fk2, Fk3⟩ := Q289
      have A59 := A59.keep Kk (ninS ne_b54_b190 nin0)
      show own_Go p e below _ (T285.setTop (mkF m 177 #[.val (.long p0), .second, .val (.long p1), .second, .val (.int p2), .val (.int p3), .val (.int p4), .val (.ref b54), .val (.ref b82), .val (.int cp), .val (.int (1 : Int32)), .val (.int (4 : Int32)), .val (.ref b190), .val (.int kk)] []))
      exact J177 _ _ _ _ _ _ (X286.more (by decide) (by decide)) Ek Fk0 Fk1 Fk2 Fk3 A59 (Or.inr ⟨_, rfl⟩)
  · rw [hs]
    show own_Go p e below _ (T106.setTop (mkF m 126 #[.val (.long p0), .second, .val (.long p1), .second, .val (.int p2), .val (.int p3), .val (.int p4), .val (.ref b54), .val (.ref b82), .val (.int cp), .val (.int (2 : Int32)), .unset, .unset, .unset] []))
    refine o_iconst cx X107 (z := (5 : Int32)) at_126 rfl ?_
    refine o_iload cx X107 at_127 rfl ?_
    refine o_isub cx X107 (z := (3 : Int32)) at_129 rfl ?_
    refine o_istore cx X107 (Ls' := #[.val (.long p0), .second, .val (.long p1), .second, .val (.int p2), .val (.int p3), .val (.int p4), .val (.ref b54), .val (.ref b82), .val (.int cp), .val (.int (2 : Int32)), .val (.int (3 : Int32)), .unset, .unset]) at_130 rfl ?_
    refine o_newO cx X107 at_132 (o_w hw 2 rfl) (o_w hw 3 rfl) (o_w hw 4 rfl) (by decide) (by decide) fun T291 h293 b290 gb297 ge298 X292 E294 A295 D296 => ?_
    have ne_b54_b290 : b54 ≠ b290 := by rw [gb297]; exact Nat.ne_of_lt A59.lt
    have ne_b82_b290 : b82 ≠ b290 := by rw [gb297]; exact Nat.ne_of_lt A87.lt
    have A59 := A59.ext E294
    have A87 := A87.ext E294
    have F_b290_pattern : Fld Z h293 b290 "com/example/needlewise/needlewise/Carry" "pattern" "[B" .null := D296 (Or.inr (o_w hw 12 rfl)) (ty := (.array .byte)) (by decide)
    have F_b290_capacity : Fld Z h293 b290 "com/example/needlewise/needlewise/Carry" "capacity" "I" (.int (0 : Int32)) := D296 (Or.inr (o_w hw 14 rfl)) (ty := .int) (by decide)
    have F_b290_held : Fld Z h293 b290 "com/example/needlewise/needlewise/Carry" "held" "[B" .null := D296 (Or.inl (o_w hw 21 rfl)) (ty := (.array .byte)) (by decide)
    have F_b290_offset : Fld Z h293 b290 "com/example/needlewise/needlewise/Carry" "offset" "I" (.int (0 : Int32)) := D296 (Or.inl (o_w hw 23 rfl)) (ty := .int) (by decide)
    have F_b290_count : Fld Z h293 b290 "com/example/needlewise/needlewise/Carry" "count" "I" (.int (0 : Int32)) := D296 (Or.inl (o_w hw 25 rfl)) (ty := .int) (by decide)
    have F_b290_seam : Fld Z h293 b290 "com/example/needlewise/needlewise/Carry" "seam" "[B" .null := D296 (Or.inl (o_w hw 47 rfl)) (ty := (.array .byte)) (by decide)
    refine o_dup cx X292 at_135 rfl ?_
    refine o_aload cx X292 at_136 rfl rfl ?_
    refine o_iload cx X292 at_138 rfl ?_
    refine o_callC cx X292 (y' := (⟨"com/example/needlewise/needlewise/Carry", "<init>", "([BI)V"⟩ : MethodName)) (argsL := [(.ref b54), (.int cp)]) (st := [(.ref b290)]) (a := b290) at_140 (o_w hw 5 rfl) (o_w hw 6 rfl) (o_w hw 4 rfl) (o_w hw 7 rfl) (by decide) rfl (ra1_1 l Z a0 hw b290 b54 cp pv0 pv1 pv2 pv3 pv4 h293 n0 X292.ge0 ge298 ge61 (Ne.symm ne_b54_b290) A295 F_b290_pattern F_b290_capacity F_b290_held F_b290_offset F_b290_count F_b290_seam A59) (by decide) 1 rfl (by decide) rfl (lenOf pd_1 rfl) rfl rfl (by decide) (by decide) fun v302 T299 h301 X300 Q303 => ?_
    obtain ⟨rfl, K304, E305, F306, F307, F308, F309, F310, F311⟩ := Q303
    have A59 := A59.keep K304 (ninS ne_b54_b290 nin0)
    have A87 := A87.keep K304 (ninS ne_b82_b290 nin0)
    show own_Go p e below _ (T299.setTop (mkF m 143 #[.val (.long p0), .second, .val (.long p1), .second, .val (.int p2), .val (.int p3), .val (.int p4), .val (.ref b54), .val (.ref b82), .val (.int cp), .val (.int (2 : Int32)), .val (.int (3 : Int32)), .unset, .unset] [(.ref b290)]))
    refine o_astore cx X300 (Ls' := #[.val (.long p0), .second, .val (.long p1), .second, .val (.int p2), .val (.int p3), .val (.int p4), .val (.ref b54), .val (.ref b82), .val (.int cp), .val (.int (2 : Int32)), .val (.int (3 : Int32)), .val (.ref b290), .unset]) at_143 rfl rfl ?_
    have J177 : ∀ (Tj : State) (hj : Heap) (sl : Slot) (u1 u2 u3 : Value), own_Sd p l e room_1 s m #[(.long p0), (.long p1), (.int p2), (.int p3), (.int p4)] below meth c n0 Tj hj 4 21 → Exa Z hj b290 "com/example/needlewise/needlewise/Carry" → Fld Z hj b290 "com/example/needlewise/needlewise/Carry" "pattern" "[B" (.ref b54) → Fld Z hj b290 "com/example/needlewise/needlewise/Carry" "held" "[B" u1 → Fld Z hj b290 "com/example/needlewise/needlewise/Carry" "offset" "I" u2 → Fld Z hj b290 "com/example/needlewise/needlewise/Carry" "count" "I" u3 → own_Ar Z hj b54 .byte [(.int pv0), (.int pv1), (.int pv2), (.int pv3), (.int pv4)] → (sl = .unset ∨ ∃ q : Int32, sl = .val (.int q)) → own_Go p e below (own_End below s room_1 n0 (fun v' _ => v' = some (.int 1))) (Tj.setTop (mkF m 177 #[.val (.long p0), .second, .val (.long p1), .second, .val (.int p2), .val (.int p3), .val (.int p4), .val (.ref b54), .val (.ref b82), .val (.int cp), .val (.int (2 : Int32)), .val (.int (3 : Int32)), .val (.ref b290), sl] [])) := by
      intro Tj hj sl u1 u2 u3 Xj Ej Fj0 Fj1 Fj2 Fj3 Aj hsl
      rcases hsl with rfl | ⟨qs, rfl⟩
      · show own_Go p e below _ (Tj.setTop (mkF m 177 #[.val (.long p0), .second, .val (.long p1), .second, .val (.int p2), .val (.int p3), .val (.int p4), .val (.ref b54), .val (.ref b82), .val (.int cp), .val (.int (2 : Int32)), .val (.int (3 : Int32)), .val (.ref b290), .unset] []))
        refine o_aload cx Xj at_177 rfl rfl ?_
        refine o_iload cx Xj at_179 rfl ?_
        refine o_callV cx Xj (y' := (⟨"com/example/needlewise/needlewise/Carry", "keepPattern", "(I)V"⟩ : MethodName)) (argsL := [(.int (3 : Int32))]) (st := []) (a := b290) at_181 (o_w hw 15 rfl) (o_w hw 16 rfl) (o_w hw 18 rfl) (o_w hw 17 rfl) (o_w hw 4 rfl) (o_w hw 19 rfl) (by decide) Ej (ra3_11 l Z a0 hw b290 b54 u1 u2 u3 pv0 pv1 pv2 pv3 pv4 hj n0 Xj.ge0 ge298 ge61 (Ne.symm ne_b54_b290) Ej Fj0 Fj1 Fj2 Fj3 Aj) (by decide) 0 rfl (by decide) rfl (lenOf pd_3 rfl) rfl rfl (by decide) (by decide) fun v315 T312 h314 X313 Q316 => ?_
        obtain ⟨rfl, K317, E318, F319, F320, F321, F322⟩ := Q316
        have Aj := Aj.keep K317 (ninS ne_b54_b290 nin0)
        show own_Go p e below _ (T312.setTop (mkF m 184 #[.val (.long p0), .second, .val (.long p1), .second, .val (.int p2), .val (.int p3), .val (.int p4), .val (.ref b54), .val (.ref b82), .val (.int cp), .val (.int (2 : Int32)), .val (.int (3 : Int32)), .val (.ref b290), .unset] []))
        refine o_aload cx X313 at_184 rfl rfl ?_
        refine o_callVp cx X313 (y' := (⟨"com/example/needlewise/needlewise/Carry", "array", "()[B"⟩ : MethodName)) (argsL := []) (st := []) (a := b290) at_186 (o_w hw 26 rfl) (o_w hw 27 rfl) (o_w hw 29 rfl) (o_w hw 28 rfl) (o_w hw 4 rfl) (o_w hw 30 rfl) (by decide) E318 (ra4_12 l Z a0 hw b290 b54 pv0 pv1 pv2 pv3 pv4 h314 n0 X313.ge0 ge298 ge61 (Ne.symm ne_b54_b290) E318 F319 F320 F321 F322 Aj) (by decide) 0 rfl (by decide) rfl (lenOf pd_4 rfl) rfl rfl (by decide) (by decide) fun T323 X324 => ?_
        show own_Go p e below _ (T323.setTop (mkF m 189 #[.val (.long p0), .second, .val (.long p1), .second, .val (.int p2), .val (.int p3), .val (.int p4), .val (.ref b54), .val (.ref b82), .val (.int cp), .val (.int (2 : Int32)), .val (.int (3 : Int32)), .val (.ref b290), .unset] [(.ref b54)]))
        refine o_aload cx X324 at_189 rfl rfl ?_
        refine o_acmp cx X324 194 true at_191 rfl rfl (decide_eq_true rfl) (by decide) (by decide) ?_
        refine o_aload cx X324 at_194 rfl rfl ?_
        refine o_callVp cx X324 (y' := (⟨"com/example/needlewise/needlewise/Carry", "offset", "()I"⟩ : MethodName)) (argsL := []) (st := []) (a := b290) at_196 (o_w hw 31 rfl) (o_w hw 32 rfl) (o_w hw 34 rfl) (o_w hw 33 rfl) (o_w hw 4 rfl) (o_w hw 35 rfl) (by decide) E318 (ra5_13 l Z a0 hw b290 b54 pv0 pv1 pv2 pv3 pv4 h314 n0 X324.ge0 ge298 ge61 (Ne.symm ne_b54_b290) E318 F319 F320 F321 F322 Aj) (by decide) 0 rfl (by decide) rfl (lenOf pd_5 rfl) rfl rfl (by decide) (by decide) fun T328 X329 => ?_
        show own_Go p e below _ (T328.setTop (mkF m 199 #[.val (.long p0), .second, .val (.long p1), .second, .val (.int p2), .val (.int p3), .val (.int p4), .val (.ref b54), .val (.ref b82), .val (.int cp), .val (.int (2 : Int32)), .val (.int (3 : Int32)), .val (.ref b290), .unset] [(.int (3 : Int32))]))
        refine o_iload cx X329 at_199 rfl ?_
        refine o_icmpNo cx X329 at_201 (by decide) ?_
        refine o_aload cx X329 at_204 rfl rfl ?_
        refine o_callVp cx X329 (y' := (⟨"com/example/needlewise/needlewise/Carry", "count", "()I"⟩ : MethodName)) (argsL := []) (st := []) (a := b290) at_206 (o_w hw 36 rfl) (o_w hw 37 rfl) (o_w hw 39 rfl) (o_w hw 38 rfl) (o_w hw 4 rfl) (o_w hw 40 rfl) (by decide) E318 (ra6_14 l Z a0 hw b290 b54 pv0 pv1 pv2 pv3 pv4 h314 n0 X329.ge0 ge298 ge61 (Ne.symm ne_b54_b290) E318 F319 F320 F321 F322 Aj) (by decide) 0 rfl (by decide) rfl (lenOf pd_6 rfl) rfl rfl (by decide) (by decide) fun T333 X334 => ?_
        show own_Go p e below _ (T333.setTop (mkF m 209 #[.val (.long p0), .second, .val (.long p1), .second, .val (.int p2), .val (.int p3), .val (.int p4), .val (.ref b54), .val (.ref b82), .val (.int cp), .val (.int (2 : Int32)), .val (.int (3 : Int32)), .val (.ref b290), .unset] [(.int (2 : Int32))]))
        refine o_iload cx X334 at_209 rfl ?_
        refine o_icmpNo cx X334 at_211 (by decide) ?_
        refine o_iconst cx X334 (z := (1 : Int32)) at_214 rfl ?_
        refine o_goto cx X334 219 at_215 (by decide) (by decide) ?_
        refine o_istore cx X334 (Ls' := #[.val (.long p0), .second, .val (.long p1), .second, .val (.int p2), .val (.int p3), .val (.int p4), .val (.ref b54), .val (.ref b82), .val (.int cp), .val (.int (2 : Int32)), .val (.int (3 : Int32)), .val (.ref b290), .val (.int (1 : Int32))]) at_219 rfl ?_
        refine o_iload cx X334 at_221 rfl ?_
        refine o_ifNo cx X334 at_223 (by decide) ?_
        refine o_iload cx X334 at_226 rfl ?_
        refine o_ifNo cx X334 at_228 (by decide) ?_
        refine o_aload cx X334 at_231 rfl rfl ?_
        refine o_iconst cx X334 (z := (0 : Int32)) at_233 rfl ?_
        refine o_callVp cx X334 (y' := (⟨"com/example/needlewise/needlewise/Carry", "get", "(I)B"⟩ : MethodName)) (argsL := [(.int (0 : Int32))]) (st := []) (a := b290) at_234 (o_w hw 52 rfl) (o_w hw 53 rfl) (o_w hw 55 rfl) (o_w hw 54 rfl) (o_w hw 4 rfl) (o_w hw 56 rfl) (by decide) E318 (ra8_15 l Z a0 hw b290 b54 pv0 pv1 pv2 pv3 pv4 h314 n0 X334.ge0 ge298 ge61 (Ne.symm ne_b54_b290) E318 F319 F320 F321 F322 Aj) (by decide) 0 rfl (by decide) rfl (lenOf pd_8 rfl) rfl rfl (by decide) (by decide) fun T338 X339 => ?_
        show own_Go p e below _ (T338.setTop (mkF m 237 #[.val (.long p0), .second, .val (.long p1), .second, .val (.int p2), .val (.int p3), .val (.int p4), .val (.ref b54), .val (.ref b82), .val (.int cp), .val (.int (2 : Int32)), .val (.int (3 : Int32)), .val (.ref b290), .val (.int (1 : Int32))] [(.int (nar .byte pv3))]))
        refine o_aload cx X339 at_237 rfl rfl ?_
        refine o_iload cx X339 at_239 rfl ?_
        refine o_ldB cx X339 (v := (.int pv3)) at_241 Aj 3 (by decide) rfl rfl ?_
        refine o_icmpNo cx X339 at_242 (teq npv3).2 ?_
        refine o_aload cx X339 at_245 rfl rfl ?_
        refine o_iload cx X339 at_247 rfl ?_
        refine o_iconst cx X339 (z := (1 : Int32)) at_249 rfl ?_
        refine o_isub cx X339 (z := (1 : Int32)) at_250 rfl ?_
        refine o_callVp cx X339 (y' := (⟨"com/example/needlewise/needlewise/Carry", "get", "(I)B"⟩ : MethodName)) (argsL := [(.int (1 : Int32))]) (st := []) (a := b290) at_251 (o_w hw 52 rfl) (o_w hw 53 rfl) (o_w hw 55 rfl) (o_w hw 54 rfl) (o_w hw 4 rfl) (o_w hw 56 rfl) (by decide) E318 (ra8_16 l Z a0 hw b290 b54 pv0 pv1 pv2 pv3 pv4 h314 n0 X339.ge0 ge298 ge61 (Ne.symm ne_b54_b290) E318 F319 F320 F321 F322 Aj) (by decide) 0 rfl (by decide) rfl (lenOf pd_8 rfl) rfl rfl (by decide) (by decide) fun T343 X344 => ?_
        show own_Go p e below _ (T343.setTop (mkF m 254 #[.val (.long p0), .second, .val (.long p1), .second, .val (.int p2), .val (.int p3), .val (.int p4), .val (.ref b54), .val (.ref b82), .val (.int cp), .val (.int (2 : Int32)), .val (.int (3 : Int32)), .val (.ref b290), .val (.int (1 : Int32))] [(.int (nar .byte pv4))]))
        refine o_aload cx X344 at_254 rfl rfl ?_
        refine o_iconst cx X344 (z := (4 : Int32)) at_256 rfl ?_
        refine o_ldB cx X344 (v := (.int pv4)) at_257 Aj 4 (by decide) rfl rfl ?_
        refine o_icmpNo cx X344 at_258 (teq npv4).2 ?_
        refine o_iconst cx X344 (z := (1 : Int32)) at_261 rfl ?_
        refine o_goto cx X344 266 at_262 (by decide) (by decide) ?_
        refine o_istore cx X344 (Ls' := #[.val (.long p0), .second, .val (.long p1), .second, .val (.int p2), .val (.int p3), .val (.int p4), .val (.ref b54), .val (.ref b82), .val (.int cp), .val (.int (2 : Int32)), .val (.int (3 : Int32)), .val (.ref b290), .val (.int (1 : Int32))]) at_266 rfl ?_
        refine o_iload cx X344 at_268 rfl ?_
        exact o_retN cx X344 (z' := (1 : Int32)) at_270 (by simp) rfl rfl (by decide) (by decide)
      · show own_Go p e below _ (Tj.setTop (mkF m 177 #[.val (.long p0), .second, .val (.long p1), .second, .val (.int p2), .val (.int p3), .val (.int p4), .val (.ref b54), .val (.ref b82), .val (.int cp), .val (.int (2 : Int32)), .val (.int (3 : Int32)), .val (.ref b290), .val (.int qs)] []))
        refine o_aload cx Xj at_177 rfl rfl ?_
        refine o_iload cx Xj at_179 rfl ?_
        refine o_callV cx Xj (y' := (⟨"com/example/needlewise/needlewise/Carry", "keepPattern", "(I)V"⟩ : MethodName)) (argsL := [(.int (3 : Int32))]) (st := []) (a := b290) at_181 (o_w hw 15 rfl) (o_w hw 16 rfl) (o_w hw 18 rfl) (o_w hw 17 rfl) (o_w hw 4 rfl) (o_w hw 19 rfl) (by decide) Ej (ra3_11 l Z a0 hw b290 b54 u1 u2 u3 pv0 pv1 pv2 pv3 pv4 hj n0 Xj.ge0 ge298 ge61 (Ne.symm ne_b54_b290) Ej Fj0 Fj1 Fj2 Fj3 Aj) (by decide) 0 rfl (by decide) rfl (lenOf pd_3 rfl) rfl rfl (by decide) (by decide) fun v351 T348 h350 X349 Q352 => ?_
        obtain ⟨rfl, K353, E354, F355, F356, F357, F358⟩ := Q352
        have Aj := Aj.keep K353 (ninS ne_b54_b290 nin0)
        show own_Go p e below _ (T348.setTop (mkF m 184 #[.val (.long p0), .second, .val (.long p1), .second, .val (.int p2), .val (.int p3), .val (.int p4), .val (.ref b54), .val (.ref b82), .val (.int cp), .val (.int (2 : Int32)), .val (.int (3 : Int32)), .val (.ref b290), .val (.int qs)] []))
        refine o_aload cx X349 at_184 rfl rfl ?_
        refine o_callVp cx X349 (y' := (⟨"com/example/needlewise/needlewise/Carry", "array", "()[B"⟩ : MethodName)) (argsL := []) (st := []) (a := b290) at_186 (o_w hw 26 rfl) (o_w hw 27 rfl) (o_w hw 29 rfl) (o_w hw 28 rfl) (o_w hw 4 rfl) (o_w hw 30 rfl) (by decide) E354 (ra4_12 l Z a0 hw b290 b54 pv0 pv1 pv2 pv3 pv4 h350 n0 X349.ge0 ge298 ge61 (Ne.symm ne_b54_b290) E354 F355 F356 F357 F358 Aj) (by decide) 0 rfl (by decide) rfl (lenOf pd_4 rfl) rfl rfl (by decide) (by decide) fun T359 X360 => ?_
        show own_Go p e below _ (T359.setTop (mkF m 189 #[.val (.long p0), .second, .val (.long p1), .second, .val (.int p2), .val (.int p3), .val (.int p4), .val (.ref b54), .val (.ref b82), .val (.int cp), .val (.int (2 : Int32)), .val (.int (3 : Int32)), .val (.ref b290), .val (.int qs)] [(.ref b54)]))
        refine o_aload cx X360 at_189 rfl rfl ?_
        refine o_acmp cx X360 194 true at_191 rfl rfl (decide_eq_true rfl) (by decide) (by decide) ?_
        refine o_aload cx X360 at_194 rfl rfl ?_
        refine o_callVp cx X360 (y' := (⟨"com/example/needlewise/needlewise/Carry", "offset", "()I"⟩ : MethodName)) (argsL := []) (st := []) (a := b290) at_196 (o_w hw 31 rfl) (o_w hw 32 rfl) (o_w hw 34 rfl) (o_w hw 33 rfl) (o_w hw 4 rfl) (o_w hw 35 rfl) (by decide) E354 (ra5_13 l Z a0 hw b290 b54 pv0 pv1 pv2 pv3 pv4 h350 n0 X360.ge0 ge298 ge61 (Ne.symm ne_b54_b290) E354 F355 F356 F357 F358 Aj) (by decide) 0 rfl (by decide) rfl (lenOf pd_5 rfl) rfl rfl (by decide) (by decide) fun T364 X365 => ?_
        show own_Go p e below _ (T364.setTop (mkF m 199 #[.val (.long p0), .second, .val (.long p1), .second, .val (.int p2), .val (.int p3), .val (.int p4), .val (.ref b54), .val (.ref b82), .val (.int cp), .val (.int (2 : Int32)), .val (.int (3 : Int32)), .val (.ref b290), .val (.int qs)] [(.int (3 : Int32))]))
        refine o_iload cx X365 at_199 rfl ?_
        refine o_icmpNo cx X365 at_201 (by decide) ?_
        refine o_aload cx X365 at_204 rfl rfl ?_
        refine o_callVp cx X365 (y' := (⟨"com/example/needlewise/needlewise/Carry", "count", "()I"⟩ : MethodName)) (argsL := []) (st := []) (a := b290) at_206 (o_w hw 36 rfl) (o_w hw 37 rfl) (o_w hw 39 rfl) (o_w hw 38 rfl) (o_w hw 4 rfl) (o_w hw 40 rfl) (by decide) E354 (ra6_14 l Z a0 hw b290 b54 pv0 pv1 pv2 pv3 pv4 h350 n0 X365.ge0 ge298 ge61 (Ne.symm ne_b54_b290) E354 F355 F356 F357 F358 Aj) (by decide) 0 rfl (by decide) rfl (lenOf pd_6 rfl) rfl rfl (by decide) (by decide) fun T369 X370 => ?_
        show own_Go p e below _ (T369.setTop (mkF m 209 #[.val (.long p0), .second, .val (.long p1), .second, .val (.int p2), .val (.int p3), .val (.int p4), .val (.ref b54), .val (.ref b82), .val (.int cp), .val (.int (2 : Int32)), .val (.int (3 : Int32)), .val (.ref b290), .val (.int qs)] [(.int (2 : Int32))]))
        refine o_iload cx X370 at_209 rfl ?_
        refine o_icmpNo cx X370 at_211 (by decide) ?_
        refine o_iconst cx X370 (z := (1 : Int32)) at_214 rfl ?_
        refine o_goto cx X370 219 at_215 (by decide) (by decide) ?_
        refine o_istore cx X370 (Ls' := #[.val (.long p0), .second, .val (.long p1), .second, .val (.int p2), .val (.int p3), .val (.int p4), .val (.ref b54), .val (.ref b82), .val (.int cp), .val (.int (2 : Int32)), .val (.int (3 : Int32)), .val (.ref b290), .val (.int (1 : Int32))]) at_219 rfl ?_
        refine o_iload cx X370 at_221 rfl ?_
        refine o_ifNo cx X370 at_223 (by decide) ?_
        refine o_iload cx X370 at_226 rfl ?_
        refine o_ifNo cx X370 at_228 (by decide) ?_
        refine o_aload cx X370 at_231 rfl rfl ?_
        refine o_iconst cx X370 (z := (0 : Int32)) at_233 rfl ?_
        refine o_callVp cx X370 (y' := (⟨"com/example/needlewise/needlewise/Carry", "get", "(I)B"⟩ : MethodName)) (argsL := [(.int (0 : Int32))]) (st := []) (a := b290) at_234 (o_w hw 52 rfl) (o_w hw 53 rfl) (o_w hw 55 rfl) (o_w hw 54 rfl) (o_w hw 4 rfl) (o_w hw 56 rfl) (by decide) E354 (ra8_15 l Z a0 hw b290 b54 pv0 pv1 pv2 pv3 pv4 h350 n0 X370.ge0 ge298 ge61 (Ne.symm ne_b54_b290) E354 F355 F356 F357 F358 Aj) (by decide) 0 rfl (by decide) rfl (lenOf pd_8 rfl) rfl rfl (by decide) (by decide) fun T374 X375 => ?_
        show own_Go p e below _ (T374.setTop (mkF m 237 #[.val (.long p0), .second, .val (.long p1), .second, .val (.int p2), .val (.int p3), .val (.int p4), .val (.ref b54), .val (.ref b82), .val (.int cp), .val (.int (2 : Int32)), .val (.int (3 : Int32)), .val (.ref b290), .val (.int (1 : Int32))] [(.int (nar .byte pv3))]))
        refine o_aload cx X375 at_237 rfl rfl ?_
        refine o_iload cx X375 at_239 rfl ?_
        refine o_ldB cx X375 (v := (.int pv3)) at_241 Aj 3 (by decide) rfl rfl ?_
        refine o_icmpNo cx X375 at_242 (teq npv3).2 ?_
        refine o_aload cx X375 at_245 rfl rfl ?_
        refine o_iload cx X375 at_247 rfl ?_
        refine o_iconst cx X375 (z := (1 : Int32)) at_249 rfl ?_
        refine o_isub cx X375 (z := (1 : Int32)) at_250 rfl ?_
        refine o_callVp cx X375 (y' := (⟨"com/example/needlewise/needlewise/Carry", "get", "(I)B"⟩ : MethodName)) (argsL := [(.int (1 : Int32))]) (st := []) (a := b290) at_251 (o_w hw 52 rfl) (o_w hw 53 rfl) (o_w hw 55 rfl) (o_w hw 54 rfl) (o_w hw 4 rfl) (o_w hw 56 rfl) (by decide) E354 (ra8_16 l Z a0 hw b290 b54 pv0 pv1 pv2 pv3 pv4 h350 n0 X375.ge0 ge298 ge61 (Ne.symm ne_b54_b290) E354 F355 F356 F357 F358 Aj) (by decide) 0 rfl (by decide) rfl (lenOf pd_8 rfl) rfl rfl (by decide) (by decide) fun T379 X380 => ?_
        show own_Go p e below _ (T379.setTop (mkF m 254 #[.val (.long p0), .second, .val (.long p1), .second, .val (.int p2), .val (.int p3), .val (.int p4), .val (.ref b54), .val (.ref b82), .val (.int cp), .val (.int (2 : Int32)), .val (.int (3 : Int32)), .val (.ref b290), .val (.int (1 : Int32))] [(.int (nar .byte pv4))]))
        refine o_aload cx X380 at_254 rfl rfl ?_
        refine o_iconst cx X380 (z := (4 : Int32)) at_256 rfl ?_
        refine o_ldB cx X380 (v := (.int pv4)) at_257 Aj 4 (by decide) rfl rfl ?_
        refine o_icmpNo cx X380 at_258 (teq npv4).2 ?_
        refine o_iconst cx X380 (z := (1 : Int32)) at_261 rfl ?_
        refine o_goto cx X380 266 at_262 (by decide) (by decide) ?_
        refine o_istore cx X380 (Ls' := #[.val (.long p0), .second, .val (.long p1), .second, .val (.int p2), .val (.int p3), .val (.int p4), .val (.ref b54), .val (.ref b82), .val (.int cp), .val (.int (2 : Int32)), .val (.int (3 : Int32)), .val (.ref b290), .val (.int (1 : Int32))]) at_266 rfl ?_
        refine o_iload cx X380 at_268 rfl ?_
        exact o_retN cx X380 (z' := (1 : Int32)) at_270 (by simp) rfl rfl (by decide) (by decide)
    refine o_iload cx X300 at_145 rfl ?_
    refine o_iconst cx X300 (z := (1 : Int32)) at_147 rfl ?_
    refine o_iand cx X300 at_148 rfl ?_
    by_cases hc384 : (p4 &&& (1 : Int32)) = (0 : Int32)
    · refine o_ifYes cx X300 177 at_149 ((if0 _ _).trans (teq hc384).1) (by decide) (by decide) ?_
      exact J177 _ _ _ _ _ _ (X300.more (by decide) (by decide)) E305 F306 F308 F309 F310 A59 (Or.inl rfl)
    · refine o_ifNo cx X300 at_149 ((if0 _ _).trans (feq hc384).1) ?_
      refine o_iload cx X300 at_152 rfl ?_
      refine o_iconst cx X300 (z := (1 : Int32)) at_154 rfl ?_
      refine o_iushr cx X300 at_155 rfl ?_
      refine o_ldc cx X300 (z := (2147483647 : Int32)) at_156 (o_w hw 1 rfl) ?_
      refine o_iand cx X300 at_158 rfl ?_
      refine o_iload cx X300 at_159 rfl ?_
      refine o_iconst cx X300 (z := (1 : Int32)) at_161 rfl ?_
      refine o_iadd cx X300 at_162 rfl ?_
      refine o_irem cx X300 at_163 (own_nz hc0 hc5) rfl ?_
      refine o_istore cx X300 (Ls' := #[.val (.long p0), .second, .val (.long p1), .second, .val (.int p2), .val (.int p3), .val (.int p4), .val (.ref b54), .val (.ref b82), .val (.int cp), .val (.int (2 : Int32)), .val (.int (3 : Int32)), .val (.ref b290), .val (.int ((((p4.toUInt32 >>> ((1 : Int32) &&& 31).toUInt32).toInt32) &&& (2147483647 : Int32)) % (cp + (1 : Int32))))]) at_164 rfl ?_
      obtain ⟨hk0, hk1⟩ := own_rq ((p4.toUInt32 >>> ((1 : Int32) &&& 31).toUInt32).toInt32) cp hc0 hc5
      obtain ⟨kk, ekk⟩ : ∃ z : Int32, z = ((((p4.toUInt32 >>> ((1 : Int32) &&& 31).toUInt32).toInt32) &&& (2147483647 : Int32)) % (cp + (1 : Int32))) := ⟨_, rfl⟩
      rw [← ekk] at hk0 hk1 ⊢
      show own_Go p e below _ (T299.setTop (mkF m 166 #[.val (.long p0), .second, .val (.long p1), .second, .val (.int p2), .val (.int p3), .val (.int p4), .val (.ref b54), .val (.ref b82), .val (.int cp), .val (.int (2 : Int32)), .val (.int (3 : Int32)), .val (.ref b290), .val (.int kk)] []))
      refine o_aload cx X300 at_166 rfl rfl ?_
      refine o_iconst cx X300 (z := (0 : Int32)) at_168 rfl ?_
      refine o_aload cx X300 at_169 rfl rfl ?_
      refine o_iconst cx X300 (z := (0 : Int32)) at_171 rfl ?_
      refine o_iload cx X300 at_172 rfl ?_
      refine o_callV cx X300 (y' := (⟨"com/example/needlewise/needlewise/Carry", "keep", "(I[BII)V"⟩ : MethodName)) (argsL := [(.int (0 : Int32)), (.ref b82), (.int (0 : Int32)), (.int kk)]) (st := []) (a := b290) at_174 (o_w hw 41 rfl) (o_w hw 42 rfl) (o_w hw 44 rfl) (o_w hw 43 rfl) (o_w hw 4 rfl) (o_w hw 45 rfl) (by decide) E305 (rkeep l Z a0 hw b290 b82 b54 cp kk fv0 fv1 fv2 fv3 fv4 h301 n0 X300.ge0 ge298 ge89 (Ne.symm ne_b82_b290) E305 F306 F307 F308 F309 F310 F311 A87 nffv0 nffv1 nffv2 nffv3 nffv4 hc0 hc5 hk0 hk1) (by decide) 0 rfl (by decide) rfl (lenOf pd_7 rfl) rfl rfl (by decide) (by decide) fun v388 T385 h387 X386 Q389 => ?_
      obtain ⟨u1, u2, u3, rfl, Kk, Ek, Fk0, Fk1, Fk2, Fk3⟩ := Q389
      have A59 := A59.keep Kk (ninS ne_b54_b290 nin0)
      show own_Go p e below _ (T385.setTop (mkF m 177 #[.val (.long p0), .second, .val (.long p1), .second, .val (.int p2), .val (.int p3), .val (.int p4), .val (.ref b54), .val (.ref b82), .val (.int cp), .val (.int (2 : Int32)), .val (.int (3 : Int32)), .val (.ref b290), .val (.int kk)] []))
      exact J177 _ _ _ _ _ _ (X386.more (by decide) (by decide)) Ek Fk0 Fk1 Fk2 Fk3 A59 (Or.inr ⟨_, rfl⟩)
  · rw [hs]
    show own_Go p e below _ (T106.setTop (mkF m 126 #[.val (.long p0), .second, .val (.long p1), .second, .val (.int p2), .val (.int p3), .val (.int p4), .val (.ref b54), .val (.ref b82), .val (.int cp), .val (.int (3 : Int32)), .unset, .unset, .unset] []))
    refine o_iconst cx X107 (z := (5 : Int32)) at_126 rfl ?_
    refine o_iload cx X107 at_127 rfl ?_
    refine o_isub cx X107 (z := (2 : Int32)) at_129 rfl ?_
    refine o_istore cx X107 (Ls' := #[.val (.long p0), .second, .val (.long p1), .second, .val (.int p2), .val (.int p3), .val (.int p4), .val (.ref b54), .val (.ref b82), .val (.int cp), .val (.int (3 : Int32)), .val (.int (2 : Int32)), .unset, .unset]) at_130 rfl ?_
    refine o_newO cx X107 at_132 (o_w hw 2 rfl) (o_w hw 3 rfl) (o_w hw 4 rfl) (by decide) (by decide) fun T391 h393 b390 gb397 ge398 X392 E394 A395 D396 => ?_
    have ne_b54_b390 : b54 ≠ b390 := by rw [gb397]; exact Nat.ne_of_lt A59.lt
    have ne_b82_b390 : b82 ≠ b390 := by rw [gb397]; exact Nat.ne_of_lt A87.lt
    have A59 := A59.ext E394
    have A87 := A87.ext E394
    have F_b390_pattern : Fld Z h393 b390 "com/example/needlewise/needlewise/Carry" "pattern" "[B" .null := D396 (Or.inr (o_w hw 12 rfl)) (ty := (.array .byte)) (by decide)
    have F_b390_capacity : Fld Z h393 b390 "com/example/needlewise/needlewise/Carry" "capacity" "I" (.int (0 : Int32)) := D396 (Or.inr (o_w hw 14 rfl)) (ty := .int) (by decide)
    have F_b390_held : Fld Z h393 b390 "com/example/needlewise/needlewise/Carry" "held" "[B" .null := D396 (Or.inl (o_w hw 21 rfl)) (ty := (.array .byte)) (by decide)
    have F_b390_offset : Fld Z h393 b390 "com/example/needlewise/needlewise/Carry" "offset" "I" (.int (0 : Int32)) := D396 (Or.inl (o_w hw 23 rfl)) (ty := .int) (by decide)
    have F_b390_count : Fld Z h393 b390 "com/example/needlewise/needlewise/Carry" "count" "I" (.int (0 : Int32)) := D396 (Or.inl (o_w hw 25 rfl)) (ty := .int) (by decide)
    have F_b390_seam : Fld Z h393 b390 "com/example/needlewise/needlewise/Carry" "seam" "[B" .null := D396 (Or.inl (o_w hw 47 rfl)) (ty := (.array .byte)) (by decide)
    refine o_dup cx X392 at_135 rfl ?_
    refine o_aload cx X392 at_136 rfl rfl ?_
    refine o_iload cx X392 at_138 rfl ?_
    refine o_callC cx X392 (y' := (⟨"com/example/needlewise/needlewise/Carry", "<init>", "([BI)V"⟩ : MethodName)) (argsL := [(.ref b54), (.int cp)]) (st := [(.ref b390)]) (a := b390) at_140 (o_w hw 5 rfl) (o_w hw 6 rfl) (o_w hw 4 rfl) (o_w hw 7 rfl) (by decide) rfl (ra1_1 l Z a0 hw b390 b54 cp pv0 pv1 pv2 pv3 pv4 h393 n0 X392.ge0 ge398 ge61 (Ne.symm ne_b54_b390) A395 F_b390_pattern F_b390_capacity F_b390_held F_b390_offset F_b390_count F_b390_seam A59) (by decide) 1 rfl (by decide) rfl (lenOf pd_1 rfl) rfl rfl (by decide) (by decide) fun v402 T399 h401 X400 Q403 => ?_
    obtain ⟨rfl, K404, E405, F406, F407, F408, F409, F410, F411⟩ := Q403
    have A59 := A59.keep K404 (ninS ne_b54_b390 nin0)
    have A87 := A87.keep K404 (ninS ne_b82_b390 nin0)
    show own_Go p e below _ (T399.setTop (mkF m 143 #[.val (.long p0), .second, .val (.long p1), .second, .val (.int p2), .val (.int p3), .val (.int p4), .val (.ref b54), .val (.ref b82), .val (.int cp), .val (.int (3 : Int32)), .val (.int (2 : Int32)), .unset, .unset] [(.ref b390)]))
    refine o_astore cx X400 (Ls' := #[.val (.long p0), .second, .val (.long p1), .second, .val (.int p2), .val (.int p3), .val (.int p4), .val (.ref b54), .val (.ref b82), .val (.int cp), .val (.int (3 : Int32)), .val (.int (2 : Int32)), .val (.ref b390), .unset]) at_143 rfl rfl ?_
    have J177 : ∀ (Tj : State) (hj : Heap) (sl : Slot) (u1 u2 u3 : Value), own_Sd p l e room_1 s m #[(.long p0), (.long p1), (.int p2), (.int p3), (.int p4)] below meth c n0 Tj hj 4 21 → Exa Z hj b390 "com/example/needlewise/needlewise/Carry" → Fld Z hj b390 "com/example/needlewise/needlewise/Carry" "pattern" "[B" (.ref b54) → Fld Z hj b390 "com/example/needlewise/needlewise/Carry" "held" "[B" u1 → Fld Z hj b390 "com/example/needlewise/needlewise/Carry" "offset" "I" u2 → Fld Z hj b390 "com/example/needlewise/needlewise/Carry" "count" "I" u3 → own_Ar Z hj b54 .byte [(.int pv0), (.int pv1), (.int pv2), (.int pv3), (.int pv4)] → (sl = .unset ∨ ∃ q : Int32, sl = .val (.int q)) → own_Go p e below (own_End below s room_1 n0 (fun v' _ => v' = some (.int 1))) (Tj.setTop (mkF m 177 #[.val (.long p0), .second, .val (.long p1), .second, .val (.int p2), .val (.int p3), .val (.int p4), .val (.ref b54), .val (.ref b82), .val (.int cp), .val (.int (3 : Int32)), .val (.int (2 : Int32)), .val (.ref b390), sl] [])) := by
      intro Tj hj sl u1 u2 u3 Xj Ej Fj0 Fj1 Fj2 Fj3 Aj hsl
      rcases hsl with rfl | ⟨qs, rfl⟩
      · show own_Go p e below _ (Tj.setTop (mkF m 177 #[.val (.long p0), .second, .val (.long p1), .second, .val (.int p2), .val (.int p3), .val (.int p4), .val (.ref b54), .val (.ref b82), .val (.int cp), .val (.int (3 : Int32)), .val (.int (2 : Int32)), .val (.ref b390), .unset] []))
        refine o_aload cx Xj at_177 rfl rfl ?_
        refine o_iload cx Xj at_179 rfl ?_
        refine o_callV cx Xj (y' := (⟨"com/example/needlewise/needlewise/Carry", "keepPattern", "(I)V"⟩ : MethodName)) (argsL := [(.int (2 : Int32))]) (st := []) (a := b390) at_181 (o_w hw 15 rfl) (o_w hw 16 rfl) (o_w hw 18 rfl) (o_w hw 17 rfl) (o_w hw 4 rfl) (o_w hw 19 rfl) (by decide) Ej (ra3_17 l Z a0 hw b390 b54 u1 u2 u3 pv0 pv1 pv2 pv3 pv4 hj n0 Xj.ge0 ge398 ge61 (Ne.symm ne_b54_b390) Ej Fj0 Fj1 Fj2 Fj3 Aj) (by decide) 0 rfl (by decide) rfl (lenOf pd_3 rfl) rfl rfl (by decide) (by decide) fun v415 T412 h414 X413 Q416 => ?_
        obtain ⟨rfl, K417, E418, F419, F420, F421, F422⟩ := Q416
        have Aj := Aj.keep K417 (ninS ne_b54_b390 nin0)
        show own_Go p e below _ (T412.setTop (mkF m 184 #[.val (.long p0), .second, .val (.long p1), .second, .val (.int p2), .val (.int p3), .val (.int p4), .val (.ref b54), .val (.ref b82), .val (.int cp), .val (.int (3 : Int32)), .val (.int (2 : Int32)), .val (.ref b390), .unset] []))
        refine o_aload cx X413 at_184 rfl rfl ?_
        refine o_callVp cx X413 (y' := (⟨"com/example/needlewise/needlewise/Carry", "array", "()[B"⟩ : MethodName)) (argsL := []) (st := []) (a := b390) at_186 (o_w hw 26 rfl) (o_w hw 27 rfl) (o_w hw 29 rfl) (o_w hw 28 rfl) (o_w hw 4 rfl) (o_w hw 30 rfl) (by decide) E418 (ra4_18 l Z a0 hw b390 b54 pv0 pv1 pv2 pv3 pv4 h414 n0 X413.ge0 ge398 ge61 (Ne.symm ne_b54_b390) E418 F419 F420 F421 F422 Aj) (by decide) 0 rfl (by decide) rfl (lenOf pd_4 rfl) rfl rfl (by decide) (by decide) fun T423 X424 => ?_
        show own_Go p e below _ (T423.setTop (mkF m 189 #[.val (.long p0), .second, .val (.long p1), .second, .val (.int p2), .val (.int p3), .val (.int p4), .val (.ref b54), .val (.ref b82), .val (.int cp), .val (.int (3 : Int32)), .val (.int (2 : Int32)), .val (.ref b390), .unset] [(.ref b54)]))
        refine o_aload cx X424 at_189 rfl rfl ?_
        refine o_acmp cx X424 194 true at_191 rfl rfl (decide_eq_true rfl) (by decide) (by decide) ?_
        refine o_aload cx X424 at_194 rfl rfl ?_
        refine o_callVp cx X424 (y' := (⟨"com/example/needlewise/needlewise/Carry", "offset", "()I"⟩ : MethodName)) (argsL := []) (st := []) (a := b390) at_196 (o_w hw 31 rfl) (o_w hw 32 rfl) (o_w hw 34 rfl) (o_w hw 33 rfl) (o_w hw 4 rfl) (o_w hw 35 rfl) (by decide) E418 (ra5_19 l Z a0 hw b390 b54 pv0 pv1 pv2 pv3 pv4 h414 n0 X424.ge0 ge398 ge61 (Ne.symm ne_b54_b390) E418 F419 F420 F421 F422 Aj) (by decide) 0 rfl (by decide) rfl (lenOf pd_5 rfl) rfl rfl (by decide) (by decide) fun T428 X429 => ?_
        show own_Go p e below _ (T428.setTop (mkF m 199 #[.val (.long p0), .second, .val (.long p1), .second, .val (.int p2), .val (.int p3), .val (.int p4), .val (.ref b54), .val (.ref b82), .val (.int cp), .val (.int (3 : Int32)), .val (.int (2 : Int32)), .val (.ref b390), .unset] [(.int (2 : Int32))]))
        refine o_iload cx X429 at_199 rfl ?_
        refine o_icmpNo cx X429 at_201 (by decide) ?_
        refine o_aload cx X429 at_204 rfl rfl ?_
        refine o_callVp cx X429 (y' := (⟨"com/example/needlewise/needlewise/Carry", "count", "()I"⟩ : MethodName)) (argsL := []) (st := []) (a := b390) at_206 (o_w hw 36 rfl) (o_w hw 37 rfl) (o_w hw 39 rfl) (o_w hw 38 rfl) (o_w hw 4 rfl) (o_w hw 40 rfl) (by decide) E418 (ra6_20 l Z a0 hw b390 b54 pv0 pv1 pv2 pv3 pv4 h414 n0 X429.ge0 ge398 ge61 (Ne.symm ne_b54_b390) E418 F419 F420 F421 F422 Aj) (by decide) 0 rfl (by decide) rfl (lenOf pd_6 rfl) rfl rfl (by decide) (by decide) fun T433 X434 => ?_
        show own_Go p e below _ (T433.setTop (mkF m 209 #[.val (.long p0), .second, .val (.long p1), .second, .val (.int p2), .val (.int p3), .val (.int p4), .val (.ref b54), .val (.ref b82), .val (.int cp), .val (.int (3 : Int32)), .val (.int (2 : Int32)), .val (.ref b390), .unset] [(.int (3 : Int32))]))
        refine o_iload cx X434 at_209 rfl ?_
        refine o_icmpNo cx X434 at_211 (by decide) ?_
        refine o_iconst cx X434 (z := (1 : Int32)) at_214 rfl ?_
        refine o_goto cx X434 219 at_215 (by decide) (by decide) ?_
        refine o_istore cx X434 (Ls' := #[.val (.long p0), .second, .val (.long p1), .second, .val (.int p2), .val (.int p3), .val (.int p4), .val (.ref b54), .val (.ref b82), .val (.int cp), .val (.int (3 : Int32)), .val (.int (2 : Int32)), .val (.ref b390), .val (.int (1 : Int32))]) at_219 rfl ?_
        refine o_iload cx X434 at_221 rfl ?_
        refine o_ifNo cx X434 at_223 (by decide) ?_
        refine o_iload cx X434 at_226 rfl ?_
        refine o_ifNo cx X434 at_228 (by decide) ?_
        refine o_aload cx X434 at_231 rfl rfl ?_
        refine o_iconst cx X434 (z := (0 : Int32)) at_233 rfl ?_
        refine o_callVp cx X434 (y' := (⟨"com/example/needlewise/needlewise/Carry", "get", "(I)B"⟩ : MethodName)) (argsL := [(.int (0 : Int32))]) (st := []) (a := b390) at_234 (o_w hw 52 rfl) (o_w hw 53 rfl) (o_w hw 55 rfl) (o_w hw 54 rfl) (o_w hw 4 rfl) (o_w hw 56 rfl) (by decide) E418 (ra8_21 l Z a0 hw b390 b54 pv0 pv1 pv2 pv3 pv4 h414 n0 X434.ge0 ge398 ge61 (Ne.symm ne_b54_b390) E418 F419 F420 F421 F422 Aj) (by decide) 0 rfl (by decide) rfl (lenOf pd_8 rfl) rfl rfl (by decide) (by decide) fun T438 X439 => ?_
        show own_Go p e below _ (T438.setTop (mkF m 237 #[.val (.long p0), .second, .val (.long p1), .second, .val (.int p2), .val (.int p3), .val (.int p4), .val (.ref b54), .val (.ref b82), .val (.int cp), .val (.int (3 : Int32)), .val (.int (2 : Int32)), .val (.ref b390), .val (.int (1 : Int32))] [(.int (nar .byte pv2))]))
        refine o_aload cx X439 at_237 rfl rfl ?_
        refine o_iload cx X439 at_239 rfl ?_
        refine o_ldB cx X439 (v := (.int pv2)) at_241 Aj 2 (by decide) rfl rfl ?_
        refine o_icmpNo cx X439 at_242 (teq npv2).2 ?_
        refine o_aload cx X439 at_245 rfl rfl ?_
        refine o_iload cx X439 at_247 rfl ?_
        refine o_iconst cx X439 (z := (1 : Int32)) at_249 rfl ?_
        refine o_isub cx X439 (z := (2 : Int32)) at_250 rfl ?_
        refine o_callVp cx X439 (y' := (⟨"com/example/needlewise/needlewise/Carry", "get", "(I)B"⟩ : MethodName)) (argsL := [(.int (2 : Int32))]) (st := []) (a := b390) at_251 (o_w hw 52 rfl) (o_w hw 53 rfl) (o_w hw 55 rfl) (o_w hw 54 rfl) (o_w hw 4 rfl) (o_w hw 56 rfl) (by decide) E418 (ra8_22 l Z a0 hw b390 b54 pv0 pv1 pv2 pv3 pv4 h414 n0 X439.ge0 ge398 ge61 (Ne.symm ne_b54_b390) E418 F419 F420 F421 F422 Aj) (by decide) 0 rfl (by decide) rfl (lenOf pd_8 rfl) rfl rfl (by decide) (by decide) fun T443 X444 => ?_
        show own_Go p e below _ (T443.setTop (mkF m 254 #[.val (.long p0), .second, .val (.long p1), .second, .val (.int p2), .val (.int p3), .val (.int p4), .val (.ref b54), .val (.ref b82), .val (.int cp), .val (.int (3 : Int32)), .val (.int (2 : Int32)), .val (.ref b390), .val (.int (1 : Int32))] [(.int (nar .byte pv4))]))
        refine o_aload cx X444 at_254 rfl rfl ?_
        refine o_iconst cx X444 (z := (4 : Int32)) at_256 rfl ?_
        refine o_ldB cx X444 (v := (.int pv4)) at_257 Aj 4 (by decide) rfl rfl ?_
        refine o_icmpNo cx X444 at_258 (teq npv4).2 ?_
        refine o_iconst cx X444 (z := (1 : Int32)) at_261 rfl ?_
        refine o_goto cx X444 266 at_262 (by decide) (by decide) ?_
        refine o_istore cx X444 (Ls' := #[.val (.long p0), .second, .val (.long p1), .second, .val (.int p2), .val (.int p3), .val (.int p4), .val (.ref b54), .val (.ref b82), .val (.int cp), .val (.int (3 : Int32)), .val (.int (2 : Int32)), .val (.ref b390), .val (.int (1 : Int32))]) at_266 rfl ?_
        refine o_iload cx X444 at_268 rfl ?_
        exact o_retN cx X444 (z' := (1 : Int32)) at_270 (by simp) rfl rfl (by decide) (by decide)
      · show own_Go p e below _ (Tj.setTop (mkF m 177 #[.val (.long p0), .second, .val (.long p1), .second, .val (.int p2), .val (.int p3), .val (.int p4), .val (.ref b54), .val (.ref b82), .val (.int cp), .val (.int (3 : Int32)), .val (.int (2 : Int32)), .val (.ref b390), .val (.int qs)] []))
        refine o_aload cx Xj at_177 rfl rfl ?_
        refine o_iload cx Xj at_179 rfl ?_
        refine o_callV cx Xj (y' := (⟨"com/example/needlewise/needlewise/Carry", "keepPattern", "(I)V"⟩ : MethodName)) (argsL := [(.int (2 : Int32))]) (st := []) (a := b390) at_181 (o_w hw 15 rfl) (o_w hw 16 rfl) (o_w hw 18 rfl) (o_w hw 17 rfl) (o_w hw 4 rfl) (o_w hw 19 rfl) (by decide) Ej (ra3_17 l Z a0 hw b390 b54 u1 u2 u3 pv0 pv1 pv2 pv3 pv4 hj n0 Xj.ge0 ge398 ge61 (Ne.symm ne_b54_b390) Ej Fj0 Fj1 Fj2 Fj3 Aj) (by decide) 0 rfl (by decide) rfl (lenOf pd_3 rfl) rfl rfl (by decide) (by decide) fun v451 T448 h450 X449 Q452 => ?_
        obtain ⟨rfl, K453, E454, F455, F456, F457, F458⟩ := Q452
        have Aj := Aj.keep K453 (ninS ne_b54_b390 nin0)
        show own_Go p e below _ (T448.setTop (mkF m 184 #[.val (.long p0), .second, .val (.long p1), .second, .val (.int p2), .val (.int p3), .val (.int p4), .val (.ref b54), .val (.ref b82), .val (.int cp), .val (.int (3 : Int32)), .val (.int (2 : Int32)), .val (.ref b390), .val (.int qs)] []))
        refine o_aload cx X449 at_184 rfl rfl ?_
        refine o_callVp cx X449 (y' := (⟨"com/example/needlewise/needlewise/Carry", "array", "()[B"⟩ : MethodName)) (argsL := []) (st := []) (a := b390) at_186 (o_w hw 26 rfl) (o_w hw 27 rfl) (o_w hw 29 rfl) (o_w hw 28 rfl) (o_w hw 4 rfl) (o_w hw 30 rfl) (by decide) E454 (ra4_18 l Z a0 hw b390 b54 pv0 pv1 pv2 pv3 pv4 h450 n0 X449.ge0 ge398 ge61 (Ne.symm ne_b54_b390) E454 F455 F456 F457 F458 Aj) (by decide) 0 rfl (by decide) rfl (lenOf pd_4 rfl) rfl rfl (by decide) (by decide) fun T459 X460 => ?_
        show own_Go p e below _ (T459.setTop (mkF m 189 #[.val (.long p0), .second, .val (.long p1), .second, .val (.int p2), .val (.int p3), .val (.int p4), .val (.ref b54), .val (.ref b82), .val (.int cp), .val (.int (3 : Int32)), .val (.int (2 : Int32)), .val (.ref b390), .val (.int qs)] [(.ref b54)]))
        refine o_aload cx X460 at_189 rfl rfl ?_
        refine o_acmp cx X460 194 true at_191 rfl rfl (decide_eq_true rfl) (by decide) (by decide) ?_
        refine o_aload cx X460 at_194 rfl rfl ?_
        refine o_callVp cx X460 (y' := (⟨"com/example/needlewise/needlewise/Carry", "offset", "()I"⟩ : MethodName)) (argsL := []) (st := []) (a := b390) at_196 (o_w hw 31 rfl) (o_w hw 32 rfl) (o_w hw 34 rfl) (o_w hw 33 rfl) (o_w hw 4 rfl) (o_w hw 35 rfl) (by decide) E454 (ra5_19 l Z a0 hw b390 b54 pv0 pv1 pv2 pv3 pv4 h450 n0 X460.ge0 ge398 ge61 (Ne.symm ne_b54_b390) E454 F455 F456 F457 F458 Aj) (by decide) 0 rfl (by decide) rfl (lenOf pd_5 rfl) rfl rfl (by decide) (by decide) fun T464 X465 => ?_
        show own_Go p e below _ (T464.setTop (mkF m 199 #[.val (.long p0), .second, .val (.long p1), .second, .val (.int p2), .val (.int p3), .val (.int p4), .val (.ref b54), .val (.ref b82), .val (.int cp), .val (.int (3 : Int32)), .val (.int (2 : Int32)), .val (.ref b390), .val (.int qs)] [(.int (2 : Int32))]))
        refine o_iload cx X465 at_199 rfl ?_
        refine o_icmpNo cx X465 at_201 (by decide) ?_
        refine o_aload cx X465 at_204 rfl rfl ?_
        refine o_callVp cx X465 (y' := (⟨"com/example/needlewise/needlewise/Carry", "count", "()I"⟩ : MethodName)) (argsL := []) (st := []) (a := b390) at_206 (o_w hw 36 rfl) (o_w hw 37 rfl) (o_w hw 39 rfl) (o_w hw 38 rfl) (o_w hw 4 rfl) (o_w hw 40 rfl) (by decide) E454 (ra6_20 l Z a0 hw b390 b54 pv0 pv1 pv2 pv3 pv4 h450 n0 X465.ge0 ge398 ge61 (Ne.symm ne_b54_b390) E454 F455 F456 F457 F458 Aj) (by decide) 0 rfl (by decide) rfl (lenOf pd_6 rfl) rfl rfl (by decide) (by decide) fun T469 X470 => ?_
        show own_Go p e below _ (T469.setTop (mkF m 209 #[.val (.long p0), .second, .val (.long p1), .second, .val (.int p2), .val (.int p3), .val (.int p4), .val (.ref b54), .val (.ref b82), .val (.int cp), .val (.int (3 : Int32)), .val (.int (2 : Int32)), .val (.ref b390), .val (.int qs)] [(.int (3 : Int32))]))
        refine o_iload cx X470 at_209 rfl ?_
        refine o_icmpNo cx X470 at_211 (by decide) ?_
        refine o_iconst cx X470 (z := (1 : Int32)) at_214 rfl ?_
        refine o_goto cx X470 219 at_215 (by decide) (by decide) ?_
        refine o_istore cx X470 (Ls' := #[.val (.long p0), .second, .val (.long p1), .second, .val (.int p2), .val (.int p3), .val (.int p4), .val (.ref b54), .val (.ref b82), .val (.int cp), .val (.int (3 : Int32)), .val (.int (2 : Int32)), .val (.ref b390), .val (.int (1 : Int32))]) at_219 rfl ?_
        refine o_iload cx X470 at_221 rfl ?_
        refine o_ifNo cx X470 at_223 (by decide) ?_
        refine o_iload cx X470 at_226 rfl ?_
        refine o_ifNo cx X470 at_228 (by decide) ?_
        refine o_aload cx X470 at_231 rfl rfl ?_
        refine o_iconst cx X470 (z := (0 : Int32)) at_233 rfl ?_
        refine o_callVp cx X470 (y' := (⟨"com/example/needlewise/needlewise/Carry", "get", "(I)B"⟩ : MethodName)) (argsL := [(.int (0 : Int32))]) (st := []) (a := b390) at_234 (o_w hw 52 rfl) (o_w hw 53 rfl) (o_w hw 55 rfl) (o_w hw 54 rfl) (o_w hw 4 rfl) (o_w hw 56 rfl) (by decide) E454 (ra8_21 l Z a0 hw b390 b54 pv0 pv1 pv2 pv3 pv4 h450 n0 X470.ge0 ge398 ge61 (Ne.symm ne_b54_b390) E454 F455 F456 F457 F458 Aj) (by decide) 0 rfl (by decide) rfl (lenOf pd_8 rfl) rfl rfl (by decide) (by decide) fun T474 X475 => ?_
        show own_Go p e below _ (T474.setTop (mkF m 237 #[.val (.long p0), .second, .val (.long p1), .second, .val (.int p2), .val (.int p3), .val (.int p4), .val (.ref b54), .val (.ref b82), .val (.int cp), .val (.int (3 : Int32)), .val (.int (2 : Int32)), .val (.ref b390), .val (.int (1 : Int32))] [(.int (nar .byte pv2))]))
        refine o_aload cx X475 at_237 rfl rfl ?_
        refine o_iload cx X475 at_239 rfl ?_
        refine o_ldB cx X475 (v := (.int pv2)) at_241 Aj 2 (by decide) rfl rfl ?_
        refine o_icmpNo cx X475 at_242 (teq npv2).2 ?_
        refine o_aload cx X475 at_245 rfl rfl ?_
        refine o_iload cx X475 at_247 rfl ?_
        refine o_iconst cx X475 (z := (1 : Int32)) at_249 rfl ?_
        refine o_isub cx X475 (z := (2 : Int32)) at_250 rfl ?_
        refine o_callVp cx X475 (y' := (⟨"com/example/needlewise/needlewise/Carry", "get", "(I)B"⟩ : MethodName)) (argsL := [(.int (2 : Int32))]) (st := []) (a := b390) at_251 (o_w hw 52 rfl) (o_w hw 53 rfl) (o_w hw 55 rfl) (o_w hw 54 rfl) (o_w hw 4 rfl) (o_w hw 56 rfl) (by decide) E454 (ra8_22 l Z a0 hw b390 b54 pv0 pv1 pv2 pv3 pv4 h450 n0 X475.ge0 ge398 ge61 (Ne.symm ne_b54_b390) E454 F455 F456 F457 F458 Aj) (by decide) 0 rfl (by decide) rfl (lenOf pd_8 rfl) rfl rfl (by decide) (by decide) fun T479 X480 => ?_
        show own_Go p e below _ (T479.setTop (mkF m 254 #[.val (.long p0), .second, .val (.long p1), .second, .val (.int p2), .val (.int p3), .val (.int p4), .val (.ref b54), .val (.ref b82), .val (.int cp), .val (.int (3 : Int32)), .val (.int (2 : Int32)), .val (.ref b390), .val (.int (1 : Int32))] [(.int (nar .byte pv4))]))
        refine o_aload cx X480 at_254 rfl rfl ?_
        refine o_iconst cx X480 (z := (4 : Int32)) at_256 rfl ?_
        refine o_ldB cx X480 (v := (.int pv4)) at_257 Aj 4 (by decide) rfl rfl ?_
        refine o_icmpNo cx X480 at_258 (teq npv4).2 ?_
        refine o_iconst cx X480 (z := (1 : Int32)) at_261 rfl ?_
        refine o_goto cx X480 266 at_262 (by decide) (by decide) ?_
        refine o_istore cx X480 (Ls' := #[.val (.long p0), .second, .val (.long p1), .second, .val (.int p2), .val (.int p3), .val (.int p4), .val (.ref b54), .val (.ref b82), .val (.int cp), .val (.int (3 : Int32)), .val (.int (2 : Int32)), .val (.ref b390), .val (.int (1 : Int32))]) at_266 rfl ?_
        refine o_iload cx X480 at_268 rfl ?_
        exact o_retN cx X480 (z' := (1 : Int32)) at_270 (by simp) rfl rfl (by decide) (by decide)
    refine o_iload cx X400 at_145 rfl ?_
    refine o_iconst cx X400 (z := (1 : Int32)) at_147 rfl ?_
    refine o_iand cx X400 at_148 rfl ?_
    by_cases hc484 : (p4 &&& (1 : Int32)) = (0 : Int32)
    · refine o_ifYes cx X400 177 at_149 ((if0 _ _).trans (teq hc484).1) (by decide) (by decide) ?_
      exact J177 _ _ _ _ _ _ (X400.more (by decide) (by decide)) E405 F406 F408 F409 F410 A59 (Or.inl rfl)
    · refine o_ifNo cx X400 at_149 ((if0 _ _).trans (feq hc484).1) ?_
      refine o_iload cx X400 at_152 rfl ?_
      refine o_iconst cx X400 (z := (1 : Int32)) at_154 rfl ?_
      refine o_iushr cx X400 at_155 rfl ?_
      refine o_ldc cx X400 (z := (2147483647 : Int32)) at_156 (o_w hw 1 rfl) ?_
      refine o_iand cx X400 at_158 rfl ?_
      refine o_iload cx X400 at_159 rfl ?_
      refine o_iconst cx X400 (z := (1 : Int32)) at_161 rfl ?_
      refine o_iadd cx X400 at_162 rfl ?_
      refine o_irem cx X400 at_163 (own_nz hc0 hc5) rfl ?_
      refine o_istore cx X400 (Ls' := #[.val (.long p0), .second, .val (.long p1), .second, .val (.int p2), .val (.int p3), .val (.int p4), .val (.ref b54), .val (.ref b82), .val (.int cp), .val (.int (3 : Int32)), .val (.int (2 : Int32)), .val (.ref b390), .val (.int ((((p4.toUInt32 >>> ((1 : Int32) &&& 31).toUInt32).toInt32) &&& (2147483647 : Int32)) % (cp + (1 : Int32))))]) at_164 rfl ?_
      obtain ⟨hk0, hk1⟩ := own_rq ((p4.toUInt32 >>> ((1 : Int32) &&& 31).toUInt32).toInt32) cp hc0 hc5
      obtain ⟨kk, ekk⟩ : ∃ z : Int32, z = ((((p4.toUInt32 >>> ((1 : Int32) &&& 31).toUInt32).toInt32) &&& (2147483647 : Int32)) % (cp + (1 : Int32))) := ⟨_, rfl⟩
      rw [← ekk] at hk0 hk1 ⊢
      show own_Go p e below _ (T399.setTop (mkF m 166 #[.val (.long p0), .second, .val (.long p1), .second, .val (.int p2), .val (.int p3), .val (.int p4), .val (.ref b54), .val (.ref b82), .val (.int cp), .val (.int (3 : Int32)), .val (.int (2 : Int32)), .val (.ref b390), .val (.int kk)] []))
      refine o_aload cx X400 at_166 rfl rfl ?_
      refine o_iconst cx X400 (z := (0 : Int32)) at_168 rfl ?_
      refine o_aload cx X400 at_169 rfl rfl ?_
      refine o_iconst cx X400 (z := (0 : Int32)) at_171 rfl ?_
      refine o_iload cx X400 at_172 rfl ?_
      refine o_callV cx X400 (y' := (⟨"com/example/needlewise/needlewise/Carry", "keep", "(I[BII)V"⟩ : MethodName)) (argsL := [(.int (0 : Int32)), (.ref b82), (.int (0 : Int32)), (.int kk)]) (st := []) (a := b390) at_174 (o_w hw 41 rfl) (o_w hw 42 rfl) (o_w hw 44 rfl) (o_w hw 43 rfl) (o_w hw 4 rfl) (o_w hw 45 rfl) (by decide) E405 (rkeep l Z a0 hw b390 b82 b54 cp kk fv0 fv1 fv2 fv3 fv4 h401 n0 X400.ge0 ge398 ge89 (Ne.symm ne_b82_b390) E405 F406 F407 F408 F409 F410 F411 A87 nffv0 nffv1 nffv2 nffv3 nffv4 hc0 hc5 hk0 hk1) (by decide) 0 rfl (by decide) rfl (lenOf pd_7 rfl) rfl rfl (by decide) (by decide) fun v488 T485 h487 X486 Q489 => ?_
      obtain ⟨u1, u2, u3, rfl, Kk, Ek, Fk0, Fk1, Fk2, Fk3⟩ := Q489
      have A59 := A59.keep Kk (ninS ne_b54_b390 nin0)
      show own_Go p e below _ (T485.setTop (mkF m 177 #[.val (.long p0), .second, .val (.long p1), .second, .val (.int p2), .val (.int p3), .val (.int p4), .val (.ref b54), .val (.ref b82), .val (.int cp), .val (.int (3 : Int32)), .val (.int (2 : Int32)), .val (.ref b390), .val (.int kk)] []))
      exact J177 _ _ _ _ _ _ (X486.more (by decide) (by decide)) Ek Fk0 Fk1 Fk2 Fk3 A59 (Or.inr ⟨_, rfl⟩)
  · rw [hs]
    show own_Go p e below _ (T106.setTop (mkF m 126 #[.val (.long p0), .second, .val (.long p1), .second, .val (.int p2), .val (.int p3), .val (.int p4), .val (.ref b54), .val (.ref b82), .val (.int cp), .val (.int (4 : Int32)), .unset, .unset, .unset] []))
    refine o_iconst cx X107 (z := (5 : Int32)) at_126 rfl ?_
    refine o_iload cx X107 at_127 rfl ?_
    refine o_isub cx X107 (z := (1 : Int32)) at_129 rfl ?_
    refine o_istore cx X107 (Ls' := #[.val (.long p0), .second, .val (.long p1), .second, .val (.int p2), .val (.int p3), .val (.int p4), .val (.ref b54), .val (.ref b82), .val (.int cp), .val (.int (4 : Int32)), .val (.int (1 : Int32)), .unset, .unset]) at_130 rfl ?_
    refine o_newO cx X107 at_132 (o_w hw 2 rfl) (o_w hw 3 rfl) (o_w hw 4 rfl) (by decide) (by decide) fun T491 h493 b490 gb497 ge498 X492 E494 A495 D496 => ?_
    have ne_b54_b490 : b54 ≠ b490 := by rw [gb497]; exact Nat.ne_of_lt A59.lt
    have ne_b82_b490 : b82 ≠ b490 := by rw [gb497]; exact Nat.ne_of_lt A87.lt
    have A59 := A59.ext E494
    have A87 := A87.ext E494
    have F_b490_pattern : Fld Z h493 b490 "com/example/needlewise/needlewise/Carry" "pattern" "[B" .null := D496 (Or.inr (o_w hw 12 rfl)) (ty := (.array .byte)) (by decide)
    have F_b490_capacity : Fld Z h493 b490 "com/example/needlewise/needlewise/Carry" "capacity" "I" (.int (0 : Int32)) := D496 (Or.inr (o_w hw 14 rfl)) (ty := .int) (by decide)
    have F_b490_held : Fld Z h493 b490 "com/example/needlewise/needlewise/Carry" "held" "[B" .null := D496 (Or.inl (o_w hw 21 rfl)) (ty := (.array .byte)) (by decide)
    have F_b490_offset : Fld Z h493 b490 "com/example/needlewise/needlewise/Carry" "offset" "I" (.int (0 : Int32)) := D496 (Or.inl (o_w hw 23 rfl)) (ty := .int) (by decide)
    have F_b490_count : Fld Z h493 b490 "com/example/needlewise/needlewise/Carry" "count" "I" (.int (0 : Int32)) := D496 (Or.inl (o_w hw 25 rfl)) (ty := .int) (by decide)
    have F_b490_seam : Fld Z h493 b490 "com/example/needlewise/needlewise/Carry" "seam" "[B" .null := D496 (Or.inl (o_w hw 47 rfl)) (ty := (.array .byte)) (by decide)
    refine o_dup cx X492 at_135 rfl ?_
    refine o_aload cx X492 at_136 rfl rfl ?_
    refine o_iload cx X492 at_138 rfl ?_
    refine o_callC cx X492 (y' := (⟨"com/example/needlewise/needlewise/Carry", "<init>", "([BI)V"⟩ : MethodName)) (argsL := [(.ref b54), (.int cp)]) (st := [(.ref b490)]) (a := b490) at_140 (o_w hw 5 rfl) (o_w hw 6 rfl) (o_w hw 4 rfl) (o_w hw 7 rfl) (by decide) rfl (ra1_1 l Z a0 hw b490 b54 cp pv0 pv1 pv2 pv3 pv4 h493 n0 X492.ge0 ge498 ge61 (Ne.symm ne_b54_b490) A495 F_b490_pattern F_b490_capacity F_b490_held F_b490_offset F_b490_count F_b490_seam A59) (by decide) 1 rfl (by decide) rfl (lenOf pd_1 rfl) rfl rfl (by decide) (by decide) fun v502 T499 h501 X500 Q503 => ?_
    obtain ⟨rfl, K504, E505, F506, F507, F508, F509, F510, F511⟩ := Q503
    have A59 := A59.keep K504 (ninS ne_b54_b490 nin0)
    have A87 := A87.keep K504 (ninS ne_b82_b490 nin0)
    show own_Go p e below _ (T499.setTop (mkF m 143 #[.val (.long p0), .second, .val (.long p1), .second, .val (.int p2), .val (.int p3), .val (.int p4), .val (.ref b54), .val (.ref b82), .val (.int cp), .val (.int (4 : Int32)), .val (.int (1 : Int32)), .unset, .unset] [(.ref b490)]))
    refine o_astore cx X500 (Ls' := #[.val (.long p0), .second, .val (.long p1), .second, .val (.int p2), .val (.int p3), .val (.int p4), .val (.ref b54), .val (.ref b82), .val (.int cp), .val (.int (4 : Int32)), .val (.int (1 : Int32)), .val (.ref b490), .unset]) at_143 rfl rfl ?_
    have J177 : ∀ (Tj : State) (hj : Heap) (sl : Slot) (u1 u2 u3 : Value), own_Sd p l e room_1 s m #[(.long p0), (.long p1), (.int p2), (.int p3), (.int p4)] below meth c n0 Tj hj 4 21 → Exa Z hj b490 "com/example/needlewise/needlewise/Carry" → Fld Z hj b490 "com/example/needlewise/needlewise/Carry" "pattern" "[B" (.ref b54) → Fld Z hj b490 "com/example/needlewise/needlewise/Carry" "held" "[B" u1 → Fld Z hj b490 "com/example/needlewise/needlewise/Carry" "offset" "I" u2 → Fld Z hj b490 "com/example/needlewise/needlewise/Carry" "count" "I" u3 → own_Ar Z hj b54 .byte [(.int pv0), (.int pv1), (.int pv2), (.int pv3), (.int pv4)] → (sl = .unset ∨ ∃ q : Int32, sl = .val (.int q)) → own_Go p e below (own_End below s room_1 n0 (fun v' _ => v' = some (.int 1))) (Tj.setTop (mkF m 177 #[.val (.long p0), .second, .val (.long p1), .second, .val (.int p2), .val (.int p3), .val (.int p4), .val (.ref b54), .val (.ref b82), .val (.int cp), .val (.int (4 : Int32)), .val (.int (1 : Int32)), .val (.ref b490), sl] [])) := by
      intro Tj hj sl u1 u2 u3 Xj Ej Fj0 Fj1 Fj2 Fj3 Aj hsl
      rcases hsl with rfl | ⟨qs, rfl⟩
      · show own_Go p e below _ (Tj.setTop (mkF m 177 #[.val (.long p0), .second, .val (.long p1), .second, .val (.int p2), .val (.int p3), .val (.int p4), .val (.ref b54), .val (.ref b82), .val (.int cp), .val (.int (4 : Int32)), .val (.int (1 : Int32)), .val (.ref b490), .unset] []))
        refine o_aload cx Xj at_177 rfl rfl ?_
        refine o_iload cx Xj at_179 rfl ?_
        refine o_callV cx Xj (y' := (⟨"com/example/needlewise/needlewise/Carry", "keepPattern", "(I)V"⟩ : MethodName)) (argsL := [(.int (1 : Int32))]) (st := []) (a := b490) at_181 (o_w hw 15 rfl) (o_w hw 16 rfl) (o_w hw 18 rfl) (o_w hw 17 rfl) (o_w hw 4 rfl) (o_w hw 19 rfl) (by decide) Ej (ra3_23 l Z a0 hw b490 b54 u1 u2 u3 pv0 pv1 pv2 pv3 pv4 hj n0 Xj.ge0 ge498 ge61 (Ne.symm ne_b54_b490) Ej Fj0 Fj1 Fj2 Fj3 Aj) (by decide) 0 rfl (by decide) rfl (lenOf pd_3 rfl) rfl rfl (by decide) (by decide) fun v515 T512 h514 X513 Q516 => ?_
        obtain ⟨rfl, K517, E518, F519, F520, F521, F522⟩ := Q516
        have Aj := Aj.keep K517 (ninS ne_b54_b490 nin0)
        show own_Go p e below _ (T512.setTop (mkF m 184 #[.val (.long p0), .second, .val (.long p1), .second, .val (.int p2), .val (.int p3), .val (.int p4), .val (.ref b54), .val (.ref b82), .val (.int cp), .val (.int (4 : Int32)), .val (.int (1 : Int32)), .val (.ref b490), .unset] []))
        refine o_aload cx X513 at_184 rfl rfl ?_
        refine o_callVp cx X513 (y' := (⟨"com/example/needlewise/needlewise/Carry", "array", "()[B"⟩ : MethodName)) (argsL := []) (st := []) (a := b490) at_186 (o_w hw 26 rfl) (o_w hw 27 rfl) (o_w hw 29 rfl) (o_w hw 28 rfl) (o_w hw 4 rfl) (o_w hw 30 rfl) (by decide) E518 (ra4_24 l Z a0 hw b490 b54 pv0 pv1 pv2 pv3 pv4 h514 n0 X513.ge0 ge498 ge61 (Ne.symm ne_b54_b490) E518 F519 F520 F521 F522 Aj) (by decide) 0 rfl (by decide) rfl (lenOf pd_4 rfl) rfl rfl (by decide) (by decide) fun T523 X524 => ?_
        show own_Go p e below _ (T523.setTop (mkF m 189 #[.val (.long p0), .second, .val (.long p1), .second, .val (.int p2), .val (.int p3), .val (.int p4), .val (.ref b54), .val (.ref b82), .val (.int cp), .val (.int (4 : Int32)), .val (.int (1 : Int32)), .val (.ref b490), .unset] [(.ref b54)]))
        refine o_aload cx X524 at_189 rfl rfl ?_
        refine o_acmp cx X524 194 true at_191 rfl rfl (decide_eq_true rfl) (by decide) (by decide) ?_
        refine o_aload cx X524 at_194 rfl rfl ?_
        refine o_callVp cx X524 (y' := (⟨"com/example/needlewise/needlewise/Carry", "offset", "()I"⟩ : MethodName)) (argsL := []) (st := []) (a := b490) at_196 (o_w hw 31 rfl) (o_w hw 32 rfl) (o_w hw 34 rfl) (o_w hw 33 rfl) (o_w hw 4 rfl) (o_w hw 35 rfl) (by decide) E518 (ra5_25 l Z a0 hw b490 b54 pv0 pv1 pv2 pv3 pv4 h514 n0 X524.ge0 ge498 ge61 (Ne.symm ne_b54_b490) E518 F519 F520 F521 F522 Aj) (by decide) 0 rfl (by decide) rfl (lenOf pd_5 rfl) rfl rfl (by decide) (by decide) fun T528 X529 => ?_
        show own_Go p e below _ (T528.setTop (mkF m 199 #[.val (.long p0), .second, .val (.long p1), .second, .val (.int p2), .val (.int p3), .val (.int p4), .val (.ref b54), .val (.ref b82), .val (.int cp), .val (.int (4 : Int32)), .val (.int (1 : Int32)), .val (.ref b490), .unset] [(.int (1 : Int32))]))
        refine o_iload cx X529 at_199 rfl ?_
        refine o_icmpNo cx X529 at_201 (by decide) ?_
        refine o_aload cx X529 at_204 rfl rfl ?_
        refine o_callVp cx X529 (y' := (⟨"com/example/needlewise/needlewise/Carry", "count", "()I"⟩ : MethodName)) (argsL := []) (st := []) (a := b490) at_206 (o_w hw 36 rfl) (o_w hw 37 rfl) (o_w hw 39 rfl) (o_w hw 38 rfl) (o_w hw 4 rfl) (o_w hw 40 rfl) (by decide) E518 (ra6_26 l Z a0 hw b490 b54 pv0 pv1 pv2 pv3 pv4 h514 n0 X529.ge0 ge498 ge61 (Ne.symm ne_b54_b490) E518 F519 F520 F521 F522 Aj) (by decide) 0 rfl (by decide) rfl (lenOf pd_6 rfl) rfl rfl (by decide) (by decide) fun T533 X534 => ?_
        show own_Go p e below _ (T533.setTop (mkF m 209 #[.val (.long p0), .second, .val (.long p1), .second, .val (.int p2), .val (.int p3), .val (.int p4), .val (.ref b54), .val (.ref b82), .val (.int cp), .val (.int (4 : Int32)), .val (.int (1 : Int32)), .val (.ref b490), .unset] [(.int (4 : Int32))]))
        refine o_iload cx X534 at_209 rfl ?_
        refine o_icmpNo cx X534 at_211 (by decide) ?_
        refine o_iconst cx X534 (z := (1 : Int32)) at_214 rfl ?_
        refine o_goto cx X534 219 at_215 (by decide) (by decide) ?_
        refine o_istore cx X534 (Ls' := #[.val (.long p0), .second, .val (.long p1), .second, .val (.int p2), .val (.int p3), .val (.int p4), .val (.ref b54), .val (.ref b82), .val (.int cp), .val (.int (4 : Int32)), .val (.int (1 : Int32)), .val (.ref b490), .val (.int (1 : Int32))]) at_219 rfl ?_
        refine o_iload cx X534 at_221 rfl ?_
        refine o_ifNo cx X534 at_223 (by decide) ?_
        refine o_iload cx X534 at_226 rfl ?_
        refine o_ifNo cx X534 at_228 (by decide) ?_
        refine o_aload cx X534 at_231 rfl rfl ?_
        refine o_iconst cx X534 (z := (0 : Int32)) at_233 rfl ?_
        refine o_callVp cx X534 (y' := (⟨"com/example/needlewise/needlewise/Carry", "get", "(I)B"⟩ : MethodName)) (argsL := [(.int (0 : Int32))]) (st := []) (a := b490) at_234 (o_w hw 52 rfl) (o_w hw 53 rfl) (o_w hw 55 rfl) (o_w hw 54 rfl) (o_w hw 4 rfl) (o_w hw 56 rfl) (by decide) E518 (ra8_27 l Z a0 hw b490 b54 pv0 pv1 pv2 pv3 pv4 h514 n0 X534.ge0 ge498 ge61 (Ne.symm ne_b54_b490) E518 F519 F520 F521 F522 Aj) (by decide) 0 rfl (by decide) rfl (lenOf pd_8 rfl) rfl rfl (by decide) (by decide) fun T538 X539 => ?_
        show own_Go p e below _ (T538.setTop (mkF m 237 #[.val (.long p0), .second, .val (.long p1), .second, .val (.int p2), .val (.int p3), .val (.int p4), .val (.ref b54), .val (.ref b82), .val (.int cp), .val (.int (4 : Int32)), .val (.int (1 : Int32)), .val (.ref b490), .val (.int (1 : Int32))] [(.int (nar .byte pv1))]))
        refine o_aload cx X539 at_237 rfl rfl ?_
        refine o_iload cx X539 at_239 rfl ?_
        refine o_ldB cx X539 (v := (.int pv1)) at_241 Aj 1 (by decide) rfl rfl ?_
        refine o_icmpNo cx X539 at_242 (teq npv1).2 ?_
        refine o_aload cx X539 at_245 rfl rfl ?_
        refine o_iload cx X539 at_247 rfl ?_
        refine o_iconst cx X539 (z := (1 : Int32)) at_249 rfl ?_
        refine o_isub cx X539 (z := (3 : Int32)) at_250 rfl ?_
        refine o_callVp cx X539 (y' := (⟨"com/example/needlewise/needlewise/Carry", "get", "(I)B"⟩ : MethodName)) (argsL := [(.int (3 : Int32))]) (st := []) (a := b490) at_251 (o_w hw 52 rfl) (o_w hw 53 rfl) (o_w hw 55 rfl) (o_w hw 54 rfl) (o_w hw 4 rfl) (o_w hw 56 rfl) (by decide) E518 (ra8_28 l Z a0 hw b490 b54 pv0 pv1 pv2 pv3 pv4 h514 n0 X539.ge0 ge498 ge61 (Ne.symm ne_b54_b490) E518 F519 F520 F521 F522 Aj) (by decide) 0 rfl (by decide) rfl (lenOf pd_8 rfl) rfl rfl (by decide) (by decide) fun T543 X544 => ?_
        show own_Go p e below _ (T543.setTop (mkF m 254 #[.val (.long p0), .second, .val (.long p1), .second, .val (.int p2), .val (.int p3), .val (.int p4), .val (.ref b54), .val (.ref b82), .val (.int cp), .val (.int (4 : Int32)), .val (.int (1 : Int32)), .val (.ref b490), .val (.int (1 : Int32))] [(.int (nar .byte pv4))]))
        refine o_aload cx X544 at_254 rfl rfl ?_
        refine o_iconst cx X544 (z := (4 : Int32)) at_256 rfl ?_
        refine o_ldB cx X544 (v := (.int pv4)) at_257 Aj 4 (by decide) rfl rfl ?_
        refine o_icmpNo cx X544 at_258 (teq npv4).2 ?_
        refine o_iconst cx X544 (z := (1 : Int32)) at_261 rfl ?_
        refine o_goto cx X544 266 at_262 (by decide) (by decide) ?_
        refine o_istore cx X544 (Ls' := #[.val (.long p0), .second, .val (.long p1), .second, .val (.int p2), .val (.int p3), .val (.int p4), .val (.ref b54), .val (.ref b82), .val (.int cp), .val (.int (4 : Int32)), .val (.int (1 : Int32)), .val (.ref b490), .val (.int (1 : Int32))]) at_266 rfl ?_
        refine o_iload cx X544 at_268 rfl ?_
        exact o_retN cx X544 (z' := (1 : Int32)) at_270 (by simp) rfl rfl (by decide) (by decide)
      · show own_Go p e below _ (Tj.setTop (mkF m 177 #[.val (.long p0), .second, .val (.long p1), .second, .val (.int p2), .val (.int p3), .val (.int p4), .val (.ref b54), .val (.ref b82), .val (.int cp), .val (.int (4 : Int32)), .val (.int (1 : Int32)), .val (.ref b490), .val (.int qs)] []))
        refine o_aload cx Xj at_177 rfl rfl ?_
        refine o_iload cx Xj at_179 rfl ?_
        refine o_callV cx Xj (y' := (⟨"com/example/needlewise/needlewise/Carry", "keepPattern", "(I)V"⟩ : MethodName)) (argsL := [(.int (1 : Int32))]) (st := []) (a := b490) at_181 (o_w hw 15 rfl) (o_w hw 16 rfl) (o_w hw 18 rfl) (o_w hw 17 rfl) (o_w hw 4 rfl) (o_w hw 19 rfl) (by decide) Ej (ra3_23 l Z a0 hw b490 b54 u1 u2 u3 pv0 pv1 pv2 pv3 pv4 hj n0 Xj.ge0 ge498 ge61 (Ne.symm ne_b54_b490) Ej Fj0 Fj1 Fj2 Fj3 Aj) (by decide) 0 rfl (by decide) rfl (lenOf pd_3 rfl) rfl rfl (by decide) (by decide) fun v551 T548 h550 X549 Q552 => ?_
        obtain ⟨rfl, K553, E554, F555, F556, F557, F558⟩ := Q552
        have Aj := Aj.keep K553 (ninS ne_b54_b490 nin0)
        show own_Go p e below _ (T548.setTop (mkF m 184 #[.val (.long p0), .second, .val (.long p1), .second, .val (.int p2), .val (.int p3), .val (.int p4), .val (.ref b54), .val (.ref b82), .val (.int cp), .val (.int (4 : Int32)), .val (.int (1 : Int32)), .val (.ref b490), .val (.int qs)] []))
        refine o_aload cx X549 at_184 rfl rfl ?_
        refine o_callVp cx X549 (y' := (⟨"com/example/needlewise/needlewise/Carry", "array", "()[B"⟩ : MethodName)) (argsL := []) (st := []) (a := b490) at_186 (o_w hw 26 rfl) (o_w hw 27 rfl) (o_w hw 29 rfl) (o_w hw 28 rfl) (o_w hw 4 rfl) (o_w hw 30 rfl) (by decide) E554 (ra4_24 l Z a0 hw b490 b54 pv0 pv1 pv2 pv3 pv4 h550 n0 X549.ge0 ge498 ge61 (Ne.symm ne_b54_b490) E554 F555 F556 F557 F558 Aj) (by decide) 0 rfl (by decide) rfl (lenOf pd_4 rfl) rfl rfl (by decide) (by decide) fun T559 X560 => ?_
        show own_Go p e below _ (T559.setTop (mkF m 189 #[.val (.long p0), .second, .val (.long p1), .second, .val (.int p2), .val (.int p3), .val (.int p4), .val (.ref b54), .val (.ref b82), .val (.int cp), .val (.int (4 : Int32)), .val (.int (1 : Int32)), .val (.ref b490), .val (.int qs)] [(.ref b54)]))
        refine o_aload cx X560 at_189 rfl rfl ?_
        refine o_acmp cx X560 194 true at_191 rfl rfl (decide_eq_true rfl) (by decide) (by decide) ?_
        refine o_aload cx X560 at_194 rfl rfl ?_
        refine o_callVp cx X560 (y' := (⟨"com/example/needlewise/needlewise/Carry", "offset", "()I"⟩ : MethodName)) (argsL := []) (st := []) (a := b490) at_196 (o_w hw 31 rfl) (o_w hw 32 rfl) (o_w hw 34 rfl) (o_w hw 33 rfl) (o_w hw 4 rfl) (o_w hw 35 rfl) (by decide) E554 (ra5_25 l Z a0 hw b490 b54 pv0 pv1 pv2 pv3 pv4 h550 n0 X560.ge0 ge498 ge61 (Ne.symm ne_b54_b490) E554 F555 F556 F557 F558 Aj) (by decide) 0 rfl (by decide) rfl (lenOf pd_5 rfl) rfl rfl (by decide) (by decide) fun T564 X565 => ?_
        show own_Go p e below _ (T564.setTop (mkF m 199 #[.val (.long p0), .second, .val (.long p1), .second, .val (.int p2), .val (.int p3), .val (.int p4), .val (.ref b54), .val (.ref b82), .val (.int cp), .val (.int (4 : Int32)), .val (.int (1 : Int32)), .val (.ref b490), .val (.int qs)] [(.int (1 : Int32))]))
        refine o_iload cx X565 at_199 rfl ?_
        refine o_icmpNo cx X565 at_201 (by decide) ?_
        refine o_aload cx X565 at_204 rfl rfl ?_
        refine o_callVp cx X565 (y' := (⟨"com/example/needlewise/needlewise/Carry", "count", "()I"⟩ : MethodName)) (argsL := []) (st := []) (a := b490) at_206 (o_w hw 36 rfl) (o_w hw 37 rfl) (o_w hw 39 rfl) (o_w hw 38 rfl) (o_w hw 4 rfl) (o_w hw 40 rfl) (by decide) E554 (ra6_26 l Z a0 hw b490 b54 pv0 pv1 pv2 pv3 pv4 h550 n0 X565.ge0 ge498 ge61 (Ne.symm ne_b54_b490) E554 F555 F556 F557 F558 Aj) (by decide) 0 rfl (by decide) rfl (lenOf pd_6 rfl) rfl rfl (by decide) (by decide) fun T569 X570 => ?_
        show own_Go p e below _ (T569.setTop (mkF m 209 #[.val (.long p0), .second, .val (.long p1), .second, .val (.int p2), .val (.int p3), .val (.int p4), .val (.ref b54), .val (.ref b82), .val (.int cp), .val (.int (4 : Int32)), .val (.int (1 : Int32)), .val (.ref b490), .val (.int qs)] [(.int (4 : Int32))]))
        refine o_iload cx X570 at_209 rfl ?_
        refine o_icmpNo cx X570 at_211 (by decide) ?_
        refine o_iconst cx X570 (z := (1 : Int32)) at_214 rfl ?_
        refine o_goto cx X570 219 at_215 (by decide) (by decide) ?_
        refine o_istore cx X570 (Ls' := #[.val (.long p0), .second, .val (.long p1), .second, .val (.int p2), .val (.int p3), .val (.int p4), .val (.ref b54), .val (.ref b82), .val (.int cp), .val (.int (4 : Int32)), .val (.int (1 : Int32)), .val (.ref b490), .val (.int (1 : Int32))]) at_219 rfl ?_
        refine o_iload cx X570 at_221 rfl ?_
        refine o_ifNo cx X570 at_223 (by decide) ?_
        refine o_iload cx X570 at_226 rfl ?_
        refine o_ifNo cx X570 at_228 (by decide) ?_
        refine o_aload cx X570 at_231 rfl rfl ?_
        refine o_iconst cx X570 (z := (0 : Int32)) at_233 rfl ?_
        refine o_callVp cx X570 (y' := (⟨"com/example/needlewise/needlewise/Carry", "get", "(I)B"⟩ : MethodName)) (argsL := [(.int (0 : Int32))]) (st := []) (a := b490) at_234 (o_w hw 52 rfl) (o_w hw 53 rfl) (o_w hw 55 rfl) (o_w hw 54 rfl) (o_w hw 4 rfl) (o_w hw 56 rfl) (by decide) E554 (ra8_27 l Z a0 hw b490 b54 pv0 pv1 pv2 pv3 pv4 h550 n0 X570.ge0 ge498 ge61 (Ne.symm ne_b54_b490) E554 F555 F556 F557 F558 Aj) (by decide) 0 rfl (by decide) rfl (lenOf pd_8 rfl) rfl rfl (by decide) (by decide) fun T574 X575 => ?_
        show own_Go p e below _ (T574.setTop (mkF m 237 #[.val (.long p0), .second, .val (.long p1), .second, .val (.int p2), .val (.int p3), .val (.int p4), .val (.ref b54), .val (.ref b82), .val (.int cp), .val (.int (4 : Int32)), .val (.int (1 : Int32)), .val (.ref b490), .val (.int (1 : Int32))] [(.int (nar .byte pv1))]))
        refine o_aload cx X575 at_237 rfl rfl ?_
        refine o_iload cx X575 at_239 rfl ?_
        refine o_ldB cx X575 (v := (.int pv1)) at_241 Aj 1 (by decide) rfl rfl ?_
        refine o_icmpNo cx X575 at_242 (teq npv1).2 ?_
        refine o_aload cx X575 at_245 rfl rfl ?_
        refine o_iload cx X575 at_247 rfl ?_
        refine o_iconst cx X575 (z := (1 : Int32)) at_249 rfl ?_
        refine o_isub cx X575 (z := (3 : Int32)) at_250 rfl ?_
        refine o_callVp cx X575 (y' := (⟨"com/example/needlewise/needlewise/Carry", "get", "(I)B"⟩ : MethodName)) (argsL := [(.int (3 : Int32))]) (st := []) (a := b490) at_251 (o_w hw 52 rfl) (o_w hw 53 rfl) (o_w hw 55 rfl) (o_w hw 54 rfl) (o_w hw 4 rfl) (o_w hw 56 rfl) (by decide) E554 (ra8_28 l Z a0 hw b490 b54 pv0 pv1 pv2 pv3 pv4 h550 n0 X575.ge0 ge498 ge61 (Ne.symm ne_b54_b490) E554 F555 F556 F557 F558 Aj) (by decide) 0 rfl (by decide) rfl (lenOf pd_8 rfl) rfl rfl (by decide) (by decide) fun T579 X580 => ?_
        show own_Go p e below _ (T579.setTop (mkF m 254 #[.val (.long p0), .second, .val (.long p1), .second, .val (.int p2), .val (.int p3), .val (.int p4), .val (.ref b54), .val (.ref b82), .val (.int cp), .val (.int (4 : Int32)), .val (.int (1 : Int32)), .val (.ref b490), .val (.int (1 : Int32))] [(.int (nar .byte pv4))]))
        refine o_aload cx X580 at_254 rfl rfl ?_
        refine o_iconst cx X580 (z := (4 : Int32)) at_256 rfl ?_
        refine o_ldB cx X580 (v := (.int pv4)) at_257 Aj 4 (by decide) rfl rfl ?_
        refine o_icmpNo cx X580 at_258 (teq npv4).2 ?_
        refine o_iconst cx X580 (z := (1 : Int32)) at_261 rfl ?_
        refine o_goto cx X580 266 at_262 (by decide) (by decide) ?_
        refine o_istore cx X580 (Ls' := #[.val (.long p0), .second, .val (.long p1), .second, .val (.int p2), .val (.int p3), .val (.int p4), .val (.ref b54), .val (.ref b82), .val (.int cp), .val (.int (4 : Int32)), .val (.int (1 : Int32)), .val (.ref b490), .val (.int (1 : Int32))]) at_266 rfl ?_
        refine o_iload cx X580 at_268 rfl ?_
        exact o_retN cx X580 (z' := (1 : Int32)) at_270 (by simp) rfl rfl (by decide) (by decide)
    refine o_iload cx X500 at_145 rfl ?_
    refine o_iconst cx X500 (z := (1 : Int32)) at_147 rfl ?_
    refine o_iand cx X500 at_148 rfl ?_
    by_cases hc584 : (p4 &&& (1 : Int32)) = (0 : Int32)
    · refine o_ifYes cx X500 177 at_149 ((if0 _ _).trans (teq hc584).1) (by decide) (by decide) ?_
      exact J177 _ _ _ _ _ _ (X500.more (by decide) (by decide)) E505 F506 F508 F509 F510 A59 (Or.inl rfl)
    · refine o_ifNo cx X500 at_149 ((if0 _ _).trans (feq hc584).1) ?_
      refine o_iload cx X500 at_152 rfl ?_
      refine o_iconst cx X500 (z := (1 : Int32)) at_154 rfl ?_
      refine o_iushr cx X500 at_155 rfl ?_
      refine o_ldc cx X500 (z := (2147483647 : Int32)) at_156 (o_w hw 1 rfl) ?_
      refine o_iand cx X500 at_158 rfl ?_
      refine o_iload cx X500 at_159 rfl ?_
      refine o_iconst cx X500 (z := (1 : Int32)) at_161 rfl ?_
      refine o_iadd cx X500 at_162 rfl ?_
      refine o_irem cx X500 at_163 (own_nz hc0 hc5) rfl ?_
      refine o_istore cx X500 (Ls' := #[.val (.long p0), .second, .val (.long p1), .second, .val (.int p2), .val (.int p3), .val (.int p4), .val (.ref b54), .val (.ref b82), .val (.int cp), .val (.int (4 : Int32)), .val (.int (1 : Int32)), .val (.ref b490), .val (.int ((((p4.toUInt32 >>> ((1 : Int32) &&& 31).toUInt32).toInt32) &&& (2147483647 : Int32)) % (cp + (1 : Int32))))]) at_164 rfl ?_
      obtain ⟨hk0, hk1⟩ := own_rq ((p4.toUInt32 >>> ((1 : Int32) &&& 31).toUInt32).toInt32) cp hc0 hc5
      obtain ⟨kk, ekk⟩ : ∃ z : Int32, z = ((((p4.toUInt32 >>> ((1 : Int32) &&& 31).toUInt32).toInt32) &&& (2147483647 : Int32)) % (cp + (1 : Int32))) := ⟨_, rfl⟩
      rw [← ekk] at hk0 hk1 ⊢
      show own_Go p e below _ (T499.setTop (mkF m 166 #[.val (.long p0), .second, .val (.long p1), .second, .val (.int p2), .val (.int p3), .val (.int p4), .val (.ref b54), .val (.ref b82), .val (.int cp), .val (.int (4 : Int32)), .val (.int (1 : Int32)), .val (.ref b490), .val (.int kk)] []))
      refine o_aload cx X500 at_166 rfl rfl ?_
      refine o_iconst cx X500 (z := (0 : Int32)) at_168 rfl ?_
      refine o_aload cx X500 at_169 rfl rfl ?_
      refine o_iconst cx X500 (z := (0 : Int32)) at_171 rfl ?_
      refine o_iload cx X500 at_172 rfl ?_
      refine o_callV cx X500 (y' := (⟨"com/example/needlewise/needlewise/Carry", "keep", "(I[BII)V"⟩ : MethodName)) (argsL := [(.int (0 : Int32)), (.ref b82), (.int (0 : Int32)), (.int kk)]) (st := []) (a := b490) at_174 (o_w hw 41 rfl) (o_w hw 42 rfl) (o_w hw 44 rfl) (o_w hw 43 rfl) (o_w hw 4 rfl) (o_w hw 45 rfl) (by decide) E505 (rkeep l Z a0 hw b490 b82 b54 cp kk fv0 fv1 fv2 fv3 fv4 h501 n0 X500.ge0 ge498 ge89 (Ne.symm ne_b82_b490) E505 F506 F507 F508 F509 F510 F511 A87 nffv0 nffv1 nffv2 nffv3 nffv4 hc0 hc5 hk0 hk1) (by decide) 0 rfl (by decide) rfl (lenOf pd_7 rfl) rfl rfl (by decide) (by decide) fun v588 T585 h587 X586 Q589 => ?_
      obtain ⟨u1, u2, u3, rfl, Kk, Ek, Fk0, Fk1, Fk2, Fk3⟩ := Q589
      have A59 := A59.keep Kk (ninS ne_b54_b490 nin0)
      show own_Go p e below _ (T585.setTop (mkF m 177 #[.val (.long p0), .second, .val (.long p1), .second, .val (.int p2), .val (.int p3), .val (.int p4), .val (.ref b54), .val (.ref b82), .val (.int cp), .val (.int (4 : Int32)), .val (.int (1 : Int32)), .val (.ref b490), .val (.int kk)] []))
      exact J177 _ _ _ _ _ _ (X586.more (by decide) (by decide)) Ek Fk0 Fk1 Fk2 Fk3 A59 (Or.inr ⟨_, rfl⟩)
  · rw [hs]
    show own_Go p e below _ (T106.setTop (mkF m 126 #[.val (.long p0), .second, .val (.long p1), .second, .val (.int p2), .val (.int p3), .val (.int p4), .val (.ref b54), .val (.ref b82), .val (.int cp), .val (.int (5 : Int32)), .unset, .unset, .unset] []))
    refine o_iconst cx X107 (z := (5 : Int32)) at_126 rfl ?_
    refine o_iload cx X107 at_127 rfl ?_
    refine o_isub cx X107 (z := (0 : Int32)) at_129 rfl ?_
    refine o_istore cx X107 (Ls' := #[.val (.long p0), .second, .val (.long p1), .second, .val (.int p2), .val (.int p3), .val (.int p4), .val (.ref b54), .val (.ref b82), .val (.int cp), .val (.int (5 : Int32)), .val (.int (0 : Int32)), .unset, .unset]) at_130 rfl ?_
    refine o_newO cx X107 at_132 (o_w hw 2 rfl) (o_w hw 3 rfl) (o_w hw 4 rfl) (by decide) (by decide) fun T591 h593 b590 gb597 ge598 X592 E594 A595 D596 => ?_
    have ne_b54_b590 : b54 ≠ b590 := by rw [gb597]; exact Nat.ne_of_lt A59.lt
    have ne_b82_b590 : b82 ≠ b590 := by rw [gb597]; exact Nat.ne_of_lt A87.lt
    have A59 := A59.ext E594
    have A87 := A87.ext E594
    have F_b590_pattern : Fld Z h593 b590 "com/example/needlewise/needlewise/Carry" "pattern" "[B" .null := D596 (Or.inr (o_w hw 12 rfl)) (ty := (.array .byte)) (by decide)
    have F_b590_capacity : Fld Z h593 b590 "com/example/needlewise/needlewise/Carry" "capacity" "I" (.int (0 : Int32)) := D596 (Or.inr (o_w hw 14 rfl)) (ty := .int) (by decide)
    have F_b590_held : Fld Z h593 b590 "com/example/needlewise/needlewise/Carry" "held" "[B" .null := D596 (Or.inl (o_w hw 21 rfl)) (ty := (.array .byte)) (by decide)
    have F_b590_offset : Fld Z h593 b590 "com/example/needlewise/needlewise/Carry" "offset" "I" (.int (0 : Int32)) := D596 (Or.inl (o_w hw 23 rfl)) (ty := .int) (by decide)
    have F_b590_count : Fld Z h593 b590 "com/example/needlewise/needlewise/Carry" "count" "I" (.int (0 : Int32)) := D596 (Or.inl (o_w hw 25 rfl)) (ty := .int) (by decide)
    have F_b590_seam : Fld Z h593 b590 "com/example/needlewise/needlewise/Carry" "seam" "[B" .null := D596 (Or.inl (o_w hw 47 rfl)) (ty := (.array .byte)) (by decide)
    refine o_dup cx X592 at_135 rfl ?_
    refine o_aload cx X592 at_136 rfl rfl ?_
    refine o_iload cx X592 at_138 rfl ?_
    refine o_callC cx X592 (y' := (⟨"com/example/needlewise/needlewise/Carry", "<init>", "([BI)V"⟩ : MethodName)) (argsL := [(.ref b54), (.int cp)]) (st := [(.ref b590)]) (a := b590) at_140 (o_w hw 5 rfl) (o_w hw 6 rfl) (o_w hw 4 rfl) (o_w hw 7 rfl) (by decide) rfl (ra1_1 l Z a0 hw b590 b54 cp pv0 pv1 pv2 pv3 pv4 h593 n0 X592.ge0 ge598 ge61 (Ne.symm ne_b54_b590) A595 F_b590_pattern F_b590_capacity F_b590_held F_b590_offset F_b590_count F_b590_seam A59) (by decide) 1 rfl (by decide) rfl (lenOf pd_1 rfl) rfl rfl (by decide) (by decide) fun v602 T599 h601 X600 Q603 => ?_
    obtain ⟨rfl, K604, E605, F606, F607, F608, F609, F610, F611⟩ := Q603
    have A59 := A59.keep K604 (ninS ne_b54_b590 nin0)
    have A87 := A87.keep K604 (ninS ne_b82_b590 nin0)
    show own_Go p e below _ (T599.setTop (mkF m 143 #[.val (.long p0), .second, .val (.long p1), .second, .val (.int p2), .val (.int p3), .val (.int p4), .val (.ref b54), .val (.ref b82), .val (.int cp), .val (.int (5 : Int32)), .val (.int (0 : Int32)), .unset, .unset] [(.ref b590)]))
    refine o_astore cx X600 (Ls' := #[.val (.long p0), .second, .val (.long p1), .second, .val (.int p2), .val (.int p3), .val (.int p4), .val (.ref b54), .val (.ref b82), .val (.int cp), .val (.int (5 : Int32)), .val (.int (0 : Int32)), .val (.ref b590), .unset]) at_143 rfl rfl ?_
    have J177 : ∀ (Tj : State) (hj : Heap) (sl : Slot) (u1 u2 u3 : Value), own_Sd p l e room_1 s m #[(.long p0), (.long p1), (.int p2), (.int p3), (.int p4)] below meth c n0 Tj hj 4 21 → Exa Z hj b590 "com/example/needlewise/needlewise/Carry" → Fld Z hj b590 "com/example/needlewise/needlewise/Carry" "pattern" "[B" (.ref b54) → Fld Z hj b590 "com/example/needlewise/needlewise/Carry" "held" "[B" u1 → Fld Z hj b590 "com/example/needlewise/needlewise/Carry" "offset" "I" u2 → Fld Z hj b590 "com/example/needlewise/needlewise/Carry" "count" "I" u3 → own_Ar Z hj b54 .byte [(.int pv0), (.int pv1), (.int pv2), (.int pv3), (.int pv4)] → (sl = .unset ∨ ∃ q : Int32, sl = .val (.int q)) → own_Go p e below (own_End below s room_1 n0 (fun v' _ => v' = some (.int 1))) (Tj.setTop (mkF m 177 #[.val (.long p0), .second, .val (.long p1), .second, .val (.int p2), .val (.int p3), .val (.int p4), .val (.ref b54), .val (.ref b82), .val (.int cp), .val (.int (5 : Int32)), .val (.int (0 : Int32)), .val (.ref b590), sl] [])) := by
      intro Tj hj sl u1 u2 u3 Xj Ej Fj0 Fj1 Fj2 Fj3 Aj hsl
      rcases hsl with rfl | ⟨qs, rfl⟩
      · show own_Go p e below _ (Tj.setTop (mkF m 177 #[.val (.long p0), .second, .val (.long p1), .second, .val (.int p2), .val (.int p3), .val (.int p4), .val (.ref b54), .val (.ref b82), .val (.int cp), .val (.int (5 : Int32)), .val (.int (0 : Int32)), .val (.ref b590), .unset] []))
        refine o_aload cx Xj at_177 rfl rfl ?_
        refine o_iload cx Xj at_179 rfl ?_
        refine o_callV cx Xj (y' := (⟨"com/example/needlewise/needlewise/Carry", "keepPattern", "(I)V"⟩ : MethodName)) (argsL := [(.int (0 : Int32))]) (st := []) (a := b590) at_181 (o_w hw 15 rfl) (o_w hw 16 rfl) (o_w hw 18 rfl) (o_w hw 17 rfl) (o_w hw 4 rfl) (o_w hw 19 rfl) (by decide) Ej (ra3_29 l Z a0 hw b590 b54 u1 u2 u3 pv0 pv1 pv2 pv3 pv4 hj n0 Xj.ge0 ge598 ge61 (Ne.symm ne_b54_b590) Ej Fj0 Fj1 Fj2 Fj3 Aj) (by decide) 0 rfl (by decide) rfl (lenOf pd_3 rfl) rfl rfl (by decide) (by decide) fun v615 T612 h614 X613 Q616 => ?_
        obtain ⟨rfl, K617, E618, F619, F620, F621, F622⟩ := Q616
        have Aj := Aj.keep K617 (ninS ne_b54_b590 nin0)
        show own_Go p e below _ (T612.setTop (mkF m 184 #[.val (.long p0), .second, .val (.long p1), .second, .val (.int p2), .val (.int p3), .val (.int p4), .val (.ref b54), .val (.ref b82), .val (.int cp), .val (.int (5 : Int32)), .val (.int (0 : Int32)), .val (.ref b590), .unset] []))
        refine o_aload cx X613 at_184 rfl rfl ?_
        refine o_callVp cx X613 (y' := (⟨"com/example/needlewise/needlewise/Carry", "array", "()[B"⟩ : MethodName)) (argsL := []) (st := []) (a := b590) at_186 (o_w hw 26 rfl) (o_w hw 27 rfl) (o_w hw 29 rfl) (o_w hw 28 rfl) (o_w hw 4 rfl) (o_w hw 30 rfl) (by decide) E618 (ra4_30 l Z a0 hw b590 b54 pv0 pv1 pv2 pv3 pv4 h614 n0 X613.ge0 ge598 ge61 (Ne.symm ne_b54_b590) E618 F619 F620 F621 F622 Aj) (by decide) 0 rfl (by decide) rfl (lenOf pd_4 rfl) rfl rfl (by decide) (by decide) fun T623 X624 => ?_
        show own_Go p e below _ (T623.setTop (mkF m 189 #[.val (.long p0), .second, .val (.long p1), .second, .val (.int p2), .val (.int p3), .val (.int p4), .val (.ref b54), .val (.ref b82), .val (.int cp), .val (.int (5 : Int32)), .val (.int (0 : Int32)), .val (.ref b590), .unset] [(.ref b54)]))
        refine o_aload cx X624 at_189 rfl rfl ?_
        refine o_acmp cx X624 194 true at_191 rfl rfl (decide_eq_true rfl) (by decide) (by decide) ?_
        refine o_aload cx X624 at_194 rfl rfl ?_
        refine o_callVp cx X624 (y' := (⟨"com/example/needlewise/needlewise/Carry", "offset", "()I"⟩ : MethodName)) (argsL := []) (st := []) (a := b590) at_196 (o_w hw 31 rfl) (o_w hw 32 rfl) (o_w hw 34 rfl) (o_w hw 33 rfl) (o_w hw 4 rfl) (o_w hw 35 rfl) (by decide) E618 (ra5_31 l Z a0 hw b590 b54 pv0 pv1 pv2 pv3 pv4 h614 n0 X624.ge0 ge598 ge61 (Ne.symm ne_b54_b590) E618 F619 F620 F621 F622 Aj) (by decide) 0 rfl (by decide) rfl (lenOf pd_5 rfl) rfl rfl (by decide) (by decide) fun T628 X629 => ?_
        show own_Go p e below _ (T628.setTop (mkF m 199 #[.val (.long p0), .second, .val (.long p1), .second, .val (.int p2), .val (.int p3), .val (.int p4), .val (.ref b54), .val (.ref b82), .val (.int cp), .val (.int (5 : Int32)), .val (.int (0 : Int32)), .val (.ref b590), .unset] [(.int (0 : Int32))]))
        refine o_iload cx X629 at_199 rfl ?_
        refine o_icmpNo cx X629 at_201 (by decide) ?_
        refine o_aload cx X629 at_204 rfl rfl ?_
        refine o_callVp cx X629 (y' := (⟨"com/example/needlewise/needlewise/Carry", "count", "()I"⟩ : MethodName)) (argsL := []) (st := []) (a := b590) at_206 (o_w hw 36 rfl) (o_w hw 37 rfl) (o_w hw 39 rfl) (o_w hw 38 rfl) (o_w hw 4 rfl) (o_w hw 40 rfl) (by decide) E618 (ra6_32 l Z a0 hw b590 b54 pv0 pv1 pv2 pv3 pv4 h614 n0 X629.ge0 ge598 ge61 (Ne.symm ne_b54_b590) E618 F619 F620 F621 F622 Aj) (by decide) 0 rfl (by decide) rfl (lenOf pd_6 rfl) rfl rfl (by decide) (by decide) fun T633 X634 => ?_
        show own_Go p e below _ (T633.setTop (mkF m 209 #[.val (.long p0), .second, .val (.long p1), .second, .val (.int p2), .val (.int p3), .val (.int p4), .val (.ref b54), .val (.ref b82), .val (.int cp), .val (.int (5 : Int32)), .val (.int (0 : Int32)), .val (.ref b590), .unset] [(.int (5 : Int32))]))
        refine o_iload cx X634 at_209 rfl ?_
        refine o_icmpNo cx X634 at_211 (by decide) ?_
        refine o_iconst cx X634 (z := (1 : Int32)) at_214 rfl ?_
        refine o_goto cx X634 219 at_215 (by decide) (by decide) ?_
        refine o_istore cx X634 (Ls' := #[.val (.long p0), .second, .val (.long p1), .second, .val (.int p2), .val (.int p3), .val (.int p4), .val (.ref b54), .val (.ref b82), .val (.int cp), .val (.int (5 : Int32)), .val (.int (0 : Int32)), .val (.ref b590), .val (.int (1 : Int32))]) at_219 rfl ?_
        refine o_iload cx X634 at_221 rfl ?_
        refine o_ifNo cx X634 at_223 (by decide) ?_
        refine o_iload cx X634 at_226 rfl ?_
        refine o_ifNo cx X634 at_228 (by decide) ?_
        refine o_aload cx X634 at_231 rfl rfl ?_
        refine o_iconst cx X634 (z := (0 : Int32)) at_233 rfl ?_
        refine o_callVp cx X634 (y' := (⟨"com/example/needlewise/needlewise/Carry", "get", "(I)B"⟩ : MethodName)) (argsL := [(.int (0 : Int32))]) (st := []) (a := b590) at_234 (o_w hw 52 rfl) (o_w hw 53 rfl) (o_w hw 55 rfl) (o_w hw 54 rfl) (o_w hw 4 rfl) (o_w hw 56 rfl) (by decide) E618 (ra8_33 l Z a0 hw b590 b54 pv0 pv1 pv2 pv3 pv4 h614 n0 X634.ge0 ge598 ge61 (Ne.symm ne_b54_b590) E618 F619 F620 F621 F622 Aj) (by decide) 0 rfl (by decide) rfl (lenOf pd_8 rfl) rfl rfl (by decide) (by decide) fun T638 X639 => ?_
        show own_Go p e below _ (T638.setTop (mkF m 237 #[.val (.long p0), .second, .val (.long p1), .second, .val (.int p2), .val (.int p3), .val (.int p4), .val (.ref b54), .val (.ref b82), .val (.int cp), .val (.int (5 : Int32)), .val (.int (0 : Int32)), .val (.ref b590), .val (.int (1 : Int32))] [(.int (nar .byte pv0))]))
        refine o_aload cx X639 at_237 rfl rfl ?_
        refine o_iload cx X639 at_239 rfl ?_
        refine o_ldB cx X639 (v := (.int pv0)) at_241 Aj 0 (by decide) rfl rfl ?_
        refine o_icmpNo cx X639 at_242 (teq npv0).2 ?_
        refine o_aload cx X639 at_245 rfl rfl ?_
        refine o_iload cx X639 at_247 rfl ?_
        refine o_iconst cx X639 (z := (1 : Int32)) at_249 rfl ?_
        refine o_isub cx X639 (z := (4 : Int32)) at_250 rfl ?_
        refine o_callVp cx X639 (y' := (⟨"com/example/needlewise/needlewise/Carry", "get", "(I)B"⟩ : MethodName)) (argsL := [(.int (4 : Int32))]) (st := []) (a := b590) at_251 (o_w hw 52 rfl) (o_w hw 53 rfl) (o_w hw 55 rfl) (o_w hw 54 rfl) (o_w hw 4 rfl) (o_w hw 56 rfl) (by decide) E618 (ra8_34 l Z a0 hw b590 b54 pv0 pv1 pv2 pv3 pv4 h614 n0 X639.ge0 ge598 ge61 (Ne.symm ne_b54_b590) E618 F619 F620 F621 F622 Aj) (by decide) 0 rfl (by decide) rfl (lenOf pd_8 rfl) rfl rfl (by decide) (by decide) fun T643 X644 => ?_
        show own_Go p e below _ (T643.setTop (mkF m 254 #[.val (.long p0), .second, .val (.long p1), .second, .val (.int p2), .val (.int p3), .val (.int p4), .val (.ref b54), .val (.ref b82), .val (.int cp), .val (.int (5 : Int32)), .val (.int (0 : Int32)), .val (.ref b590), .val (.int (1 : Int32))] [(.int (nar .byte pv4))]))
        refine o_aload cx X644 at_254 rfl rfl ?_
        refine o_iconst cx X644 (z := (4 : Int32)) at_256 rfl ?_
        refine o_ldB cx X644 (v := (.int pv4)) at_257 Aj 4 (by decide) rfl rfl ?_
        refine o_icmpNo cx X644 at_258 (teq npv4).2 ?_
        refine o_iconst cx X644 (z := (1 : Int32)) at_261 rfl ?_
        refine o_goto cx X644 266 at_262 (by decide) (by decide) ?_
        refine o_istore cx X644 (Ls' := #[.val (.long p0), .second, .val (.long p1), .second, .val (.int p2), .val (.int p3), .val (.int p4), .val (.ref b54), .val (.ref b82), .val (.int cp), .val (.int (5 : Int32)), .val (.int (0 : Int32)), .val (.ref b590), .val (.int (1 : Int32))]) at_266 rfl ?_
        refine o_iload cx X644 at_268 rfl ?_
        exact o_retN cx X644 (z' := (1 : Int32)) at_270 (by simp) rfl rfl (by decide) (by decide)
      · show own_Go p e below _ (Tj.setTop (mkF m 177 #[.val (.long p0), .second, .val (.long p1), .second, .val (.int p2), .val (.int p3), .val (.int p4), .val (.ref b54), .val (.ref b82), .val (.int cp), .val (.int (5 : Int32)), .val (.int (0 : Int32)), .val (.ref b590), .val (.int qs)] []))
        refine o_aload cx Xj at_177 rfl rfl ?_
        refine o_iload cx Xj at_179 rfl ?_
        refine o_callV cx Xj (y' := (⟨"com/example/needlewise/needlewise/Carry", "keepPattern", "(I)V"⟩ : MethodName)) (argsL := [(.int (0 : Int32))]) (st := []) (a := b590) at_181 (o_w hw 15 rfl) (o_w hw 16 rfl) (o_w hw 18 rfl) (o_w hw 17 rfl) (o_w hw 4 rfl) (o_w hw 19 rfl) (by decide) Ej (ra3_29 l Z a0 hw b590 b54 u1 u2 u3 pv0 pv1 pv2 pv3 pv4 hj n0 Xj.ge0 ge598 ge61 (Ne.symm ne_b54_b590) Ej Fj0 Fj1 Fj2 Fj3 Aj) (by decide) 0 rfl (by decide) rfl (lenOf pd_3 rfl) rfl rfl (by decide) (by decide) fun v651 T648 h650 X649 Q652 => ?_
        obtain ⟨rfl, K653, E654, F655, F656, F657, F658⟩ := Q652
        have Aj := Aj.keep K653 (ninS ne_b54_b590 nin0)
        show own_Go p e below _ (T648.setTop (mkF m 184 #[.val (.long p0), .second, .val (.long p1), .second, .val (.int p2), .val (.int p3), .val (.int p4), .val (.ref b54), .val (.ref b82), .val (.int cp), .val (.int (5 : Int32)), .val (.int (0 : Int32)), .val (.ref b590), .val (.int qs)] []))
        refine o_aload cx X649 at_184 rfl rfl ?_
        refine o_callVp cx X649 (y' := (⟨"com/example/needlewise/needlewise/Carry", "array", "()[B"⟩ : MethodName)) (argsL := []) (st := []) (a := b590) at_186 (o_w hw 26 rfl) (o_w hw 27 rfl) (o_w hw 29 rfl) (o_w hw 28 rfl) (o_w hw 4 rfl) (o_w hw 30 rfl) (by decide) E654 (ra4_30 l Z a0 hw b590 b54 pv0 pv1 pv2 pv3 pv4 h650 n0 X649.ge0 ge598 ge61 (Ne.symm ne_b54_b590) E654 F655 F656 F657 F658 Aj) (by decide) 0 rfl (by decide) rfl (lenOf pd_4 rfl) rfl rfl (by decide) (by decide) fun T659 X660 => ?_
        show own_Go p e below _ (T659.setTop (mkF m 189 #[.val (.long p0), .second, .val (.long p1), .second, .val (.int p2), .val (.int p3), .val (.int p4), .val (.ref b54), .val (.ref b82), .val (.int cp), .val (.int (5 : Int32)), .val (.int (0 : Int32)), .val (.ref b590), .val (.int qs)] [(.ref b54)]))
        refine o_aload cx X660 at_189 rfl rfl ?_
        refine o_acmp cx X660 194 true at_191 rfl rfl (decide_eq_true rfl) (by decide) (by decide) ?_
        refine o_aload cx X660 at_194 rfl rfl ?_
        refine o_callVp cx X660 (y' := (⟨"com/example/needlewise/needlewise/Carry", "offset", "()I"⟩ : MethodName)) (argsL := []) (st := []) (a := b590) at_196 (o_w hw 31 rfl) (o_w hw 32 rfl) (o_w hw 34 rfl) (o_w hw 33 rfl) (o_w hw 4 rfl) (o_w hw 35 rfl) (by decide) E654 (ra5_31 l Z a0 hw b590 b54 pv0 pv1 pv2 pv3 pv4 h650 n0 X660.ge0 ge598 ge61 (Ne.symm ne_b54_b590) E654 F655 F656 F657 F658 Aj) (by decide) 0 rfl (by decide) rfl (lenOf pd_5 rfl) rfl rfl (by decide) (by decide) fun T664 X665 => ?_
        show own_Go p e below _ (T664.setTop (mkF m 199 #[.val (.long p0), .second, .val (.long p1), .second, .val (.int p2), .val (.int p3), .val (.int p4), .val (.ref b54), .val (.ref b82), .val (.int cp), .val (.int (5 : Int32)), .val (.int (0 : Int32)), .val (.ref b590), .val (.int qs)] [(.int (0 : Int32))]))
        refine o_iload cx X665 at_199 rfl ?_
        refine o_icmpNo cx X665 at_201 (by decide) ?_
        refine o_aload cx X665 at_204 rfl rfl ?_
        refine o_callVp cx X665 (y' := (⟨"com/example/needlewise/needlewise/Carry", "count", "()I"⟩ : MethodName)) (argsL := []) (st := []) (a := b590) at_206 (o_w hw 36 rfl) (o_w hw 37 rfl) (o_w hw 39 rfl) (o_w hw 38 rfl) (o_w hw 4 rfl) (o_w hw 40 rfl) (by decide) E654 (ra6_32 l Z a0 hw b590 b54 pv0 pv1 pv2 pv3 pv4 h650 n0 X665.ge0 ge598 ge61 (Ne.symm ne_b54_b590) E654 F655 F656 F657 F658 Aj) (by decide) 0 rfl (by decide) rfl (lenOf pd_6 rfl) rfl rfl (by decide) (by decide) fun T669 X670 => ?_
        show own_Go p e below _ (T669.setTop (mkF m 209 #[.val (.long p0), .second, .val (.long p1), .second, .val (.int p2), .val (.int p3), .val (.int p4), .val (.ref b54), .val (.ref b82), .val (.int cp), .val (.int (5 : Int32)), .val (.int (0 : Int32)), .val (.ref b590), .val (.int qs)] [(.int (5 : Int32))]))
        refine o_iload cx X670 at_209 rfl ?_
        refine o_icmpNo cx X670 at_211 (by decide) ?_
        refine o_iconst cx X670 (z := (1 : Int32)) at_214 rfl ?_
        refine o_goto cx X670 219 at_215 (by decide) (by decide) ?_
        refine o_istore cx X670 (Ls' := #[.val (.long p0), .second, .val (.long p1), .second, .val (.int p2), .val (.int p3), .val (.int p4), .val (.ref b54), .val (.ref b82), .val (.int cp), .val (.int (5 : Int32)), .val (.int (0 : Int32)), .val (.ref b590), .val (.int (1 : Int32))]) at_219 rfl ?_
        refine o_iload cx X670 at_221 rfl ?_
        refine o_ifNo cx X670 at_223 (by decide) ?_
        refine o_iload cx X670 at_226 rfl ?_
        refine o_ifNo cx X670 at_228 (by decide) ?_
        refine o_aload cx X670 at_231 rfl rfl ?_
        refine o_iconst cx X670 (z := (0 : Int32)) at_233 rfl ?_
        refine o_callVp cx X670 (y' := (⟨"com/example/needlewise/needlewise/Carry", "get", "(I)B"⟩ : MethodName)) (argsL := [(.int (0 : Int32))]) (st := []) (a := b590) at_234 (o_w hw 52 rfl) (o_w hw 53 rfl) (o_w hw 55 rfl) (o_w hw 54 rfl) (o_w hw 4 rfl) (o_w hw 56 rfl) (by decide) E654 (ra8_33 l Z a0 hw b590 b54 pv0 pv1 pv2 pv3 pv4 h650 n0 X670.ge0 ge598 ge61 (Ne.symm ne_b54_b590) E654 F655 F656 F657 F658 Aj) (by decide) 0 rfl (by decide) rfl (lenOf pd_8 rfl) rfl rfl (by decide) (by decide) fun T674 X675 => ?_
        show own_Go p e below _ (T674.setTop (mkF m 237 #[.val (.long p0), .second, .val (.long p1), .second, .val (.int p2), .val (.int p3), .val (.int p4), .val (.ref b54), .val (.ref b82), .val (.int cp), .val (.int (5 : Int32)), .val (.int (0 : Int32)), .val (.ref b590), .val (.int (1 : Int32))] [(.int (nar .byte pv0))]))
        refine o_aload cx X675 at_237 rfl rfl ?_
        refine o_iload cx X675 at_239 rfl ?_
        refine o_ldB cx X675 (v := (.int pv0)) at_241 Aj 0 (by decide) rfl rfl ?_
        refine o_icmpNo cx X675 at_242 (teq npv0).2 ?_
        refine o_aload cx X675 at_245 rfl rfl ?_
        refine o_iload cx X675 at_247 rfl ?_
        refine o_iconst cx X675 (z := (1 : Int32)) at_249 rfl ?_
        refine o_isub cx X675 (z := (4 : Int32)) at_250 rfl ?_
        refine o_callVp cx X675 (y' := (⟨"com/example/needlewise/needlewise/Carry", "get", "(I)B"⟩ : MethodName)) (argsL := [(.int (4 : Int32))]) (st := []) (a := b590) at_251 (o_w hw 52 rfl) (o_w hw 53 rfl) (o_w hw 55 rfl) (o_w hw 54 rfl) (o_w hw 4 rfl) (o_w hw 56 rfl) (by decide) E654 (ra8_34 l Z a0 hw b590 b54 pv0 pv1 pv2 pv3 pv4 h650 n0 X675.ge0 ge598 ge61 (Ne.symm ne_b54_b590) E654 F655 F656 F657 F658 Aj) (by decide) 0 rfl (by decide) rfl (lenOf pd_8 rfl) rfl rfl (by decide) (by decide) fun T679 X680 => ?_
        show own_Go p e below _ (T679.setTop (mkF m 254 #[.val (.long p0), .second, .val (.long p1), .second, .val (.int p2), .val (.int p3), .val (.int p4), .val (.ref b54), .val (.ref b82), .val (.int cp), .val (.int (5 : Int32)), .val (.int (0 : Int32)), .val (.ref b590), .val (.int (1 : Int32))] [(.int (nar .byte pv4))]))
        refine o_aload cx X680 at_254 rfl rfl ?_
        refine o_iconst cx X680 (z := (4 : Int32)) at_256 rfl ?_
        refine o_ldB cx X680 (v := (.int pv4)) at_257 Aj 4 (by decide) rfl rfl ?_
        refine o_icmpNo cx X680 at_258 (teq npv4).2 ?_
        refine o_iconst cx X680 (z := (1 : Int32)) at_261 rfl ?_
        refine o_goto cx X680 266 at_262 (by decide) (by decide) ?_
        refine o_istore cx X680 (Ls' := #[.val (.long p0), .second, .val (.long p1), .second, .val (.int p2), .val (.int p3), .val (.int p4), .val (.ref b54), .val (.ref b82), .val (.int cp), .val (.int (5 : Int32)), .val (.int (0 : Int32)), .val (.ref b590), .val (.int (1 : Int32))]) at_266 rfl ?_
        refine o_iload cx X680 at_268 rfl ?_
        exact o_retN cx X680 (z' := (1 : Int32)) at_270 (by simp) rfl rfl (by decide) (by decide)
    refine o_iload cx X600 at_145 rfl ?_
    refine o_iconst cx X600 (z := (1 : Int32)) at_147 rfl ?_
    refine o_iand cx X600 at_148 rfl ?_
    by_cases hc684 : (p4 &&& (1 : Int32)) = (0 : Int32)
    · refine o_ifYes cx X600 177 at_149 ((if0 _ _).trans (teq hc684).1) (by decide) (by decide) ?_
      exact J177 _ _ _ _ _ _ (X600.more (by decide) (by decide)) E605 F606 F608 F609 F610 A59 (Or.inl rfl)
    · refine o_ifNo cx X600 at_149 ((if0 _ _).trans (feq hc684).1) ?_
      refine o_iload cx X600 at_152 rfl ?_
      refine o_iconst cx X600 (z := (1 : Int32)) at_154 rfl ?_
      refine o_iushr cx X600 at_155 rfl ?_
      refine o_ldc cx X600 (z := (2147483647 : Int32)) at_156 (o_w hw 1 rfl) ?_
      refine o_iand cx X600 at_158 rfl ?_
      refine o_iload cx X600 at_159 rfl ?_
      refine o_iconst cx X600 (z := (1 : Int32)) at_161 rfl ?_
      refine o_iadd cx X600 at_162 rfl ?_
      refine o_irem cx X600 at_163 (own_nz hc0 hc5) rfl ?_
      refine o_istore cx X600 (Ls' := #[.val (.long p0), .second, .val (.long p1), .second, .val (.int p2), .val (.int p3), .val (.int p4), .val (.ref b54), .val (.ref b82), .val (.int cp), .val (.int (5 : Int32)), .val (.int (0 : Int32)), .val (.ref b590), .val (.int ((((p4.toUInt32 >>> ((1 : Int32) &&& 31).toUInt32).toInt32) &&& (2147483647 : Int32)) % (cp + (1 : Int32))))]) at_164 rfl ?_
      obtain ⟨hk0, hk1⟩ := own_rq ((p4.toUInt32 >>> ((1 : Int32) &&& 31).toUInt32).toInt32) cp hc0 hc5
      obtain ⟨kk, ekk⟩ : ∃ z : Int32, z = ((((p4.toUInt32 >>> ((1 : Int32) &&& 31).toUInt32).toInt32) &&& (2147483647 : Int32)) % (cp + (1 : Int32))) := ⟨_, rfl⟩
      rw [← ekk] at hk0 hk1 ⊢
      show own_Go p e below _ (T599.setTop (mkF m 166 #[.val (.long p0), .second, .val (.long p1), .second, .val (.int p2), .val (.int p3), .val (.int p4), .val (.ref b54), .val (.ref b82), .val (.int cp), .val (.int (5 : Int32)), .val (.int (0 : Int32)), .val (.ref b590), .val (.int kk)] []))
      refine o_aload cx X600 at_166 rfl rfl ?_
      refine o_iconst cx X600 (z := (0 : Int32)) at_168 rfl ?_
      refine o_aload cx X600 at_169 rfl rfl ?_
      refine o_iconst cx X600 (z := (0 : Int32)) at_171 rfl ?_
      refine o_iload cx X600 at_172 rfl ?_
      refine o_callV cx X600 (y' := (⟨"com/example/needlewise/needlewise/Carry", "keep", "(I[BII)V"⟩ : MethodName)) (argsL := [(.int (0 : Int32)), (.ref b82), (.int (0 : Int32)), (.int kk)]) (st := []) (a := b590) at_174 (o_w hw 41 rfl) (o_w hw 42 rfl) (o_w hw 44 rfl) (o_w hw 43 rfl) (o_w hw 4 rfl) (o_w hw 45 rfl) (by decide) E605 (rkeep l Z a0 hw b590 b82 b54 cp kk fv0 fv1 fv2 fv3 fv4 h601 n0 X600.ge0 ge598 ge89 (Ne.symm ne_b82_b590) E605 F606 F607 F608 F609 F610 F611 A87 nffv0 nffv1 nffv2 nffv3 nffv4 hc0 hc5 hk0 hk1) (by decide) 0 rfl (by decide) rfl (lenOf pd_7 rfl) rfl rfl (by decide) (by decide) fun v688 T685 h687 X686 Q689 => ?_
      obtain ⟨u1, u2, u3, rfl, Kk, Ek, Fk0, Fk1, Fk2, Fk3⟩ := Q689
      have A59 := A59.keep Kk (ninS ne_b54_b590 nin0)
      show own_Go p e below _ (T685.setTop (mkF m 177 #[.val (.long p0), .second, .val (.long p1), .second, .val (.int p2), .val (.int p3), .val (.int p4), .val (.ref b54), .val (.ref b82), .val (.int cp), .val (.int (5 : Int32)), .val (.int (0 : Int32)), .val (.ref b590), .val (.int kk)] []))
      exact J177 _ _ _ _ _ _ (X686.more (by decide) (by decide)) Ek Fk0 Fk1 Fk2 Fk3 A59 (Or.inr ⟨_, rfl⟩)
set_option maxRecDepth 65536 in
set_option maxHeartbeats 40000000 in
theorem comes_1 {Post : Tables → Env → Array Value → State → Outcome → State → Prop} (hpost : ∀ tb e args s v u, (limb_1_1.after args s (.returned v) u = true ∧ limb_1_2.after args s (.returned v) u = true ∧ True) → FrameEnd s (.returned v) u (Jvm.fieldLocs frame_1_writes args s ++ Jvm.arrayLocs frame_1_arrays args s ++ Jvm.staticLocs frame_1_statics s) 16 128 → Post tb e args s (.returned v) u) :
    ArmFor flags0 classFile x code maxLocals ret World_1 tables_1 room_1 Calls_1 rest_1 Pre_1 Post := by
  intro l hfl _ _ p e ha hc hk s m args below hf hA hF happ hP
  obtain ⟨hcalls, hrest, hpre⟩ := hP
  obtain ⟨-, -, -, hnamed, -, -, -, hat⟩ := (Spec.applies_iff hf).mp happ
  obtain ⟨hg, hn⟩ := and_e (Cond.before_iff.mp (show (Jvm.Cond.and given_1 narrow_1).before args s = true from hpre))
  obtain ⟨q0, g0⟩ := and_e hg
  obtain ⟨q1, g1⟩ := and_e g0
  obtain ⟨q2, g2⟩ := and_e g1
  obtain ⟨q3, g3⟩ := and_e g2
  obtain ⟨q4, g4⟩ := and_e g3
  obtain ⟨w0, w1, w2, w3, w4, rfl⟩ : ∃ w0 w1 w2 w3 w4 : Value, args = #[w0, w1, w2, w3, w4] := by
    have hs : args.size = 5 := by simpa [Cond.value, given_1] using q0
    obtain ⟨L⟩ := args
    match L, hs with
    | [w0, w1, w2, w3, w4], _ => exact ⟨w0, w1, w2, w3, w4, rfl⟩
  have hw := fun d (hd : d ∈ tables_1) => atoms_spec (ws := Jvm.Cond.code x code maxLocals ret :: tables_1) hat d (List.mem_cons_of_mem _ hd)
  obtain ⟨i0, ei0⟩ := isL_v q1
  obtain rfl : w0 = (.long i0) := Option.some.inj ei0
  obtain ⟨i1, ei1⟩ := isL_v q2
  obtain rfl : w1 = (.long i1) := Option.some.inj ei1
  obtain ⟨i2, ei2⟩ := is_v q3
  obtain rfl : w2 = (.int i2) := Option.some.inj ei2
  obtain ⟨i3, ei3⟩ := is_v q4
  obtain rfl : w3 = (.int i3) := Option.some.inj ei3
  obtain ⟨i4, ei4⟩ := is_v g4
  obtain rfl : w4 = (.int i4) := Option.some.inj ei4
  obtain ⟨n, o, h1, h2, h3, v, L, rfl, ⟨hv, _, N⟩, hq⟩ := rm0 l s _ hw i0 i1 i2 i3 i4 s.heap s.heap.size (Nat.le_refl _) tables_1 p e ha hc hk s m _ below hf ((Spec.applies_iff_loose hf).mp happ).1 ⟨rfl, State.Warmed39.refl s, rfl⟩ trivial
  obtain rfl : v = some (.int 1) := hv
  refine ⟨n, _, h1, h2, h3, hpost _ _ _ _ _ _ ⟨Cond.after_iff.mpr rfl, Cond.after_iff.mpr (eq_i res_at (Term.int_eval (1)) rfl), trivial⟩ ⟨hq.1, hq.2.1, (hq.2.2.sift fun y hy => Or.inr (N y hy)).mono (by decide) (by decide)⟩⟩
theorem main_1_1 : Claimed_1_1 := comes_1 fun _ _ _ _ _ _ h hF => ⟨h.1, hF⟩
theorem main_1_2 : Claimed_1_2 := comes_1 fun _ _ _ _ _ _ h hF => ⟨h.2.1, hF⟩
end Jvm.Pilot.@@N@@
namespace Jvm.Pilot.@@N@@
open Jvm Jvm.ClassFile Sem Op Lib Jvm.Free Jvm.Stand Jvm.Pilot.@@N@@.Jvm.D
/-! MADE BY PROGRAM (witnessworld.py) out of the Statement's table words and the real class files: 10 classes; the members and pool entries that the words name. The judged class is class 1, her method 1. -/
namespace start1
open Jvm.ClassFile
def u (s : String) : CpInfo := .utf8 (stringToUtf16 s)
/-- a pool by its gaps: so many unusable entries, then the entry; so many at the end -/
def gap : Nat → List CpInfo → List CpInfo
  | 0, r => r
  | n + 1, r => .unusable :: gap n r
def poolList (es : List (Nat × CpInfo)) (last : Nat) : List CpInfo := es.foldr (fun e r => gap e.1 (e.2 :: r)) (gap last [])
def pool (es : List (Nat × CpInfo)) (last : Nat) : Array CpInfo := ⟨poolList es last⟩
def fileOf (pool : Array CpInfo) (this : Nat) (attrs : Array Attribute := #[]) (ms : Array MethodInfo := #[]) (fl : Nat := 33) (sup : Nat := 0) (ifs : Array Nat := #[]) (fds : Array FieldInfo := #[]) : ClassFile where
  minorVersion := 0
  majorVersion := 65
  constantPool := pool
  accessFlags := fl
  thisClass := this
  superClass := sup
  interfaces := ifs
  fields := fds
  methods := ms
  attributes := attrs
def plain (name : String) (sup : Option ClassId) : Class where
  name := name
  kind := .ordinary
  loader := none
  accessFlags := 33
  super := sup
  interfaces := #[]
  cf := none
  fields := #[]
  methods := #[]
  instanceTypes := #[]
  staticTypes := #[]
  resolved := #[]
  callSites := []
  init := .initialized
  statics := none
  mirror := none

def pool0 : Array CpInfo := pool [(5, u "<init>"), (0, u "()V"), (1, .class_ 10), (1, u "java/lang/Object")] 113

def k0c0 : Code := { maxStack := 0, maxLocals := 1, code := object_method_1_code, exceptionTable := #[], attributes := #[] }
def k0m0 : Method := { name := "<init>", desc := "()V", sig := { parameters := [], returnType := none }, accessFlags := 1, code := some k0c0 }
/-- java/lang/Object -/
def k0 : Class := { plain "java/lang/Object" none with
  accessFlags := 33
  interfaces := #[]
  cf := some (fileOf pool0 8 #[] #[{ accessFlags := 1, nameIndex := 5, descriptorIndex := 6, attributes := #[] }] 33 0 #[] #[])
  fields := #[]
  methods := #[k0m0]
  instanceTypes := #[]
  staticTypes := #[]
  resolved := Array.replicate 124 none
  statics := none }

def pool1 : Array CpInfo := pool [(2, .class_ 4), (1, u "java/lang/Object"), (0, u "<init>"), (0, u "()V"), (0, .integer 2147483647), (0, .class_ 9), (0, u "com/example/needlewise/needlewise/Carry"), (0, .methodref 8 11), (0, .nameAndType 5 12), (0, u "([BI)V"), (0, .methodref 8 14), (0, .nameAndType 15 16), (0, u "keep"), (0, u "(I[BII)V"), (0, .methodref 8 18), (0, .nameAndType 19 20), (0, u "keepPattern"), (0, u "(I)V"), (0, .methodref 8 22), (0, .nameAndType 23 24), (0, u "array"), (0, u "()[B"), (0, .methodref 8 26), (0, .nameAndType 27 28), (0, u "offset"), (0, u "()I"), (0, .methodref 8 30), (0, .nameAndType 31 28), (0, u "count"), (0, .methodref 8 33), (0, .nameAndType 34 35), (0, u "get"), (0, u "(I)B"), (0, .class_ 37), (0, u "com/example/needlewise/needlewise/CarryKeepPatternPinLaw"), (2, u "law"), (0, u "(JJIII)Z")] 5

def k1m0 : Method := { name := "<init>", desc := "()V", sig := { parameters := [], returnType := none }, accessFlags := 1, code := none }
def k1c1 : Code := { maxStack := 5, maxLocals := 14, code := code, exceptionTable := #[], attributes := #[] }
def k1m1 : Method := { name := "law", desc := "(JJIII)Z", sig := { parameters := [.long, .long, .int, .int, .int], returnType := some .boolean }, accessFlags := 9, code := some k1c1 }
/-- com/example/needlewise/needlewise/CarryKeepPatternPinLaw -/
def k1 : Class := { plain "com/example/needlewise/needlewise/CarryKeepPatternPinLaw" (some 0) with
  accessFlags := 49
  interfaces := #[]
  cf := some (fileOf pool1 36 #[] #[{ accessFlags := 1, nameIndex := 5, descriptorIndex := 6, attributes := #[] }, { accessFlags := 9, nameIndex := 40, descriptorIndex := 41, attributes := #[] }] 49 2 #[] #[])
  fields := #[]
  methods := #[k1m0, k1m1]
  instanceTypes := #[]
  staticTypes := #[]
  resolved := Array.replicate 47 none
  statics := none }

def pool2 : Array CpInfo := pool [(1, .methodref 2 3), (0, .class_ 4), (0, .nameAndType 5 6), (0, u "java/lang/Object"), (0, u "<init>"), (0, u "()V"), (0, .fieldref 8 9), (0, .class_ 10), (0, .nameAndType 11 12), (0, u "com/example/needlewise/needlewise/Carry"), (0, u "pattern"), (0, u "[B"), (0, .fieldref 8 14), (0, .nameAndType 15 16), (0, u "capacity"), (0, u "I"), (0, .fieldref 8 18), (0, .nameAndType 19 16), (0, u "count"), (0, .fieldref 8 21), (0, .nameAndType 22 12), (0, u "held"), (0, .fieldref 8 24), (0, .nameAndType 25 16), (0, u "offset"), (0, .fieldref 8 27), (0, .nameAndType 28 12), (0, u "seam"), (0, .methodref 30 31), (0, .class_ 32), (0, .nameAndType 33 34), (0, u "java/lang/System"), (0, u "arraycopy"), (0, u "(Ljava/lang/Object;ILjava/lang/Object;II)V"), (0, u "([BI)V"), (2, u "()I"), (0, u "array"), (0, u "()[B"), (0, u "get"), (0, u "(I)B"), (1, u "keep"), (0, u "(I[BII)V"), (1, u "keepPattern"), (0, u "(I)V")] 2

def k2c0 : Code := { maxStack := 2, maxLocals := 3, code := prog_8_method_1_code, exceptionTable := #[], attributes := #[] }
def k2m0 : Method := { name := "<init>", desc := "([BI)V", sig := { parameters := [(.array .byte), .int], returnType := none }, accessFlags := 0, code := some k2c0 }
def k2c1 : Code := { maxStack := 1, maxLocals := 1, code := prog_8_method_2_code, exceptionTable := #[], attributes := #[] }
def k2m1 : Method := { name := "count", desc := "()I", sig := { parameters := [], returnType := some .int }, accessFlags := 0, code := some k2c1 }
def k2c2 : Code := { maxStack := 1, maxLocals := 1, code := prog_8_method_3_code, exceptionTable := #[], attributes := #[] }
def k2m2 : Method := { name := "array", desc := "()[B", sig := { parameters := [], returnType := some (.array .byte) }, accessFlags := 0, code := some k2c2 }
def k2c3 : Code := { maxStack := 1, maxLocals := 1, code := prog_8_method_4_code, exceptionTable := #[], attributes := #[] }
def k2m3 : Method := { name := "offset", desc := "()I", sig := { parameters := [], returnType := some .int }, accessFlags := 0, code := some k2c3 }
def k2c4 : Code := { maxStack := 3, maxLocals := 2, code := prog_8_method_5_code, exceptionTable := #[], attributes := #[] }
def k2m4 : Method := { name := "get", desc := "(I)B", sig := { parameters := [.int], returnType := some .byte }, accessFlags := 0, code := some k2c4 }
def k2c5 : Code := { maxStack := 6, maxLocals := 7, code := prog_8_method_7_code, exceptionTable := #[], attributes := #[] }
def k2m5 : Method := { name := "keep", desc := "(I[BII)V", sig := { parameters := [.int, (.array .byte), .int, .int], returnType := none }, accessFlags := 0, code := some k2c5 }
def k2c6 : Code := { maxStack := 3, maxLocals := 2, code := prog_8_method_8_code, exceptionTable := #[], attributes := #[] }
def k2m6 : Method := { name := "keepPattern", desc := "(I)V", sig := { parameters := [.int], returnType := none }, accessFlags := 0, code := some k2c6 }
/-- com/example/needlewise/needlewise/Carry -/
def k2 : Class := { plain "com/example/needlewise/needlewise/Carry" (some 0) with
  accessFlags := 48
  interfaces := #[]
  cf := some (fileOf pool2 8 #[] #[{ accessFlags := 0, nameIndex := 5, descriptorIndex := 35, attributes := #[] }, { accessFlags := 0, nameIndex := 19, descriptorIndex := 38, attributes := #[] }, { accessFlags := 0, nameIndex := 39, descriptorIndex := 40, attributes := #[] }, { accessFlags := 0, nameIndex := 25, descriptorIndex := 38, attributes := #[] }, { accessFlags := 0, nameIndex := 41, descriptorIndex := 42, attributes := #[] }, { accessFlags := 0, nameIndex := 44, descriptorIndex := 45, attributes := #[] }, { accessFlags := 0, nameIndex := 47, descriptorIndex := 48, attributes := #[] }] 48 2 #[] #[{ accessFlags := 18, nameIndex := 11, descriptorIndex := 12, attributes := #[] }, { accessFlags := 18, nameIndex := 15, descriptorIndex := 16, attributes := #[] }, { accessFlags := 2, nameIndex := 28, descriptorIndex := 12, attributes := #[] }, { accessFlags := 2, nameIndex := 22, descriptorIndex := 12, attributes := #[] }, { accessFlags := 2, nameIndex := 25, descriptorIndex := 16, attributes := #[] }, { accessFlags := 2, nameIndex := 19, descriptorIndex := 16, attributes := #[] }])
  fields := #[{ name := "pattern", type := (.array .byte), accessFlags := 18, slot := 0, constantValue := 0 }, { name := "capacity", type := .int, accessFlags := 18, slot := 1, constantValue := 0 }, { name := "seam", type := (.array .byte), accessFlags := 2, slot := 2, constantValue := 0 }, { name := "held", type := (.array .byte), accessFlags := 2, slot := 3, constantValue := 0 }, { name := "offset", type := .int, accessFlags := 2, slot := 4, constantValue := 0 }, { name := "count", type := .int, accessFlags := 2, slot := 5, constantValue := 0 }]
  methods := #[k2m0, k2m1, k2m2, k2m3, k2m4, k2m5, k2m6]
  instanceTypes := #[(.array .byte), .int, (.array .byte), (.array .byte), .int, .int]
  staticTypes := #[]
  resolved := Array.replicate 51 none
  statics := none }

def pool3 : Array CpInfo := pool [(2, .class_ 4), (1, u "java/lang/Object"), (0, u "<init>"), (0, u "()V"), (1, .class_ 10), (1, u "java/lang/System"), (0, u "allowSecurityManager"), (0, u "I"), (16, u "cons"), (0, u "Ljava/io/Console;"), (77, .class_ 110), (1, u "java/lang/System$CallersHolder"), (43, u "initialErrStream"), (0, u "Ljava/io/PrintStream;"), (19, u "security"), (0, u "Ljava/lang/SecurityManager;"), (31, .class_ 209), (0, u "java/lang/System$1"), (7, u "props"), (0, u "Ljava/util/Properties;"), (2, u "lineSeparator"), (0, u "Ljava/lang/String;"), (96, .class_ 321), (1, u "java/lang/System$LoggerFinder"), (5, .class_ 328), (0, u "java/lang/System$Logger"), (67, u "err"), (2, u "out"), (91, u "notSupportedJnuEncoding"), (15, u "in"), (17, u "initialIn"), (0, u "Ljava/io/InputStream;"), (35, u "bootLayer"), (0, u "Ljava/lang/ModuleLayer;"), (99, .class_ 664), (0, u "java/lang/System$2"), (9, u "NEVER"), (2, u "MAYBE"), (49, u "arraycopy"), (0, u "(Ljava/lang/Object;ILjava/lang/Object;II)V"), (72, .class_ 802), (0, u "java/lang/System$Logger$Level")] 31

def k3m0 : Method := { name := "<init>", desc := "()V", sig := { parameters := [], returnType := none }, accessFlags := 2, code := none }
def k3m1 : Method := { name := "arraycopy", desc := "(Ljava/lang/Object;ILjava/lang/Object;II)V", sig := { parameters := [(.object "java/lang/Object"), .int, (.object "java/lang/Object"), .int, .int], returnType := none }, accessFlags := 265, code := none }
/-- java/lang/System -/
def k3 : Class := { plain "java/lang/System" (some 0) with
  accessFlags := 49
  interfaces := #[]
  cf := some (fileOf pool3 8 #[.nestMembers #[319, 327, 801, 108, 663, 208]] #[{ accessFlags := 2, nameIndex := 5, descriptorIndex := 6, attributes := #[] }, { accessFlags := 265, nameIndex := 727, descriptorIndex := 728, attributes := #[] }] 49 2 #[] #[{ accessFlags := 25, nameIndex := 507, descriptorIndex := 526, attributes := #[] }, { accessFlags := 25, nameIndex := 399, descriptorIndex := 155, attributes := #[] }, { accessFlags := 25, nameIndex := 396, descriptorIndex := 155, attributes := #[] }, { accessFlags := 10, nameIndex := 525, descriptorIndex := 526, attributes := #[] }, { accessFlags := 26, nameIndex := 674, descriptorIndex := 12, attributes := #[] }, { accessFlags := 26, nameIndex := 677, descriptorIndex := 12, attributes := #[] }, { accessFlags := 10, nameIndex := 11, descriptorIndex := 12, attributes := #[] }, { accessFlags := 74, nameIndex := 175, descriptorIndex := 176, attributes := #[] }, { accessFlags := 10, nameIndex := 491, descriptorIndex := 222, attributes := #[] }, { accessFlags := 74, nameIndex := 29, descriptorIndex := 30, attributes := #[] }, { accessFlags := 74, nameIndex := 154, descriptorIndex := 155, attributes := #[] }, { accessFlags := 10, nameIndex := 217, descriptorIndex := 218, attributes := #[] }, { accessFlags := 10, nameIndex := 221, descriptorIndex := 222, attributes := #[] }, { accessFlags := 8, nameIndex := 562, descriptorIndex := 563, attributes := #[] }])
  fields := #[{ name := "in", type := (.object "java/io/InputStream"), accessFlags := 25, slot := 0, constantValue := 0 }, { name := "out", type := (.object "java/io/PrintStream"), accessFlags := 25, slot := 1, constantValue := 0 }, { name := "err", type := (.object "java/io/PrintStream"), accessFlags := 25, slot := 2, constantValue := 0 }, { name := "initialIn", type := (.object "java/io/InputStream"), accessFlags := 10, slot := 3, constantValue := 0 }, { name := "NEVER", type := .int, accessFlags := 26, slot := 4, constantValue := 0 }, { name := "MAYBE", type := .int, accessFlags := 26, slot := 5, constantValue := 0 }, { name := "allowSecurityManager", type := .int, accessFlags := 10, slot := 6, constantValue := 0 }, { name := "security", type := (.object "java/lang/SecurityManager"), accessFlags := 74, slot := 7, constantValue := 0 }, { name := "notSupportedJnuEncoding", type := (.object "java/lang/String"), accessFlags := 10, slot := 8, constantValue := 0 }, { name := "cons", type := (.object "java/io/Console"), accessFlags := 74, slot := 9, constantValue := 0 }, { name := "initialErrStream", type := (.object "java/io/PrintStream"), accessFlags := 74, slot := 10, constantValue := 0 }, { name := "props", type := (.object "java/util/Properties"), accessFlags := 10, slot := 11, constantValue := 0 }, { name := "lineSeparator", type := (.object "java/lang/String"), accessFlags := 10, slot := 12, constantValue := 0 }, { name := "bootLayer", type := (.object "java/lang/ModuleLayer"), accessFlags := 8, slot := 13, constantValue := 0 }]
  methods := #[k3m0, k3m1]
  instanceTypes := #[]
  staticTypes := #[(.object "java/io/InputStream"), (.object "java/io/PrintStream"), (.object "java/io/PrintStream"), (.object "java/io/InputStream"), .int, .int, .int, (.object "java/lang/SecurityManager"), (.object "java/lang/String"), (.object "java/io/Console"), (.object "java/io/PrintStream"), (.object "java/util/Properties"), (.object "java/lang/String"), (.object "java/lang/ModuleLayer")]
  resolved := Array.replicate 834 none
  statics := none }

def pool4 : Array CpInfo := pool [(1, u "java/lang/Cloneable"), (0, .class_ 1), (0, u "java/lang/Object"), (0, .class_ 3)] 3

/-- java/lang/Cloneable -/
def k4 : Class := { plain "java/lang/Cloneable" (some 0) with
  accessFlags := 1537
  interfaces := #[]
  cf := some (fileOf pool4 2 #[] #[] 1537 4 #[] #[])
  fields := #[]
  methods := #[]
  instanceTypes := #[]
  staticTypes := #[]
  resolved := Array.replicate 8 none
  statics := none }

def pool5 : Array CpInfo := pool [(1, u "java/io/Serializable"), (0, .class_ 1), (0, u "java/lang/Object"), (0, .class_ 3)] 3

/-- java/io/Serializable -/
def k5 : Class := { plain "java/io/Serializable" (some 0) with
  accessFlags := 1537
  interfaces := #[]
  cf := some (fileOf pool5 2 #[] #[] 1537 4 #[] #[])
  fields := #[]
  methods := #[]
  instanceTypes := #[]
  staticTypes := #[]
  resolved := Array.replicate 8 none
  statics := none }

/-- the primitive byte -/
def k6 : Class := { plain "byte" none with kind := .primitive 'B', accessFlags := 0x411 }
/-- [B -/
def k7 : Class := { plain "[B" (some 0) with kind := .array 6 .byte, interfaces := #[4, 5], accessFlags := 1041 }

/-- the primitive int -/
def k8 : Class := { plain "int" none with kind := .primitive 'I', accessFlags := 0x411 }
/-- [I -/
def k9 : Class := { plain "[I" (some 0) with kind := .array 8 .int, interfaces := #[4, 5], accessFlags := 1041 }

def heap : Heap := #[]
def classes : Array Class := #[k0, k1, k2, k3, k4, k5, k6, k7, k8, k9]
def interned : List (Array UInt16 × Addr) := []
def slotsUsed : Nat := 0
def theMethod : MethodId := ⟨1, 1⟩
def args0 : Array Value := #[.long 5, .long 3, .int 4, .int 2, .int 1]
def aboutOver (below : List Frame) : State where
  vm := { classes := classes, interned := interned.toArray }
  heap := heap
  slotsUsed := slotsUsed
  threads := #[{ frames := .invoking theMethod args0 :: below }]
def below0 : List Frame := [.native { method := ⟨0, 0⟩, args := #[] }]
def about1 : State := aboutOver below0
def p0 : Program := .bare "" "" ""
def e0 : Env := launch0.env 0 0 0
theorem w_frames : about1.frames = Frame.invoking theMethod args0 :: below0 := rfl
set_option maxRecDepth 65536 in
theorem w_args : argsFit about1.vm theMethod args0 = true := by decide +kernel
set_option maxRecDepth 65536 in
theorem w_heap : heapFits about1 = true := by decide +kernel
set_option maxRecDepth 65536 in
theorem w_runnable : about1.curStatus? = some .runnable := by decide +kernel
set_option maxRecDepth 65536 in
theorem w_alone : about1.alone = true := by decide +kernel
set_option maxRecDepth 65536 in
theorem w_named : about1.methodNamed? x = some theMethod := by decide +kernel
set_option maxRecDepth 65536 in
theorem w_hears : about1.hears theMethod below0 = true := by decide +kernel
set_option maxRecDepth 65536 in
theorem w_ripe : about1.ripe theMethod args0 below0 = true := by decide +kernel
theorem w_running : about1.status = .running := rfl
set_option maxRecDepth 65536 in
theorem w_room : about1.hasRoom e0.platform room_1 = true :=
  launch0.hasRoom_least _ room_1 (by decide +kernel) (by decide +kernel) (by decide +kernel) (by decide +kernel) (by decide +kernel) (by decide +kernel)
theorem allAtoms_all (ts : List Jvm.Cond) (a : Array Jvm.Value) (st : Jvm.State) : (allAtoms ts).before a st = ts.all (fun c => c.before a st) := by
  induction ts with
  | nil => rfl
  | cons c t ih =>
    show (Jvm.Cond.and c (allAtoms t)).before a st = _
    rw [Jvm.Cond.before_and, ih, List.all_cons]
def words1 : List Jvm.Cond := Jvm.Cond.code x code maxLocals ret :: tables_1
/-- a 'code' word, met by the world's own term for the bytes: nothing is compared byte by byte -/
theorem code_word {y : MethodName} {bytes : ByteArray} {mx : Nat} {rt : Option FieldType} {a : Array Value} {s : State} {m : MethodId} {meth : Method} {c : Code} (h1 : s.methodNamed? y = some m) (h2 : s.vm.method? m = some meth) (h3 : meth.code = some c) (h4 : c.code = bytes)
    (h5 : (c.maxLocals == mx && c.exceptionTable.isEmpty && decide (c.maxStack ≤ mostOperands) && decide (meth.sig.returnType = rt) && !meth.locks && decide (parseMethodDescriptor y.desc = some meth.sig)) = true) : (Jvm.Cond.code y bytes mx rt).before a s = true := by
  simp only [Bool.and_eq_true, beq_iff_eq, Bool.not_eq_true', decide_eq_true_eq] at h5
  obtain ⟨⟨⟨⟨⟨g1, g2⟩, g3⟩, g4⟩, g5⟩, g6⟩ := h5
  simp [Cond.before, Cond.holds, Cond.value, h1, h2, h3, h4, g1, g2, g3, g4, g5, g6]
def isCode : Jvm.Cond → Bool
  | .code _ _ _ _ => true
  | _ => false
theorem all_split {L : List Jvm.Cond} {P : Jvm.Cond → Bool} (h1 : L.all (fun c => isCode c || P c) = true) (h2 : ∀ c ∈ L.filter isCode, P c = true) : L.all P = true := by
  refine List.all_eq_true.mpr fun c hc => ?_
  have h := List.all_eq_true.mp h1 c hc
  rcases Bool.eq_false_or_eq_true (isCode c) with hi | hi
  · exact h2 c (List.mem_filter.mpr ⟨hc, hi⟩)
  · simpa [hi] using h
set_option maxRecDepth 65536 in
theorem w_c0 : (Jvm.Cond.code x code maxLocals ret).before args0 about1 = true := code_word (m := ⟨1, 1⟩) (meth := k1m1) (c := k1c1) (by decide +kernel) rfl rfl rfl (by decide +kernel)
set_option maxRecDepth 65536 in
theorem w_c1 : (Jvm.Cond.code ({ cls := "com/example/needlewise/needlewise/Carry", name := "<init>", desc := "([BI)V" } : Jvm.MethodName) prog_8_method_1_code (3 : Nat) (Option.none : Option Jvm.ClassFile.FieldType)).before args0 about1 = true := code_word (m := ⟨2, 0⟩) (meth := k2m0) (c := k2c0) (by decide +kernel) rfl rfl rfl (by decide +kernel)
set_option maxRecDepth 65536 in
theorem w_c2 : (Jvm.Cond.code ({ cls := "java/lang/Object", name := "<init>", desc := "()V" } : Jvm.MethodName) object_method_1_code (1 : Nat) (Option.none : Option Jvm.ClassFile.FieldType)).before args0 about1 = true := code_word (m := ⟨0, 0⟩) (meth := k0m0) (c := k0c0) (by decide +kernel) rfl rfl rfl (by decide +kernel)
set_option maxRecDepth 65536 in
theorem w_c3 : (Jvm.Cond.code ({ cls := "com/example/needlewise/needlewise/Carry", name := "keepPattern", desc := "(I)V" } : Jvm.MethodName) prog_8_method_8_code (2 : Nat) (Option.none : Option Jvm.ClassFile.FieldType)).before args0 about1 = true := code_word (m := ⟨2, 6⟩) (meth := k2m6) (c := k2c6) (by decide +kernel) rfl rfl rfl (by decide +kernel)
set_option maxRecDepth 65536 in
theorem w_c4 : (Jvm.Cond.code ({ cls := "com/example/needlewise/needlewise/Carry", name := "array", desc := "()[B" } : Jvm.MethodName) prog_8_method_3_code (1 : Nat) (Option.some (Jvm.ClassFile.FieldType.array Jvm.ClassFile.FieldType.byte))).before args0 about1 = true := code_word (m := ⟨2, 2⟩) (meth := k2m2) (c := k2c2) (by decide +kernel) rfl rfl rfl (by decide +kernel)
set_option maxRecDepth 65536 in
theorem w_c5 : (Jvm.Cond.code ({ cls := "com/example/needlewise/needlewise/Carry", name := "offset", desc := "()I" } : Jvm.MethodName) prog_8_method_4_code (1 : Nat) (Option.some Jvm.ClassFile.FieldType.int)).before args0 about1 = true := code_word (m := ⟨2, 3⟩) (meth := k2m3) (c := k2c3) (by decide +kernel) rfl rfl rfl (by decide +kernel)
set_option maxRecDepth 65536 in
theorem w_c6 : (Jvm.Cond.code ({ cls := "com/example/needlewise/needlewise/Carry", name := "count", desc := "()I" } : Jvm.MethodName) prog_8_method_2_code (1 : Nat) (Option.some Jvm.ClassFile.FieldType.int)).before args0 about1 = true := code_word (m := ⟨2, 1⟩) (meth := k2m1) (c := k2c1) (by decide +kernel) rfl rfl rfl (by decide +kernel)
set_option maxRecDepth 65536 in
theorem w_c7 : (Jvm.Cond.code ({ cls := "com/example/needlewise/needlewise/Carry", name := "keep", desc := "(I[BII)V" } : Jvm.MethodName) prog_8_method_7_code (7 : Nat) (Option.none : Option Jvm.ClassFile.FieldType)).before args0 about1 = true := code_word (m := ⟨2, 5⟩) (meth := k2m5) (c := k2c5) (by decide +kernel) rfl rfl rfl (by decide +kernel)
set_option maxRecDepth 65536 in
theorem w_c8 : (Jvm.Cond.code ({ cls := "com/example/needlewise/needlewise/Carry", name := "get", desc := "(I)B" } : Jvm.MethodName) prog_8_method_5_code (2 : Nat) (Option.some Jvm.ClassFile.FieldType.byte)).before args0 about1 = true := code_word (m := ⟨2, 4⟩) (meth := k2m4) (c := k2c4) (by decide +kernel) rfl rfl rfl (by decide +kernel)
def codes1 : List Jvm.Cond := [Jvm.Cond.code x code maxLocals ret, Jvm.Cond.code ({ cls := "com/example/needlewise/needlewise/Carry", name := "<init>", desc := "([BI)V" } : Jvm.MethodName) prog_8_method_1_code (3 : Nat) (Option.none : Option Jvm.ClassFile.FieldType), Jvm.Cond.code ({ cls := "java/lang/Object", name := "<init>", desc := "()V" } : Jvm.MethodName) object_method_1_code (1 : Nat) (Option.none : Option Jvm.ClassFile.FieldType), Jvm.Cond.code ({ cls := "com/example/needlewise/needlewise/Carry", name := "keepPattern", desc := "(I)V" } : Jvm.MethodName) prog_8_method_8_code (2 : Nat) (Option.none : Option Jvm.ClassFile.FieldType), Jvm.Cond.code ({ cls := "com/example/needlewise/needlewise/Carry", name := "array", desc := "()[B" } : Jvm.MethodName) prog_8_method_3_code (1 : Nat) (Option.some (Jvm.ClassFile.FieldType.array Jvm.ClassFile.FieldType.byte)), Jvm.Cond.code ({ cls := "com/example/needlewise/needlewise/Carry", name := "offset", desc := "()I" } : Jvm.MethodName) prog_8_method_4_code (1 : Nat) (Option.some Jvm.ClassFile.FieldType.int), Jvm.Cond.code ({ cls := "com/example/needlewise/needlewise/Carry", name := "count", desc := "()I" } : Jvm.MethodName) prog_8_method_2_code (1 : Nat) (Option.some Jvm.ClassFile.FieldType.int), Jvm.Cond.code ({ cls := "com/example/needlewise/needlewise/Carry", name := "keep", desc := "(I[BII)V" } : Jvm.MethodName) prog_8_method_7_code (7 : Nat) (Option.none : Option Jvm.ClassFile.FieldType), Jvm.Cond.code ({ cls := "com/example/needlewise/needlewise/Carry", name := "get", desc := "(I)B" } : Jvm.MethodName) prog_8_method_5_code (2 : Nat) (Option.some Jvm.ClassFile.FieldType.byte)]
set_option maxRecDepth 65536 in
theorem codes_eq : words1.filter isCode = codes1 := rfl
theorem w_codes : ∀ c ∈ words1.filter isCode, c.before args0 about1 = true := by
  rw [codes_eq]
  intro c hc
  simp only [codes1, List.mem_cons, List.not_mem_nil, or_false] at hc
  rcases hc with rfl | rfl | rfl | rfl | rfl | rfl | rfl | rfl | rfl
  · exact w_c0
  · exact w_c1
  · exact w_c2
  · exact w_c3
  · exact w_c4
  · exact w_c5
  · exact w_c6
  · exact w_c7
  · exact w_c8
set_option maxRecDepth 65536 in
theorem w_t1 : (words1.take 24).all (fun c => isCode c || c.before args0 about1) = true := by decide +kernel
set_option maxRecDepth 65536 in
theorem w_t2 : ((words1.drop 24).take 24).all (fun c => isCode c || c.before args0 about1) = true := by decide +kernel
set_option maxRecDepth 65536 in
theorem w_t3 : ((words1.drop 24).drop 24).all (fun c => isCode c || c.before args0 about1) = true := by decide +kernel
theorem w_tables : (allAtoms (Jvm.Cond.code x code maxLocals ret :: tables_1)).before args0 about1 = true := by
  rw [allAtoms_all]
  show words1.all (fun c => c.before args0 about1) = true
  refine all_split ?_ w_codes
  rw [← List.take_append_drop 24 words1, List.all_append, w_t1, ← List.take_append_drop 24 (words1.drop 24), List.all_append, w_t2, w_t3]
  rfl
set_option maxRecDepth 65536 in
theorem w_case : (Jvm.Cond.and given_1 narrow_1).before args0 about1 = true := by decide +kernel
theorem w_applies : (headSpec (Jvm.Cond.code x code maxLocals ret :: tables_1) room_1).applies x e0.platform about1 = true :=
  (Spec.applies_iff w_frames).mpr ⟨w_running, w_runnable, w_alone, w_named, w_hears, w_ripe, w_room, w_tables⟩
theorem atStart : AtStart classFile x code maxLocals ret World_1 tables_1 room_1 Calls_1 rest_1 Pre_1 launch0 p0 e0 about1 theMethod args0 below0 :=
  ⟨lists_1, trivial, launch0.admits_env _ _ _, launch0.least_env, fairChoices_fair.cas, fairChoices_fair.clock, w_frames, w_args, w_heap, w_applies, trivial, trivial, w_case⟩
end start1
theorem witness_1 : WitnessClaimed_1 := ⟨start1.p0, start1.e0, start1.about1, start1.theMethod, start1.args0, start1.below0, start1.atStart⟩
end Jvm.Pilot.@@N@@
